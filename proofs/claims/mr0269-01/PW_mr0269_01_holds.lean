import PyProof.Rows.All
import Wide.All
import OpenK.AllK
import Wide.FinOn
import PySem.Challenge.RW_mr0269_01
set_option Elab.async false
set_option linter.unusedVariables false
set_option linter.unusedSimpArgs false
namespace Mine
theorem ex3 {α : Type} {p q : α → Prop} {r : Prop} (h : ∃ x, p x ∧ q x) (k : ∀ x, p x → q x → r) : r := h.elim fun x y => k x y.1 y.2
theorem ifF {p q : Prop} (h : q) : if false = true then p else q := by simpa using h
theorem ifT {p q : Prop} (h : p) : if true = true then p else q := by simpa using h
theorem ifNF {p q : Prop} (h : p) : if (!false) = true then p else q := by simpa using h
theorem ifNT {p q : Prop} (h : q) : if (!true) = true then p else q := by simpa using h
end Mine
section
open PySem PyProof.Rows
namespace Mine
/-! ## names and values of a frame -/
inductive IxAt : List Str → Str → Nat → Prop
  | here {x xs} : IxAt (x :: xs) x 0
  | there {x y xs i} : IxAt xs x i → IxAt (y :: xs) x (i + 1)
noncomputable def lk : List Str → List (Option Value) → Str → Option Value
  | n :: ns, v :: vs, x => if x = n then v else lk ns vs x
  | _, _, _ => none
theorem IxAt.mem {ns : List Str} {x : Str} {i : Nat} (h : IxAt ns x i) : x ∈ ns := by
  induction h with
  | here => exact .head _
  | there _ ih => exact .tail _ ih
theorem lk_at {ns : List Str} {x : Str} {i : Nat} (h : IxAt ns x i) : ∀ {vs : List (Option Value)} {v : Option Value}, ns.Nodup → vs[i]? = some v → lk ns vs x = v := by
  induction h with
  | here =>
    intro vs v _ hv
    cases vs with
    | nil => simp at hv
    | cons u us => simp at hv; subst hv; exact if_pos rfl
  | @there x y xs i h ih =>
    intro vs v hn hv
    cases vs with
    | nil => simp at hv
    | cons u us =>
      have hn' := List.nodup_cons.mp hn
      have : x ≠ y := fun e => hn'.1 (e ▸ h.mem)
      show (if x = y then u else lk xs us x) = v
      rw [if_neg this]
      exact ih hn'.2 (by simpa using hv)
theorem lk_set {ns : List Str} {x : Str} {i : Nat} (h : IxAt ns x i) : ∀ {vs : List (Option Value)} {v : Value}, ns.Nodup → vs.length = ns.length →
    (fun y => if y = x then some v else lk ns vs y) = lk ns (vs.set i (some v)) := by
  induction h with
  | @here x xs =>
    intro vs v _ hl
    cases vs with
    | nil => simp at hl
    | cons u us =>
      funext y
      show (if y = x then some v else (if y = x then u else lk xs us y)) = (if y = x then some v else lk xs us y)
      by_cases e : y = x
      · rw [if_pos e, if_pos e]
      · rw [if_neg e, if_neg e, if_neg e]
  | @there x z xs i h ih =>
    intro vs v hn hl
    cases vs with
    | nil => simp at hl
    | cons u us =>
      have hn' := List.nodup_cons.mp hn
      have hxz : x ≠ z := fun e => hn'.1 (e ▸ h.mem)
      have := ih (vs := us) (v := v) hn'.2 (by simpa using hl)
      funext y
      have e2 := congrFun this y
      show (if y = x then some v else (if y = z then u else lk xs us y)) = (if y = z then u else lk xs (us.set i (some v)) y)
      rw [← e2]
      by_cases e : y = x
      · subst e; simp [hxz]
      · simp [e]
/-! ## the abstract state -/
inductive AO where
  | list (vs : List Value)
  | tuple (vs : List Value)
  | cell (v : Option Value)
  | lit (l : Addr) (i : Nat)
  | obj (o : Obj)
noncomputable def Rep : AO → Obj → Prop
  | .list vs, o => ∃ n, o = { cls := .type "list", data := .seq vs.toArray n }
  | .tuple vs, o => ∃ n, o = { cls := .type "tuple", data := .seq vs.toArray n }
  | .cell v, o => o.data = .cell v
  | .lit l i, o => o.cls = .type "list_iterator" ∧ o.data = .fields #[.ref l, .int i 0]
  | .obj o', o => o = o'
structure St where
  v : List (Option Value)
  D : Addr → Option AO
structure Cf where
  env : Env
  names : List Str
  R : Addr → Option Obj
  os : OsState
  hb : Heap
structure EnvOk (env : Env) (names : List Str) : Prop where
  kind : env.scope.kind = .function
  loc : ∀ x ∈ names, env.kindOf x = some .local
  nd : names.Nodup
  dbg : ∀ x ∈ names, (x == ("__debug__" : Str)) = false
  globals : env.globals = mainGlobals
  builtins : env.builtins = builtinsNs
structure Abs (c : Cf) (σ : St) (s : Shared) : Prop where
  ok : EnvOk c.env c.names
  len : σ.v.length = c.names.length
  ns : s.heap.Ns c.env.locals (lk c.names σ.v)
  rig : ∀ a o, c.R a = some o → s.heap.get? a = some o
  dat : ∀ a x, σ.D a = some x → ∃ o, s.heap.get? a = some o ∧ Rep x o
  apart : ∀ a o, σ.D a = some o → a ≠ c.env.locals ∧ c.R a = none
  fr : c.R c.env.locals = none
  base : ∀ a o, c.hb.get? a = some o → c.R a = some o
  gens : s.gens = #[]
  os : s.os = c.os
theorem Abs.hbk {c : Cf} {σ : St} {s : Shared} (h : Abs c σ s) : ∀ a o, c.hb.get? a = some o → s.heap.get? a = some o := fun a o e => h.rig a o (h.base a o e)
theorem Abs.fresh {c : Cf} {σ : St} {s : Shared} (h : Abs c σ s) : σ.D s.heap.objs.size = none := by
  cases e : σ.D s.heap.objs.size with
  | none => rfl
  | some o => obtain ⟨_, e1, _⟩ := h.dat _ _ e; exact absurd (Heap.lt_size e1) (Nat.lt_irrefl _)
theorem Abs.freshR {c : Cf} {σ : St} {s : Shared} (h : Abs c σ s) : c.R s.heap.objs.size = none := by
  cases e : c.R s.heap.objs.size with
  | none => rfl
  | some o => exact absurd (Heap.lt_size (h.rig _ _ e)) (Nat.lt_irrefl _)
theorem Abs.ltL {c : Cf} {σ : St} {s : Shared} (h : Abs c σ s) : c.env.locals < s.heap.objs.size := h.ns.lt
noncomputable def upd (D : Addr → Option AO) (a : Addr) (x : AO) : Addr → Option AO := fun b => if b = a then some x else D b
theorem upd_self {D : Addr → Option AO} {a : Addr} {x : AO} : upd D a x a = some x := if_pos rfl
theorem upd_ne {D : Addr → Option AO} {a b : Addr} {x : AO} (h : b ≠ a) : upd D a x b = D b := if_neg h
theorem upd_upd {D : Addr → Option AO} {a : Addr} {x y : AO} : upd (upd D a x) a y = upd D a y := by
  funext b; unfold upd; split <;> rfl
theorem upd_comm {D : Addr → Option AO} {a b : Addr} {x y : AO} (h : a ≠ b) : upd (upd D a x) b y = upd (upd D b y) a x := by
  funext d; unfold upd; by_cases h1 : d = a <;> by_cases h2 : d = b <;> simp_all
theorem upd_same {D : Addr → Option AO} {a : Addr} {x : AO} (h : D a = some x) : upd D a x = D := by
  funext b; unfold upd; by_cases h1 : b = a
  · rw [if_pos h1, h1, h]
  · rw [if_neg h1]
theorem upd_le {D : Addr → Option AO} {a : Addr} {x : AO} (h : D a = none) : ∀ b y, D b = some y → upd D a x b = some y := fun b y e =>
  (upd_ne fun q => by rw [q, h] at e; cases e).trans e
@[reducible] noncomputable def St.put (σ : St) (a : Addr) (o : AO) : St := { σ with D := upd σ.D a o }
@[reducible] noncomputable def Cf.nm (c : Cf) (ns : List Str) : Cf := { c with names := ns }
variable {prog : Program} {w : World}
noncomputable def WP (prog : Program) (w : World) (c : Cf) (A : Around) {α : Type} (t : Sem α) (Q : α → St → Prop) (σ : St) : Prop :=
  ∀ s, Abs c σ s → wpAny (model prog w) A t (fun v s' => ∃ σ', Abs c σ' s' ∧ Q v σ') (fun _ _ => False) s
noncomputable def WC (prog : Program) (w : World) (c : Cf) (A : Around) (t : Code) (Q : Flow → St → Prop) (σ : St) : Prop :=
  ∀ s, Abs c σ s → codeAny (model prog w) A t (fun r s' => ∃ f σ', r = .ok f ∧ Abs c σ' s' ∧ Q f σ') s
section
variable {c : Cf} {A : Around} {α β : Type} {σ : St}
theorem WP.mono {t : Sem α} {Q Q' : α → St → Prop} (h : WP prog w c A t Q σ) (hq : ∀ v σ', Q v σ' → Q' v σ') : WP prog w c A t Q' σ :=
  fun s hs => wpAny_mono (h s hs) (fun _ _ xq => ex3 xq fun σ' a q => ⟨σ', a, hq _ _ q⟩) fun _ _ e => e
theorem WP.bind {m : Sem α} {f : α → Sem β} {Q : β → St → Prop} (h : WP prog w c A m (fun a σ' => WP prog w c A (f a) Q σ') σ) : WP prog w c A (m >>= f) Q σ :=
  fun s hs => wpAny_bind (wpAny_mono (h s hs) (fun _ s' ⟨_, a, q⟩ => q s' a) fun _ _ e => e.elim)
theorem WP.pure {a : α} {Q : α → St → Prop} (h : Q a σ) : WP prog w c A (Pure.pure a : Sem α) Q σ := fun _ hs => wpAny_pure ⟨σ, hs, h⟩
theorem WP.stand {p : Pos} {Q : Unit → St → Prop} (h : Q () σ) : WP prog w c A (standAt p) Q σ := fun _ hs => wpAny_standAt ⟨σ, hs, h⟩
theorem WP.rule {t : String} {Q : Unit → St → Prop} (h : Q () σ) : WP prog w c A (PySem.rule t) Q σ := fun _ hs => wpAny_rule ⟨σ, hs, h⟩
theorem WP.holding {vs : List Value} {m : Sem α} {Q : α → St → Prop} (h : WP prog w c A m Q σ) : WP prog w c A (holding vs m) Q σ :=
  fun s hs => wpAny_holding (h s hs)
theorem WP.operate {vs : List Value} {m : Sem Value} {Q : Value → St → Prop} (h : WP prog w c A m Q σ) : WP prog w c A (operate vs m) Q σ :=
  fun s hs Γ p hΓ => by rw [Sem.wp_operate]; exact h s hs Γ p hΓ
theorem WP.release {vs ks : List Value} {Q : Unit → St → Prop} (h : Q () σ) : WP prog w c A (release vs ks) Q σ :=
  fun s hs Γ p hΓ => by rw [Sem.wp_release]; exact ⟨σ, hs, h⟩
theorem WP.point {Q : Unit → St → Prop} (h : Q () σ) : WP prog w c A PySem.point Q σ := fun _ hs => wpAny_point ⟨σ, hs, h⟩
theorem Abs.tok {s : Shared} (hs : Abs c σ s) (tk : Nat) : Abs c σ { s with toks := tk } := ⟨hs.ok, hs.len, hs.ns, hs.rig, hs.dat, hs.apart, hs.fr, hs.base, hs.gens, hs.os⟩
theorem Abs.less {s : Shared} {D' : Addr → Option AO} (hs : Abs c σ s) (h : ∀ a o, D' a = some o → σ.D a = some o) : Abs c { σ with D := D' } s :=
  ⟨hs.ok, hs.len, hs.ns, hs.rig, fun a o e => hs.dat a o (h a o e), fun a o e => hs.apart a o (h a o e), hs.fr, hs.base, hs.gens, hs.os⟩
/-! ### heap steps -/
theorem Abs.push {s : Shared} (hs : Abs c σ s) {x : AO} (o : Obj) (hr : Rep x o) (hf : o.isFreed = false) : Abs c (σ.put s.heap.objs.size x) { s with heap := s.heap.push o } where
  ok := hs.ok
  len := hs.len
  ns := hs.ns.push o
  rig := fun a o' e => Heap.get?_push_of_some o (hs.rig a o' e)
  dat := fun a x' e => by
    have e' : (if a = s.heap.objs.size then some x else σ.D a) = some x' := e
    by_cases h : a = s.heap.objs.size
    · rw [if_pos h] at e'; cases e'; subst h; exact ⟨o, Heap.get?_push_size _ hf, hr⟩
    · rw [if_neg h] at e'; obtain ⟨o', e1, r1⟩ := hs.dat a x' e'; exact ⟨o', Heap.get?_push_of_some o e1, r1⟩
  apart := fun a x' e => by
    have e' : (if a = s.heap.objs.size then some x else σ.D a) = some x' := e
    by_cases h : a = s.heap.objs.size
    · subst h; exact ⟨fun q => Nat.lt_irrefl _ (q ▸ hs.ltL), hs.freshR⟩
    · rw [if_neg h] at e'; exact hs.apart a x' e'
  fr := hs.fr
  base := hs.base
  gens := hs.gens
  os := hs.os
/-- a new address -/
structure New (c : Cf) (σ : St) (a : Addr) : Prop where
  d : σ.D a = none
  r : c.R a = none
  l : a ≠ c.env.locals
theorem Abs.new {s : Shared} (hs : Abs c σ s) : New c σ s.heap.objs.size := ⟨hs.fresh, hs.freshR, fun e => Nat.lt_irrefl _ (e ▸ hs.ltL)⟩
theorem Abs.upd {s : Shared} (hs : Abs c σ s) {a : Addr} {x y : AO} {o' : Obj} {h' : Heap} (ho : σ.D a = some x) (hs' : Heap.SameBut a s.heap h') (hg : h'.get? a = some o') (hr : Rep y o') : Abs c (σ.put a y) { s with heap := h' } where
  ok := hs.ok
  len := hs.len
  ns := hs.ns.sameBut hs' (Ne.symm (hs.apart _ _ ho).1)
  rig := fun b ob e => (hs'.2 b fun q => by rw [q, (hs.apart _ _ ho).2] at e; cases e).trans (hs.rig b ob e)
  dat := fun b xb e => by
    have e' : (if b = a then some y else σ.D b) = some xb := e
    by_cases h : b = a
    · rw [if_pos h] at e'; cases e'; subst h; exact ⟨o', hg, hr⟩
    · rw [if_neg h] at e'; obtain ⟨ob, e1, r1⟩ := hs.dat b xb e'; exact ⟨ob, (hs'.2 b h).trans e1, r1⟩
  apart := fun b xb e => by
    have e' : (if b = a then some y else σ.D b) = some xb := e
    by_cases h : b = a
    · subst h; exact hs.apart _ _ ho
    · rw [if_neg h] at e'; exact hs.apart b xb e'
  fr := hs.fr
  base := hs.base
  gens := hs.gens
  os := hs.os
/-- the heap has grown, and nothing that is known has changed -/
theorem Abs.grown {s : Shared} (hs : Abs c σ s) {h' : Heap} (hk : ∀ b o, s.heap.get? b = some o → h'.get? b = some o) : Abs c σ { s with heap := h' } where
  ok := hs.ok
  len := hs.len
  ns := hs.ns.keeps hk
  rig := fun b ob e => hk _ _ (hs.rig b ob e)
  dat := fun b xb e => let ⟨ob, e1, r1⟩ := hs.dat b xb e; ⟨ob, hk _ _ e1, r1⟩
  apart := hs.apart
  fr := hs.fr
  base := hs.base
  gens := hs.gens
  os := hs.os
/-! ### names -/
@[reducible] noncomputable def St.set (σ : St) (i : Nat) (v : Value) : St := { σ with v := σ.v.set i (some v) }
theorem WP.name {x : Str} {p : Pos} {i : Nat} {v : Value} {Q : Value → St → Prop} (hi : IxAt c.names x i) (hv : σ.v[i]? = some (some v)) (h : Q v σ) :
    WP prog w c A (eval (.Name x p) c.env) Q σ := fun s hs =>
  wpAny_Name (wpAny_loadName_local hs.ok.kind (hs.ok.loc _ hi.mem) hs.ns (lk_at hi hs.ok.nd hv) ⟨σ, hs, h⟩) (hs.ok.dbg _ hi.mem)
theorem WP.loadName {x : Str} {i : Nat} {v : Value} {Q : Value → St → Prop} (hi : IxAt c.names x i) (hv : σ.v[i]? = some (some v)) (h : Q v σ) :
    WP prog w c A (PySem.loadName c.env x) Q σ := fun s hs =>
  wpAny_loadName_local hs.ok.kind (hs.ok.loc _ hi.mem) hs.ns (lk_at hi hs.ok.nd hv) ⟨σ, hs, h⟩
theorem Abs.setv {s : Shared} (hs : Abs c σ s) {x : Str} {i : Nat} {v : Value} (hi : IxAt c.names x i) {h' : Heap} {tk : Nat}
    (hn : h'.Ns c.env.locals fun y => if y = x then some v else lk c.names σ.v y) (hb : Heap.SameBut c.env.locals s.heap h') : Abs c (σ.set i v) { s with heap := h', toks := tk } where
  ok := hs.ok
  len := by show (σ.v.set i (some v)).length = _; rw [List.length_set]; exact hs.len
  ns := by rw [lk_set hi hs.ok.nd hs.len] at hn; exact hn
  rig := fun a o e => (hb.2 a fun q => by rw [q, hs.fr] at e; cases e).trans (hs.rig a o e)
  dat := fun a o e => let ⟨o', e1, r1⟩ := hs.dat a o e; ⟨o', (hb.2 a (hs.apart a o e).1).trans e1, r1⟩
  apart := hs.apart
  fr := hs.fr
  base := hs.base
  gens := hs.gens
  os := hs.os
theorem WP.store {x : Str} {i : Nat} {v : Value} {Q : Unit → St → Prop} (hi : IxAt c.names x i) (h : Q () (σ.set i v)) :
    WP prog w c A (storeName c.env x v) Q σ := fun s hs =>
  wpAny_storeName_local (hs.ok.loc _ hi.mem) hs.ns (fun _ hn hb => ⟨_, hs.setv hi hn hb, h⟩) (by rw [hs.ok.kind]; rfl)
theorem WP.bindName {x : Str} {i : Nat} {v : Value} {Q : Unit → St → Prop} (hi : IxAt c.names x i) (h : Q () (σ.set i v)) :
    WP prog w c A (PySem.bindName c.env x v) Q σ := fun s hs => wpAny_bindName (WP.store hi h s hs)
end
end Mine
end
section
open PySem PyProof.Rows
namespace Mine
variable {prog : Program} {w : World} {c : Cf} {A : Around} {σ : St}
/-! ## statements -/
noncomputable def seqK (prog : Program) (w : World) (c : Cf) (A : Around) (rest : List Stmt) (Q : Flow → St → Prop) : Flow → St → Prop
  | .next, σ => WP prog w c A (execs rest c.env) Q σ
  | f, σ => Q f σ
theorem WP.execs_nil {Q : Flow → St → Prop} (h : Q .next σ) : WP prog w c A (execs [] c.env) Q σ := WP.pure h
theorem WP.execs_cons {st : Stmt} {rest : List Stmt} {Q : Flow → St → Prop} (h : WP prog w c A (exec st c.env) (seqK prog w c A rest Q) σ) : WP prog w c A (execs (st :: rest) c.env) Q σ := by
  rw [PySem.execs_cons]
  refine WP.bind (h.mono fun f σ' q => ?_)
  cases f with
  | next => exact q
  | brk => exact WP.pure q
  | cont => exact WP.pure q
  | ret v => exact WP.pure q
theorem WP.assign {x : Str} {p' p : Pos} {e : Expr} {i : Nat} {Q : Flow → St → Prop} (hi : IxAt c.names x i)
    (h : WP prog w c A (eval e c.env) (fun v σ' => Q .next (σ'.set i v)) σ)
    (hs : swapsWith e (some (.Name x p')) p.line c.env = Pure.pure false := by with_unfolding_all rfl) :
    WP prog w c A (exec (.Assign [.Name x p'] e p) c.env) Q σ := by
  rw [exec_Assign_Name c.env x p' e p hs]
  exact WP.bind (WP.stand (WP.bind (h.mono fun v σ' q => WP.bind (WP.stand (WP.bind (WP.bindName hi (WP.pure q)))))))
theorem WP.augAssign {x : Str} {p' p : Pos} {op : Operator} {e : Expr} {i : Nat} {u : Value} {Q : Flow → St → Prop} (hi : IxAt c.names x i) (hu : σ.v[i]? = some (some u))
    (h : WP prog w c A (eval e c.env) (fun v σ' => WP prog w c A (inplaceOp op u v) (fun r σ'' => Q .next (σ''.set i r)) σ') σ) :
    WP prog w c A (exec (.AugAssign (.Name x p') op e p) c.env) Q σ := by
  rw [exec_AugAssign_Name]
  exact WP.bind (WP.stand (WP.bind (WP.loadName hi hu (WP.bind (WP.holding (h.mono fun v σ' q => WP.bind (WP.stand (WP.bind (WP.operate (q.mono fun r σ'' q' =>
    WP.bind (WP.stand (WP.bind (WP.bindName hi (WP.pure q'))))))))))))))
theorem WP.assignSub {o i : Expr} {p' p : Pos} {e : Expr} {Q : Flow → St → Prop}
    (h : WP prog w c A (eval e c.env) (fun v σ₁ => WP prog w c A (eval o c.env) (fun ov σ₂ => WP prog w c A (eval i c.env) (fun iv σ₃ =>
      WP prog w c A (setItem ov iv v) (fun _ σ₄ => Q .next σ₄) σ₃) σ₂) σ₁) σ)
    (hs : swapsWith e (some (.Subscript o i p')) p.line c.env = Pure.pure false := by with_unfolding_all rfl) :
    WP prog w c A (exec (.Assign [.Subscript o i p'] e p) c.env) Q σ := by
  rw [exec_Assign_Subscript o i p' e p hs]
  refine WP.bind (WP.stand (WP.bind (h.mono fun v σ₁ q₁ => WP.bind ?_)))
  rw [assign_Subscript]
  exact WP.bind (WP.holding (q₁.mono fun ov σ₂ q₂ => WP.bind (WP.holding (q₂.mono fun iv σ₃ q₃ => WP.bind (WP.stand (WP.bind (WP.holding (q₃.mono fun _ σ₄ q₄ => WP.release (WP.pure q₄)))))))))
theorem WP.ifs {t : Expr} {b e : List Stmt} {p : Pos} {Q : Flow → St → Prop}
    (h : WP prog w c A (isTrue t c.env (eval t c.env)) (fun r σ' => if r then WP prog w c A (execs b c.env) Q σ' else WP prog w c A (execs e c.env) Q σ') σ) :
    WP prog w c A (exec (.If t b e p) c.env) Q σ := by
  rw [exec_If]
  refine WP.bind (WP.stand (WP.bind (h.mono fun r σ' q => ?_)))
  cases r with
  | true => exact q
  | false => exact q
theorem WP.ret {e : Expr} {p : Pos} {Q : Flow → St → Prop} (h : WP prog w c A (eval e c.env) (fun v σ' => Q (.ret v) σ') σ) : WP prog w c A (exec (.Return (some e) p) c.env) Q σ := by
  rw [exec_Return_some]; exact WP.bind (WP.stand (WP.bind (h.mono fun v σ' q => WP.pure q)))
theorem WP.brk {p : Pos} {Q : Flow → St → Prop} (h : Q .brk σ) : WP prog w c A (exec (.Break p) c.env) Q σ := by
  show WP prog w c A (do standAt p; Pure.pure Flow.brk) Q σ
  exact WP.bind (WP.stand (WP.pure h))
theorem WP.cont {p : Pos} {Q : Flow → St → Prop} (h : Q .cont σ) : WP prog w c A (exec (.Continue p) c.env) Q σ := by
  show WP prog w c A (do standAt p; Pure.pure Flow.cont) Q σ
  exact WP.bind (WP.stand (WP.pure h))
theorem WP.whiles {t : Expr} {b : List Stmt} {p : Pos} {Q : Flow → St → Prop} (I : Nat → St → Prop)
    (turn : ∀ n σ, I n σ → WP prog w c A (isTrue t c.env (eval t c.env)) (fun r σ₂ => if r then WP prog w c A (execs b c.env) (fun f σ₃ => match f with
        | .next | .cont => ∃ m, m < n ∧ I m σ₃
        | .brk => Q .next σ₃
        | .ret v => Q (.ret v) σ₃) σ₂ else Q .next σ₂) σ)
    (n : Nat) (h : I n σ) : WP prog w c A (exec (.While t b [] p) c.env) Q σ := fun s hs => by
  refine wpAny_While (codeAny_whileLoop (fun n s => ∃ σ, Abs c σ s ∧ I n σ) (fun n s xq => ex3 xq fun σ ha hI => ?_) n ⟨σ, hs, h⟩)
  refine wpAny_mono (turn n σ hI s ha) (fun r s₂ xq => ex3 xq fun σ₂ a₂ q => ?_) fun _ _ e => e.elim
  cases r with
  | true =>
    refine wpAny_mono (q s₂ a₂) (fun f s₃ xq => ex3 xq fun σ₃ a₃ q₃ => ?_) fun _ _ e => e.elim
    cases f with
    | next => obtain ⟨m, hm, hI'⟩ := q₃; exact ⟨m, hm, σ₃, a₃, hI'⟩
    | cont => obtain ⟨m, hm, hI'⟩ := q₃; exact ⟨m, hm, σ₃, a₃, hI'⟩
    | brk => exact ⟨σ₃, a₃, q₃⟩
    | ret v => exact ⟨σ₃, a₃, q₃⟩
  | false => exact wpAny_execs_nil ⟨σ₂, a₂, q⟩
/-! ## expressions -/
theorem WP.int {i : Int} {k : Nat} {p : Pos} {Q : Value → St → Prop} (h : ∀ t, Q (.int i t) σ) : WP prog w c A (eval (.Constant (.int i) k p) c.env) Q σ :=
  fun s hs => wpAny_Constant_int ⟨σ, hs.tok _, h _⟩
theorem WP.binop {l r : Expr} {op : Operator} {p : Pos} {Q : Value → St → Prop}
    (h : WP prog w c A (eval l c.env) (fun a σ₁ => WP prog w c A (eval r c.env) (fun b σ₂ => WP prog w c A (binaryOp op a b) Q σ₂) σ₁) σ) : WP prog w c A (eval (.BinOp l op r p) c.env) Q σ := by
  rw [eval_BinOp]
  exact WP.bind (h.mono fun a σ₁ q₁ => WP.bind (WP.holding (q₁.mono fun b σ₂ q₂ => WP.bind (WP.stand (WP.operate q₂)))))
theorem WP.cmp {l r : Expr} {op : CmpOp} {p : Pos} {Q : Value → St → Prop}
    (h : WP prog w c A (eval l c.env) (fun a σ₁ => WP prog w c A (eval r c.env) (fun b σ₂ => WP prog w c A (compareOp op a b) Q σ₂) σ₁) σ)
    (hm : behindInMarks op r = false := by with_unfolding_all rfl) : WP prog w c A (eval (.Compare l [op] [r] p) c.env) Q σ := by
  rw [eval_Compare1, markedBehindIn_of_false hm]
  exact WP.bind (h.mono fun a σ₁ q₁ => WP.bind (WP.holding (q₁.mono fun b σ₂ q₂ => WP.bind (WP.stand (WP.operate q₂)))))
theorem WP.tcmp {l r : Expr} {op : CmpOp} {p : Pos} {wh : Sem Value} {Q : Bool → St → Prop}
    (h : WP prog w c A (eval l c.env) (fun a σ₁ => WP prog w c A (eval r c.env) (fun b σ₂ => WP prog w c A (compareOp op a b) (fun v σ₃ => WP prog w c A (truthy v) Q σ₃) σ₂) σ₁) σ)
    (hm : behindInMarks op r = false := by with_unfolding_all rfl) : WP prog w c A (isTrue (.Compare l [op] [r] p) c.env wh) Q σ := by
  rw [isTrue_Compare1, markedBehindIn_of_false hm]
  exact WP.bind (h.mono fun a σ₁ q₁ => WP.bind (WP.holding (q₁.mono fun b σ₂ q₂ => WP.bind (WP.stand (WP.bind (WP.operate (q₂.mono fun v σ₃ q₃ => WP.holding q₃)))))))
theorem WP.sub {v sl : Expr} {p : Pos} {Q : Value → St → Prop}
    (h : WP prog w c A (eval v c.env) (fun o σ₁ => WP prog w c A (eval sl c.env) (fun i σ₂ => WP prog w c A (subscriptTail v sl o i) Q σ₂) σ₁) σ) : WP prog w c A (eval (.Subscript v sl p) c.env) Q σ := by
  rw [eval_Subscript]
  exact WP.bind (h.mono fun a σ₁ q₁ => WP.bind (WP.holding (q₁.mono fun b σ₂ q₂ => WP.bind (WP.stand q₂))))
theorem WP.truthy {b : Bool} {Q : Bool → St → Prop} (h : Q b σ) : WP prog w c A (PySem.truthy (.bool b)) Q σ := fun _ hs => wpAny_truthy_bool ⟨σ, hs, h⟩
section IntOps
variable {a b : Int} {t u : Tok} {Q : Value → St → Prop}
theorem WP.gt (h : Q (.bool (decide (b < a))) σ) : WP prog w c A (compareOp .Gt (.int a t) (.int b u)) Q σ := fun _ hs => gt_int ⟨σ, hs, h⟩
theorem WP.lt (h : Q (.bool (decide (a < b))) σ) : WP prog w c A (compareOp .Lt (.int a t) (.int b u)) Q σ := fun _ hs => lt_int ⟨σ, hs, h⟩
theorem WP.subI (h : ∀ t', Q (.int (a - b) t') σ) : WP prog w c A (binaryOp .Sub (.int a t) (.int b u)) Q σ := fun s hs => AutoIntOps.sub_0 ⟨σ, hs.tok _, h _⟩
theorem WP.addI (h : ∀ t', Q (.int (a + b) t') σ) : WP prog w c A (binaryOp .Add (.int a t) (.int b u)) Q σ := fun s hs => AutoIntOps.add_0 ⟨σ, hs.tok _, h _⟩
end IntOps
/-! ## lists -/
theorem Abs.plain {s : Shared} (hs : Abs c σ s) {l : Addr} {vs : List Value} (h : σ.D l = some (.list vs)) : s.heap.PlainList l vs.toArray :=
  let ⟨o, e, n, r⟩ := hs.dat _ _ h; ⟨n, r ▸ e⟩
theorem Abs.isList {s : Shared} (hs : Abs c σ s) {l : Addr} {vs : List Value} (h : σ.D l = some (.list vs)) : s.heap.IsList l vs.toArray := (hs.plain h).isList
theorem WP.item {l : Addr} {vs : List Value} {k : Int} {t : Tok} {x : Value} {v sl : Expr} {Q : Value → St → Prop} (hl : σ.D l = some (.list vs)) (h0 : 0 ≤ k) (hx : vs[k.toNat]? = some x) (hb : k < 2 ^ 63) (h : Q x σ)
    (hs : subscripted sl false (.ref l) (.int k t) = PySem.operate [.ref l, .int k t] (getItem (.ref l) (.int k t)) := by with_unfolding_all rfl) :
    WP prog w c A (subscriptTail v sl (.ref l) (.int k t)) Q σ := fun s hs' =>
  tail_any (hs'.isList hl).typeIs slot_list_getitem.lookup (wpAny_getItem_list (hs'.isList hl) h0 hb (by simpa using hx) ⟨σ, hs', h⟩) hs
theorem setItem_plain {l : Addr} {o : Obj} {items : Array Value} {n : Nat} {k : Int} {t : Tok} {v : Value} {s : Shared} {E : Value → Shared → Prop} {Q : Unit → Shared → Prop} (ho : s.heap.get? l = some o) (hc : o.cls = .type "list")
    (hd : o.data = .seq items n) (h0 : 0 ≤ k) (hfit : k < 2 ^ 63) (hn : k < items.size) (hQ : Q () { s with heap := s.heap.update l (Obj.mapSeq (·.setIfInBounds k.toNat v)) }) :
    wpAny (model prog w) A (PySem.setItem (.ref l) (.int k t) v) Q E s := by
  have hT : s.TypeIs (.ref l) "list" := ⟨o, ho, hc⟩
  unfold PySem.setItem
  try with_reducible refine wpAny_holding ?_
  first | refine wpAny_bind (wpAny_pure ?_) | skip
  refine wpAny_bind (wpAny_sequenceKey hT (by decide) ?_)
  refine wpAny_bind (wpAny_callSpecial?_slot (name := Str.ofString "__setitem__") hT slot_list_setitem
    (wpAny_call_entry slot_list_setitem hT entry_list_setitem ?_ (args_list_setitem _ _ _)))
  show wpAny _ _ (Builtin.List.listSubscript? (.int k t) >>= _) _ _ s
  refine wpAny_bind (wpAny_listSubscript_int (fitsIndex_of h0 hfit) ?_)
  clear hfit
  obtain ⟨j, rfl⟩ := Int.eq_ofNat_of_zero_le h0
  have hj : j < items.size := by lia
  show wpAny _ _ ((seqItemAt l j >>= fun r => Pure.pure (r.map (j, ·))) >>= _) _ _ s
  refine wpAny_bind (wpAny_bind (wpAny_seqItemAt ho hd (wpAny_pure ?_)))
  rw [Array.getElem?_eq_getElem hj]
  show wpAny _ _ (setSeqItemAt l j v >>= _) _ _ s
  refine wpAny_bind (wpAny_setSeqItemAt ho hd ?_)
  first
    | exact wpAny_bind (wpAny_pure (wpAny_pure ⟨.none, rfl, wpAny_pure hQ⟩))
    | exact wpAny_pure ⟨.none, rfl, wpAny_pure hQ⟩
theorem WP.setItem {l : Addr} {vs : List Value} {k : Nat} {t : Tok} {x : Value} {Q : Unit → St → Prop} (hl : σ.D l = some (.list vs)) (hn : k < vs.length) (hb : (k : Int) < 2 ^ 63)
    (h : Q () (σ.put l (.list (vs.set k x)))) : WP prog w c A (PySem.setItem (.ref l) (.int k t) x) Q σ := fun s hs' => by
  obtain ⟨n, e⟩ := hs'.plain hl
  refine setItem_plain e rfl rfl (by lia) hb (by simpa using hn) ⟨_, hs'.upd (y := .list (vs.set k x)) hl (Heap.SameBut.update ..) (get?_update_seq e _) ⟨n, ?_⟩, h⟩
  simp
end Mine
end
section
open PySem PyProof.Rows
namespace Mine
variable {prog : Program} {w : World} {c : Cf} {A : Around} {σ : St}
/-! ## arguments -/
noncomputable def EvL (prog : Program) (w : World) (c : Cf) (A : Around) : List Expr → (List Value → St → Prop) → St → Prop
  | [], Q, σ => Q [] σ
  | e :: r, Q, σ => WP prog w c A (eval e c.env) (fun v σ' => EvL prog w c A r (fun vs σ'' => Q (v :: vs) σ'') σ') σ
theorem EvL.nil {Q : List Value → St → Prop} (h : Q [] σ) : EvL prog w c A [] Q σ := h
theorem EvL.cons {e : Expr} {r : List Expr} {Q : List Value → St → Prop} (h : WP prog w c A (eval e c.env) (fun v σ' => EvL prog w c A r (fun vs σ'' => Q (v :: vs) σ'') σ') σ) : EvL prog w c A (e :: r) Q σ := h
theorem EvL.mono : ∀ {es : List Expr} {σ : St} {Q Q' : List Value → St → Prop}, EvL prog w c A es Q σ → (∀ vs σ', vs.length = es.length → Q vs σ' → Q' vs σ') → EvL prog w c A es Q' σ
  | [], _, _, _, h, hq => hq _ _ rfl h
  | _ :: _, _, _, _, h, hq => WP.mono h fun v σ' q => EvL.mono q fun vs σ'' hl q' => hq _ _ (by simp [hl]) q'
theorem WP.spliced : ∀ {es : List Expr} {σ : St} {Q : List Value → St → Prop}, EvL prog w c A es Q σ → WP prog w c A (spliced (es.map fun e => (false, eval e c.env))) Q σ
  | [], _, _, h => WP.pure h
  | e :: r, _, _, h => fun s hs => Calls.spliced_cons (wpAny_mono (h s hs) (fun v s₁ xq => ex3 xq fun σ₁ a₁ q₁ => WP.spliced q₁ s₁ a₁) fun _ _ e => e)
theorem WP.evalAll {p : Pos} : ∀ {es : List Expr} {σ : St} {Q : List Value → St → Prop}, EvL prog w c A es Q σ → WP prog w c A (evalAll (es.map fun e => (do let v ← eval e c.env; standAt p; Pure.pure v : Sem Value))) Q σ
  | [], _, _, h => WP.pure h
  | e :: r, _, _, h => WP.bind (WP.bind (WP.mono h fun v σ₁ q₁ => WP.bind (WP.stand (WP.pure (WP.bind (WP.holding ((WP.evalAll q₁).mono fun vs σ₂ q₂ => WP.pure q₂)))))))
noncomputable def kwNs : List Keyword → List Str
  | [] => []
  | ⟨some n, _, _⟩ :: r => n :: kwNs r
  | ⟨none, _, _⟩ :: r => kwNs r
noncomputable def kwEs : List Keyword → List Expr
  | [] => []
  | ⟨_, e, _⟩ :: r => e :: kwEs r
noncomputable def kwAll : List Keyword → Bool
  | [] => true
  | ⟨n, _, _⟩ :: r => n.isSome && kwAll r
theorem kw_map2 {p : Pos} {env : Env} : ∀ (kws : List Keyword), (backToKw p (keywordEach kws env)).map (·.2) = (kwEs kws).map fun e => (do let v ← eval e env; standAt p; Pure.pure v : Sem Value)
  | [] => rfl
  | ⟨n, e, q⟩ :: r => congrArg (_ :: ·) (kw_map2 r)
theorem kw_names {p : Pos} {env : Env} : ∀ (kws : List Keyword), (backToKw p (keywordEach kws env)).filterMap (·.1) = kwNs kws
  | [] => rfl
  | ⟨some n, e, q⟩ :: r => congrArg (n :: ·) (kw_names r)
  | ⟨none, e, q⟩ :: r => kw_names r
theorem kw_all {p : Pos} {env : Env} : ∀ (kws : List Keyword), (backToKw p (keywordEach kws env)).all (·.1.isSome) = kwAll kws
  | [] => rfl
  | ⟨n, e, q⟩ :: r => congrArg (n.isSome && ·) (kw_all r)
theorem kw_any {p : Pos} {env : Env} : ∀ (kws : List Keyword), kwAll kws = true → (backToKw p (keywordEach kws env)).any (·.1.isNone) = false
  | [], _ => rfl
  | ⟨none, e, q⟩ :: r, h => by cases h
  | ⟨some n, e, q⟩ :: r, h => kw_any r h
/-- what may be called by the machine's road -/
noncomputable def CallOk (c : Cf) (σ : St) : Value → Prop
  | .builtin _ | .type _ => True
  | .ref a => ∃ fd, ∀ s, Abs c σ s → ∃ o, s.heap.get? a = some o ∧ o.data = .func fd
  | _ => False
theorem WP.evalArgs {fv : Value} {es : List Expr} {kws : List Keyword} {p : Pos} {Q : Args → St → Prop} (hk : kwAll kws = true)
    (h : EvL prog w c A es (fun vs σ₁ => EvL prog w c A (kwEs kws) (fun ks σ₂ => Q ⟨vs, (kwNs kws).zip ks⟩ σ₂) σ₁) σ) :
    WP prog w c A (evalArgs fv true (es.map fun e => (false, eval e c.env)) (backToKw p (keywordEach kws c.env))) Q σ := by
  have key : ∀ {σ : St} {vs : List Value}, EvL prog w c A (kwEs kws) (fun ks σ₂ => Q ⟨vs, (kwNs kws).zip ks⟩ σ₂) σ →
      WP prog w c A (do let kvs ← PySem.evalAll ((backToKw p (keywordEach kws c.env)).map (·.2)); let ps ← (Pure.pure vs : Sem (List Value)); Pure.pure (Args.mk ps (((backToKw p (keywordEach kws c.env)).filterMap (·.1)).zip kvs))) Q σ := by
    intro σ vs h
    rw [kw_map2, kw_names]
    exact WP.bind ((WP.evalAll h).mono fun ks σ₂ q => WP.bind (WP.pure (WP.pure q)))
  have spl := WP.spliced h
  unfold PySem.evalArgs
  cases es with
  | nil =>
    refine WP.bind (m := PySem.spliced []) (spl.mono fun vs σ₁ q₁ => WP.bind (WP.pure ?_))
    refine WP.holding ?_
    rw [kw_all, hk]
    exact key q₁
  | cons e r =>
    refine WP.bind (m := PySem.spliced ((e :: r).map fun e => (false, eval e c.env))) (spl.mono fun vs σ₁ q₁ => WP.bind (WP.pure ?_))
    refine WP.holding ?_
    rw [kw_all, hk]
    exact key q₁
theorem any_false (es : List Expr) (env : Env) : (es.map fun e => ((false, eval e env) : Bool × Sem Value)).any (·.1) = false := by
  induction es with
  | nil => rfl
  | cons _ _ ih => exact ih
theorem WP.callWith {fv : Value} {first : List Value} {es : List Expr} {kws : List Keyword} {p : Pos} {Q : Value → St → Prop} (hk : kwAll kws = true)
    (h : EvL prog w c A es (fun vs σ₁ => EvL prog w c A (kwEs kws) (fun ks σ₂ => CallOk c σ₂ fv ∧ WP prog w c A (call fv (first ++ vs) ((kwNs kws).zip ks)) Q σ₂) σ₁) σ) :
    WP prog w c A (callWith p fv first (es.map fun e => (false, eval e c.env)) (backToKw p (keywordEach kws c.env))) Q σ := by
  have ha := any_false es c.env
  have hn := kw_any (p := p) (env := c.env) kws hk
  have tl : ∀ {t : Sem Value} {σ : St}, WP prog w c A t Q σ → WP prog w c A (t >>= fun r => PySem.holding [r] PySem.point >>= fun _ => Pure.pure r) Q σ :=
    fun ht => WP.bind (ht.mono fun r σ' q => WP.bind (WP.holding (WP.point (WP.pure q))))
  cases fv with
  | builtin id =>
    intro s hs
    refine callWith_builtin_kwB ha hn ?_
    refine wpAny_mono (WP.evalArgs (Q := fun a σ' => WP prog w c A (call (.builtin id) (first ++ a.pos) a.kw) Q σ') hk (h.mono fun vs σ₁ _ q₁ => q₁.mono fun ks σ₂ _ q₂ => q₂.2) s hs) (fun a s₁ xq => ex3 xq fun σ₁ a₁ q₁ => q₁ s₁ a₁) fun _ _ e => e
  | ref a =>
    have h2 := WP.evalArgs (fv := .ref a) (p := p) (Q := fun x σ' => CallOk c σ' (.ref a) ∧ WP prog w c A (call (.ref a) (first ++ x.pos) x.kw) Q σ') hk (h.mono fun vs σ₁ _ q₁ => q₁.mono fun ks σ₂ _ q₂ => q₂)
    unfold PySem.callWith
    refine WP.bind (WP.holding (h2.mono fun x σ₁ q₁ => WP.bind (WP.stand ?_)))
    obtain ⟨⟨fd, ho⟩, hc⟩ := q₁
    intro s₁ a₁
    obtain ⟨o, e1, e2⟩ := ho s₁ a₁
    have ht := tl hc s₁ a₁
    rw [ha, hn]
    refine wpAny_bind (m := keeperOf (.ref a)) ?_
    unfold keeperOf
    refine wpAny_bind (wpAny_load e1 ?_)
    rw [e2]
    refine wpAny_pure ?_
    show wpAny _ _ (if _ then _ else _) _ _ _
    split
    · exact ht
    · unfold callMarked
      refine wpAny_bind (Calls.wpAny_keep (wpAny_mono (hc s₁ a₁) (fun r s₂ xq => ex3 xq fun σ₂ a₂ q₂ => ?_) fun _ _ e => e))
      exact wpAny_bind (wpAny_holding (wpAny_point (wpAny_pure ⟨σ₂, a₂, q₂⟩)))
  | type T =>
    have h2 := WP.evalArgs (fv := .type T) (p := p) (Q := fun x σ' => WP prog w c A (call (.type T) (first ++ x.pos) x.kw) Q σ') hk (h.mono fun vs σ₁ _ q₁ => q₁.mono fun ks σ₂ _ q₂ => q₂.2)
    unfold PySem.callWith
    refine WP.bind (WP.holding (h2.mono fun x σ₁ q₁ => WP.bind (WP.stand ?_)))
    rw [ha, hn]
    exact WP.bind (m := keeperOf (.type T)) (WP.pure (tl q₁))
  | _ =>
    unfold PySem.callWith
    exact WP.bind (WP.holding ((WP.evalArgs (p := p) (Q := fun x σ' => False) hk (h.mono fun vs σ₁ _ q₁ => q₁.mono fun ks σ₂ _ q₂ => q₂.1.elim)).mono fun x σ₁ q₁ => q₁.elim))
theorem WP.callN {x : Str} {p pos : Pos} {es : List Expr} {kws : List Keyword} {Q : Value → St → Prop}
    (h : WP prog w c A (eval (.Name x p) c.env) (fun fv σ₀ => EvL prog w c A es (fun vs σ₁ => EvL prog w c A (kwEs kws) (fun ks σ₂ => CallOk c σ₂ fv ∧ WP prog w c A (call fv vs ((kwNs kws).zip ks)) Q σ₂) σ₁) σ₀) σ)
    (hs : backTo pos (starEach es c.env) = es.map (fun e => (false, eval e c.env)) := by with_unfolding_all rfl) (hk : kwAll kws = true := by with_unfolding_all rfl) :
    WP prog w c A (eval (.Call (.Name x p) es kws pos) c.env) Q σ := by
  rw [arm_eval_Call_Name']
  refine WP.bind (h.mono fun fv σ₀ q => ?_)
  rw [hs]
  exact WP.callWith (first := []) hk q
/-! ## entering a def of the text -/
noncomputable def retv : Flow → Value
  | .ret v => v
  | _ => .none
theorem WP.enter {f : Addr} {o : Obj} {fd : FuncData} {body : List Stmt} {vals : List Value} {binds : List (Str × Value)} {names : List Str} {vs : List (Option Value)} {Q : Value → St → Prop}
    (ho : ∀ s, Abs c σ s → s.heap.get? f = some o) (hd : o.data = .func fd) (hlim : c.hb.NoLimit) (hcd : ∀ s, Abs c σ s → s.heap.CodeRec fd.code fd.qualname)
    (hbody : fd.body = .stmts body) (hclo : fd.closure = []) (hroom : A.depth < recursionLimit)
    (hbind : bindArgs fd ⟨vals, []⟩ = Pure.pure binds)
    (hkind : ∀ x ∈ binds, fd.scope.names.lookup x.1 = some .local)
    (hcell : ∀ x ∈ fd.scope.names, x.2 ≠ .cell)
    (hlk : (fun x => binds.reverse.lookup x) = lk names vs) (hlen : vs.length = names.length)
    (hok : ∀ L, EnvOk (newEnv fd.scope L fd.globals [] (fd.qualname ++ ".<locals>.") (some f) fd.code none fd.builtins) names)
    (h : ∀ c' : Cf, c'.env.scope = fd.scope → c'.hb = c.hb → EnvOk c'.env names →
      WP prog w (c'.nm names) (A.deeper c'.env) (execs body c'.env) (fun fl σ' => Q (retv fl) ⟨σ.v, σ'.D⟩) ⟨vs, σ.D⟩)
    (hco : fd.scope.isCoroutine = false := by with_unfolding_all rfl) (hgen : fd.scope.isGenerator = false := by with_unfolding_all rfl) (hk : fd.scope.kind = .function := by with_unfolding_all rfl) :
    WP prog w c A (call (.ref f) vals) Q σ := by
  intro s hs
  refine wpAny_call (codeAny_call_function hroom (ho s hs) hd hco hgen hbody (hcd s hs) ?_)
  rw [hbind, hclo]
  refine wpAny_pure (wpAny_newFunctionEnv hcell hkind (fun h₁ hns hsb => ⟨((hlim.keeps hs.hbk).fresh _ hsb), ?_⟩) hk)
  have hext : ∀ b ob, s.heap.get? b = some ob → h₁.get? b = some ob := fun b ob e => hsb.extBut b ob (Nat.ne_of_lt (Heap.lt_size e)) (Heap.get?_push_of_some _ e)
  have dR : ∀ b ob, c.R b = some ob → σ.D b = none := fun b ob e => by
    cases q : σ.D b with
    | none => rfl
    | some x => have := (hs.apart _ _ q).2; rw [e] at this; cases this
  let E := newEnv fd.scope s.heap.objs.size fd.globals [] (fd.qualname ++ ".<locals>.") (some f) fd.code none fd.builtins
  let c' : Cf := { env := E, names := names, R := fun a => if (σ.D a).isSome then none else s.heap.get? a, os := c.os, hb := c.hb }
  have hsz : s.heap.get? s.heap.objs.size = none := by
    cases q : s.heap.get? s.heap.objs.size with
    | none => rfl
    | some x => exact absurd (Heap.lt_size q) (Nat.lt_irrefl _)
  have A0 : Abs c' ⟨vs, σ.D⟩ { s with heap := h₁, toks := s.toks + binds.length } := {
    ok := hok _
    len := hlen
    ns := by rw [← hlk]; exact hns
    rig := fun a ob e => by
      have e' : (if (σ.D a).isSome then none else s.heap.get? a) = some ob := e
      split at e'
      · cases e'
      · exact hext _ _ e'
    dat := fun a x e => let ⟨ob, e1, r⟩ := hs.dat a x e; ⟨ob, hext _ _ e1, r⟩
    apart := fun a x e => by
      obtain ⟨ob, e1, r⟩ := hs.dat a x e
      refine ⟨Nat.ne_of_lt (Heap.lt_size e1), ?_⟩
      show (if (σ.D a).isSome then none else s.heap.get? a) = none
      have e' : σ.D a = some x := e
      rw [e']; rfl
    fr := by
      show (if (σ.D s.heap.objs.size).isSome then none else s.heap.get? s.heap.objs.size) = none
      rw [hsz]; split <;> rfl
    base := fun a ob e => by
      have e1 := hs.base a ob e
      show (if (σ.D a).isSome then none else s.heap.get? a) = some ob
      rw [dR _ _ e1]; exact hs.rig _ _ e1
    gens := hs.gens
    os := hs.os }
  refine codeAny_func ?_
  refine wpAny_mono (h c' rfl rfl (hok _) _ A0) (fun fl s' xq => ex3 xq fun σ' a' q => ?_) fun _ _ e => e.elim
  obtain ⟨oL, hoL⟩ : ∃ oL, s.heap.get? c.env.locals = some oL := let ⟨o, _, _, e, _⟩ := hs.ns; ⟨o, e⟩
  have dL : σ.D c.env.locals = none := by
    cases q : σ.D c.env.locals with
    | none => rfl
    | some x => exact absurd rfl (hs.apart _ _ q).1
  have rL : c'.R c.env.locals = some oL := by
    show (if (σ.D c.env.locals).isSome then none else s.heap.get? c.env.locals) = some oL
    rw [dL]; exact hoL
  have rR : ∀ b ob, c.R b = some ob → c'.R b = some ob := fun b ob e => by
    show (if (σ.D b).isSome then none else s.heap.get? b) = some ob
    rw [dR _ _ e]; exact hs.rig _ _ e
  have fin : Abs c ⟨σ.v, σ'.D⟩ s' := {
    ok := hs.ok
    len := hs.len
    ns := by
      obtain ⟨oo, es, ep, e, r⟩ := hs.ns
      rw [hoL] at e; cases e
      exact ⟨oL, es, ep, a'.rig _ _ rL, r⟩
    rig := fun b ob e => a'.rig _ _ (rR _ _ e)
    dat := a'.dat
    apart := fun b x e => by
      have h2 := (a'.apart b x e).2
      refine ⟨fun q => ?_, ?_⟩
      · rw [q] at h2
        have h3 : c'.R c.env.locals = none := h2
        rw [rL] at h3; cases h3
      · cases q : c.R b with
        | none => rfl
        | some ob =>
          have h3 : c'.R b = none := h2
          rw [rR _ _ q] at h3; cases h3
    fr := hs.fr
    base := hs.base
    gens := a'.gens
    os := a'.os }
  cases fl <;> exact ⟨_, fin, q⟩
end Mine
namespace Mine
variable {prog : Program} {w : World} {c : Cf} {A : Around} {σ : St}
/-! ## global names -/
noncomputable def GNm (hb : Heap) (x : Str) (v : Value) : Prop := ∃ mg mb, hb.Ns mainGlobals mg ∧ hb.Ns builtinsNs mb ∧ (mg x = some v ∨ (mg x = none ∧ mb x = some v))
theorem WP.gname {x : Str} {p : Pos} {v : Value} {Q : Value → St → Prop} (hg : GNm c.hb x v) (hk : c.env.kindOf x = some .globalImplicit) (hd : (x == ("__debug__" : Str)) = false) (h : Q v σ) :
    WP prog w c A (eval (.Name x p) c.env) Q σ := fun s hs => by
  obtain ⟨mg, mb, g, b, hv⟩ := hg
  have g' : s.heap.Ns c.env.globals mg := by rw [hs.ok.globals]; exact g.keeps hs.hbk
  have b' : s.heap.Ns c.env.builtins mb := by rw [hs.ok.builtins]; exact b.keeps hs.hbk
  refine Calls.Name_function_global hs.ok.kind hk ?_ hd
  rcases hv with hv | ⟨hn, hv⟩
  · exact Calls.loadGlobal_global g' hv ⟨σ, hs, h⟩
  · exact Calls.loadGlobal_builtin g' hn b' hv ⟨σ, hs, h⟩
/-! ## the text's defs -/
abbrev prg : Program := PySem.Challenge.pw_mr0269_01
noncomputable def stmtAt (i : Nat) : Stmt := prg.main.body.getD i (.Pass default)
noncomputable def bodyAt (i : Nat) : List Stmt := match stmtAt i with | .FunctionDef _ _ b _ _ _ _ _ _ _ => b | _ => []
noncomputable def argsAt (i : Nat) : Arguments := match stmtAt i with | .FunctionDef _ a _ _ _ _ _ _ _ _ => a | _ => default
noncomputable def scopeAt (i : Nat) : Scope := match stmtAt i with | .FunctionDef _ _ _ _ _ _ s _ _ _ => s | _ => default
noncomputable def fnAt (i : Nat) (nm : Str) (dV pm cd doc : Value) : FuncData :=
  { name := nm, qualname := nm, params := argsAt i, body := .stmts (bodyAt i), scope := scopeAt i, globals := mainGlobals, closure := [], defaults := dV, kwdefaults := .none, doc, pyModule := pm, code := cd, builtins := builtinsNs }
/-- the def number i stands under its name -/
noncomputable def FnOk (hb : Heap) (i : Nat) (nm : Str) (f : Addr) (dV : Value) : Prop :=
  GNm hb nm (.ref f) ∧ ∃ o pm cd doc, hb.get? f = some o ∧ o.data = .func (fnAt i nm dV pm cd doc) ∧ hb.CodeRec cd nm
theorem FnOk.callOk {i : Nat} {nm : Str} {f : Addr} {dV : Value} (h : FnOk c.hb i nm f dV) : CallOk c σ (.ref f) :=
  let ⟨_, o, pm, cd, doc, e, d, _⟩ := h; ⟨fnAt i nm dV pm cd doc, fun s hs => ⟨o, hs.hbk _ _ e, d⟩⟩
@[reducible] noncomputable def envAt (i : Nat) (nm : Str) (f L : Addr) (cd : Value) : Env := newEnv (scopeAt i) L mainGlobals [] (nm ++ ".<locals>.") (some f) cd none builtinsNs
theorem FnOk.enter {i : Nat} {nm : Str} {f : Addr} {dV : Value} {vals : List Value} {binds : List (Str × Value)} {names : List Str} {vs : List (Option Value)} {Q : Value → St → Prop}
    (hf : FnOk c.hb i nm f dV) (hlim : c.hb.NoLimit) (hroom : A.depth < recursionLimit)
    (hbind : ∀ pm cd doc, bindArgs (fnAt i nm dV pm cd doc) ⟨vals, []⟩ = Pure.pure binds)
    (hkind : ∀ x ∈ binds, (scopeAt i).names.lookup x.1 = some .local)
    (hcell : ∀ x ∈ (scopeAt i).names, x.2 ≠ .cell)
    (hlk : (fun x => binds.reverse.lookup x) = lk names vs) (hlen : vs.length = names.length)
    (hok : ∀ L cd, EnvOk (envAt i nm f L cd) names)
    (h : ∀ c' : Cf, c'.env.scope = scopeAt i → c'.hb = c.hb →
      WP prog w (c'.nm names) (A.deeper c'.env) (execs (bodyAt i) c'.env) (fun fl σ' => Q (retv fl) ⟨σ.v, σ'.D⟩) ⟨vs, σ.D⟩)
    (hco : (scopeAt i).isCoroutine = false := by with_unfolding_all rfl) (hgen : (scopeAt i).isGenerator = false := by with_unfolding_all rfl) (hk : (scopeAt i).kind = .function := by with_unfolding_all rfl) :
    WP prog w c A (call (.ref f) vals) Q σ := by
  obtain ⟨_, o, pm, cd, doc, e, d, cr⟩ := hf
  exact WP.enter (fun s hs => hs.hbk _ _ e) d hlim (fun s hs => cr.keeps hs.hbk) rfl rfl hroom (hbind _ _ _) hkind hcell hlk hlen (fun L => hok L cd) (fun c' h1 h2 _ => h c' h1 h2) hco hgen hk
end Mine
end
section
open PySem PyProof.Rows
namespace Mine
variable {prog : Program} {w : World} {c : Cf} {A : Around} {σ : St}
section IntOps
variable {a b : Int} {t u : Tok} {Q : Value → St → Prop}
theorem WP.le (h : Q (.bool (decide (a ≤ b))) σ) : WP prog w c A (compareOp .LtE (.int a t) (.int b u)) Q σ := fun _ hs => PySem.P.le_int ⟨σ, hs, h⟩
theorem WP.ge (h : Q (.bool (decide (a ≥ b))) σ) : WP prog w c A (compareOp .GtE (.int a t) (.int b u)) Q σ := fun _ hs => PySem.P.ge_int ⟨σ, hs, h⟩
theorem WP.eq (h : Q (.bool (a == b)) σ) : WP prog w c A (compareOp .Eq (.int a t) (.int b u)) Q σ := fun _ hs => eq_int ⟨σ, hs, h⟩
theorem WP.ne (h : Q (.bool (a != b)) σ) : WP prog w c A (compareOp .NotEq (.int a t) (.int b u)) Q σ := fun _ hs => ne_int ⟨σ, hs, h⟩
theorem WP.mulI (h : ∀ t', Q (.int (a * b) t') σ) (hm : IntMulOk a b) : WP prog w c A (binaryOp .Mult (.int a t) (.int b u)) Q σ := fun s hs => AutoIntOps.mul_0 ⟨σ, hs.tok _, h _⟩ hm
theorem WP.iaddI (h : ∀ t', Q (.int (a + b) t') σ) : WP prog w c A (inplaceOp .Add (.int a t) (.int b u)) Q σ := fun s hs => AutoIntOps.iadd_0 ⟨σ, hs.tok _, h _⟩
theorem WP.isubI (h : ∀ t', Q (.int (a - b) t') σ) : WP prog w c A (inplaceOp .Sub (.int a t) (.int b u)) Q σ := fun s hs => AutoIntOps.isub_0 ⟨σ, hs.tok _, h _⟩
theorem WP.shr1 (h0 : 0 ≤ a) (h : ∀ t', Q (.int (a / 2) t') σ) : WP prog w c A (binaryOp .RShift (.int a t) (.int 1 u)) Q σ := fun s hs => by
  by_cases hb : (1 : Int) ≥ ((Builtin.Int.intBits a : Nat) : Int)
  · refine AutoIntOps.rshift_1 (by decide) hb ?_
    rw [if_neg (by lia)]
    have := h s.toks
    rw [half_of_few_bits h0 hb] at this
    exact ⟨σ, hs.tok _, this⟩
  · refine AutoIntOps.rshift_2 (by decide) hb ?_
    have e : a.fdiv (2 ^ (1 : Int).toNat) = a / 2 := by
      show a.fdiv 2 = a / 2
      rw [Int.fdiv_eq_ediv_of_nonneg _ (by decide)]
    rw [e]
    exact ⟨σ, hs.tok _, h _⟩
end IntOps
/-! ## tests -/
theorem WP.tnot {x : Expr} {p : Pos} {wh : Sem Value} {Q : Bool → St → Prop} (h : WP prog w c A (isTrue x c.env (eval x c.env)) (fun b σ' => Q (!b) σ') σ) : WP prog w c A (isTrue (.UnaryOp .Not x p) c.env wh) Q σ :=
  fun s hs => wpAny_isTrue_Not (h s hs)
theorem WP.tand {x y : Expr} {p : Pos} {wh : Sem Value} {Q : Bool → St → Prop} (h : WP prog w c A (isTrue x c.env (eval x c.env)) (fun b σ' => if b then WP prog w c A (isTrue y c.env (eval y c.env)) Q σ' else Q false σ') σ) :
    WP prog w c A (isTrue (.BoolOp .And [x, y] p) c.env wh) Q σ := by
  rw [arm_isTrue_BoolOp, arm_allTrue_cons]
  refine WP.bind (h.mono fun b σ' q => ?_)
  cases b with
  | false => exact WP.pure q
  | true =>
    dsimp only
    rw [arm_allTrue_cons]
    refine WP.bind (WP.mono q fun b' σ'' q' => ?_)
    cases b' with
    | false => exact WP.pure q'
    | true => exact WP.pure q'
theorem WP.tor {x y : Expr} {p : Pos} {wh : Sem Value} {Q : Bool → St → Prop} (h : WP prog w c A (isTrue x c.env (eval x c.env)) (fun b σ' => if b then Q true σ' else WP prog w c A (isTrue y c.env (eval y c.env)) Q σ') σ) :
    WP prog w c A (isTrue (.BoolOp .Or [x, y] p) c.env wh) Q σ := by
  rw [arm_isTrue_BoolOp, arm_allTrue_cons]
  refine WP.bind (h.mono fun b σ' q => ?_)
  cases b with
  | true => exact WP.pure q
  | false =>
    dsimp only
    rw [arm_allTrue_cons]
    refine WP.bind (WP.mono q fun b' σ'' q' => ?_)
    cases b' with
    | false => exact WP.pure q'
    | true => exact WP.pure q'
theorem WP.tplain {e : Expr} {wh : Sem Value} {Q : Bool → St → Prop} (h : WP prog w c A wh (fun v σ' => WP prog w c A (PySem.truthy v) Q σ') σ)
    (he : isTrue e c.env wh = (do let v ← wh; standAt e.pos; PySem.holding [v] (PySem.truthy v)) := by with_unfolding_all rfl) : WP prog w c A (isTrue e c.env wh) Q σ := by
  rw [he]
  exact WP.bind (h.mono fun v σ' q => WP.bind (WP.stand (WP.holding q)))
/-! ## built-ins -/
theorem WP.len {l : Addr} {vs : List Value} {Q : Value → St → Prop} (hl : σ.D l = some (.list vs)) (hb : (vs.length : Int) < 2 ^ 63) (h : ∀ t, Q (.int vs.length t) σ) : WP prog w c A (call (.builtin "len") [.ref l]) Q σ := fun s hs =>
  Calls.call_len_list (hs.isList hl) (by simpa using hb) (by simpa using ⟨σ, hs.tok _, h _⟩)
end Mine
end
section
open PySem PyProof.Rows
namespace Mine
variable {prog : Program} {w : World} {c : Cf} {A : Around} {σ : St}
/-! ## entries: (key, order, element) -/
structure Ent where
  a : Addr
  k : Str
  t : Tok
  i : Int
  u : Tok
  e : Value
@[reducible] noncomputable def Ent.ref (e : Ent) : Value := .ref e.a
@[reducible] noncomputable def Ent.tup (e : Ent) : AO := .tuple [.str e.k e.t, .int e.i e.u, e.e]
noncomputable def Ents (D : Addr → Option AO) (es : List Ent) : Prop := ∀ e ∈ es, D e.a = some e.tup
noncomputable def slt (a b : Str) : Bool := decide (a.cps.toList < b.cps.toList)
noncomputable def elt (x y : Ent) : Bool := if x.k = y.k then decide (x.i < y.i) else slt x.k y.k
theorem eqBool_self {v : Value} {s : Shared} {E : Value → Shared → Prop} {Q : Bool → Shared → Prop} (h : Q true s) : wpAny (model prog w) A (eqBool v v) Q E s := by
  unfold eqBool
  try with_reducible refine wpAny_holding ?_
  show wpAny _ _ (if (v == v) = true then _ else _) Q E s
  rw [if_pos (beq_self_eq_true v)]
  exact wpAny_bind (wpAny_rule (wpAny_pure h))
theorem tup_lt {x y : Ent} {ox oy : Obj} {n m : Nat} {s : Shared} {E : Value → Shared → Prop} {Q : Value → Shared → Prop} (hu : A.units < cLine)
    (hx : s.heap.get? x.a = some ox) (cx : ox.cls = .type "tuple") (dx : ox.data = .seq #[.str x.k x.t, .int x.i x.u, x.e] n)
    (hy : s.heap.get? y.a = some oy) (cy : oy.cls = .type "tuple") (dy : oy.data = .seq #[.str y.k y.t, .int y.i y.u, y.e] m)
    (hd : x.k = y.k → x.i = y.i → x.e = y.e) (h : Q (.bool (elt x y)) s) : wpAny (model prog w) A (compareOp .Lt (.ref x.a) (.ref y.a)) Q E s := by
  show wpAny _ _ (richCompare .Lt (.ref x.a) (.ref y.a)) Q E s
  have hTx : s.TypeIs (.ref x.a) "tuple" := ⟨ox, hx, cx⟩
  have hTy : s.TypeIs (.ref y.a) "tuple" := ⟨oy, hy, cy⟩
  refine wpAny_richCompare_same_room (op := .Lt) (T := "tuple") hTx hTy PySem.F.slot_tuple_lt (wpAny_call_entry PySem.F.slot_tuple_lt hTx PySem.F.entry_tuple_lt ?_ (PySem.F.args_tuple_lt_2 _ _)) hu
  show wpAny _ _ (isInstance (.ref y.a) (.type "tuple") >>= _) _ _ s
  refine wpAny_bind (wpAny_isInstance hTy isSubtype_tuple_tuple ?_)
  simp only [Bool.not_true, Bool.false_eq_true, if_false]
  refine wpAny_bind (wpAny_tupleItemsOf hx dx ?_)
  refine wpAny_bind (wpAny_tupleItemsOf hy dy ?_)
  simp only [List.zip_cons_cons, List.zip_nil_right, List.forIn_cons, List.forIn_nil]
  refine wpAny_bind (wpAny_bind (wpAny_bind (wpAny_eqBool_str ?_)))
  by_cases hk : x.k = y.k
  · rw [decide_eq_true hk]
    simp only [Bool.not_true, Bool.false_eq_true, if_false]
    refine wpAny_pure (wpAny_bind (wpAny_bind (wpAny_eqBool_int ?_)))
    by_cases hi : x.i = y.i
    · rw [show (x.i == y.i) = true from beq_iff_eq.mpr hi]
      simp only [Bool.not_true, Bool.false_eq_true, if_false]
      rw [hd hk hi]
      refine wpAny_pure (wpAny_bind (wpAny_bind (eqBool_self ?_)))
      simp only [Bool.not_true, Bool.false_eq_true, if_false]
      have e : elt x y = false := by unfold elt; rw [if_pos hk, hi]; simp
      rw [e] at h
      exact wpAny_pure (wpAny_pure (wpAny_pure ⟨.bool false, rfl, by simp, h⟩))
    · rw [show (x.i == y.i) = false from beq_false_of_ne hi]
      simp only [Bool.not_false, if_true]
      have e : elt x y = decide (x.i < y.i) := by unfold elt; rw [if_pos hk]
      rw [e] at h
      refine wpAny_bind (wpAny_rule (wpAny_bind (lt_int ?_)))
      exact wpAny_pure (wpAny_pure (wpAny_pure ⟨_, rfl, by simp, h⟩))
  · rw [decide_eq_false hk]
    simp only [Bool.not_false, if_true]
    have e : elt x y = slt x.k y.k := by unfold elt; rw [if_neg hk]
    rw [e] at h
    refine wpAny_bind (wpAny_rule (wpAny_bind (lt_str ?_)))
    exact wpAny_pure (wpAny_pure (wpAny_pure ⟨_, rfl, by simp, h⟩))
theorem Abs.tup {s : Shared} (hs : Abs c σ s) {a : Addr} {vs : List Value} (h : σ.D a = some (.tuple vs)) : ∃ o n, s.heap.get? a = some o ∧ o.cls = .type "tuple" ∧ o.data = .seq vs.toArray n :=
  let ⟨o, e, n, r⟩ := hs.dat _ _ h; ⟨o, n, e, by rw [r], by rw [r]⟩
theorem WP.tlt {x y : Ent} {Q : Value → St → Prop} (hu : A.units < cLine) (hx : σ.D x.a = some x.tup) (hy : σ.D y.a = some y.tup) (hd : x.k = y.k → x.i = y.i → x.e = y.e) (h : Q (.bool (elt x y)) σ) :
    WP prog w c A (compareOp .Lt x.ref y.ref) Q σ := fun s hs => by
  obtain ⟨ox, n, e1, c1, d1⟩ := hs.tup hx
  obtain ⟨oy, m, e2, c2, d2⟩ := hs.tup hy
  exact tup_lt hu e1 c1 d1 e2 c2 d2 hd ⟨σ, hs, h⟩
end Mine
namespace Mine
variable {prog : Program} {w : World} {c : Cf} {A : Around} {σ : St}
theorem WP.itemN {l : Addr} {vs : List Value} {k : Nat} {t : Tok} {x : Value} {v sl : Expr} {Q : Value → St → Prop} (hl : σ.D l = some (.list vs)) (hx : vs[k]? = some x) (hb : (k : Int) < 2 ^ 63) (h : Q x σ)
    (hs : subscripted sl false (.ref l) (.int (k : Int) t) = PySem.operate [.ref l, .int (k : Int) t] (getItem (.ref l) (.int (k : Int) t)) := by with_unfolding_all rfl) :
    WP prog w c A (subscriptTail v sl (.ref l) (.int (k : Int) t)) Q σ := WP.item hl (by lia) (by simpa using hx) hb h hs
theorem ent_at {es : List Ent} {k : Nat} (h : k < es.length) : (es.map Ent.ref)[k]? = some (es[k]'h).ref := by simp [h]
end Mine
namespace Mine
variable {prog : Program} {w : World} {c : Cf} {A : Around} {σ : St}
theorem lookup_rev {bs : List (Str × Value)} (h : (bs.map Prod.fst).Nodup) (x : Str) : bs.reverse.lookup x = bs.lookup x := by
  induction bs with
  | nil => rfl
  | cons b r ih =>
    obtain ⟨n, v⟩ := b
    have hn := List.nodup_cons.mp h
    rw [List.reverse_cons, List.lookup_append, ih hn.2, List.lookup_cons]
    cases hb : x == n with
    | true =>
      have e := eq_of_beq hb
      have : r.lookup x = none := by
        cases q : r.lookup x with
        | none => rfl
        | some v' => exact absurd (List.mem_map.mpr ⟨_, mem_of_lookup q, e⟩) hn.1
      rw [this]
      simp [List.lookup, hb]
    | false =>
      simp [List.lookup, hb]
theorem lk_of_binds (bs : List (Str × Value)) (rest : List Str) (h : (bs.map Prod.fst).Nodup) :
    (fun x => bs.reverse.lookup x) = lk (bs.map Prod.fst ++ rest) (bs.map (fun b => some b.2) ++ rest.map fun _ => none) := by
  funext x
  rw [lookup_rev h]
  clear h
  induction bs with
  | nil =>
    show none = lk rest (rest.map fun _ => none) x
    induction rest with
    | nil => rfl
    | cons n r ih =>
      show none = if x = n then none else lk r (r.map fun _ => none) x
      rw [← ih]; split <;> rfl
  | cons b r ih =>
    obtain ⟨n, v⟩ := b
    show _ = if x = n then some v else lk (r.map Prod.fst ++ rest) (r.map (fun b => some b.2) ++ rest.map fun _ => none) x
    rw [List.lookup_cons, ← ih]
    by_cases e : x = n
    · subst e; simp
    · simp [e, beq_false_of_ne e]
/-- the closed facts of a def without cells: its parameters, its other locals -/
structure Shape (i : Nat) (ps rest : List Str) : Prop where
  loc : ∀ x ∈ ps ++ rest, (scopeAt i).names.lookup x = some .local
  nd : (ps ++ rest).Nodup
  dbg : ∀ x ∈ ps ++ rest, (x == ("__debug__" : Str)) = false
  cell : ∀ x ∈ (scopeAt i).names, x.2 ≠ .cell
  kind : (scopeAt i).kind = .function
  co : (scopeAt i).isCoroutine = false
  gen : (scopeAt i).isGenerator = false
theorem FnOk.go {i : Nat} {nm : Str} {f : Addr} {dV : Value} {ps rest : List Str} {vals vals' : List Value} {Q : Value → St → Prop}
    (hf : FnOk c.hb i nm f dV) (hlim : c.hb.NoLimit) (hroom : A.depth < recursionLimit) (sh : Shape i ps rest) (hl : vals'.length = ps.length)
    (hbind : ∀ pm cd doc, bindArgs (fnAt i nm dV pm cd doc) ⟨vals, []⟩ = Pure.pure (ps.zip vals'))
    (h : ∀ c' : Cf, c'.env.scope = scopeAt i → c'.hb = c.hb →
      WP prog w (c'.nm (ps ++ rest)) (A.deeper c'.env) (execs (bodyAt i) c'.env) (fun fl σ' => Q (retv fl) ⟨σ.v, σ'.D⟩) ⟨vals'.map some ++ rest.map fun _ => none, σ.D⟩) :
    WP prog w c A (call (.ref f) vals) Q σ := by
  have e1 : (ps.zip vals').map Prod.fst = ps := by rw [List.map_fst_zip]; lia
  have e2 : (ps.zip vals').map (fun b => some b.2) = vals'.map some := by
    have : (ps.zip vals').map (fun b => some b.2) = ((ps.zip vals').map Prod.snd).map some := by rw [List.map_map]; rfl
    rw [this, List.map_snd_zip]; lia
  have hlk := lk_of_binds (ps.zip vals') rest (by rw [e1]; exact (List.nodup_append.mp sh.nd).1)
  rw [e1, e2] at hlk
  refine FnOk.enter hf hlim hroom hbind (fun x hx => sh.loc _ (List.mem_append_left _ ?_)) sh.cell hlk (by simp [hl]) (fun L cd => ⟨sh.kind, sh.loc, sh.nd, sh.dbg, rfl, rfl⟩) h sh.co sh.gen sh.kind
  obtain ⟨x1, x2⟩ := x
  exact (List.of_mem_zip hx).1
end Mine
namespace Mine
variable {prog : Program} {w : World} {c : Cf} {A : Around} {σ : St}
theorem WP.expr {e : Expr} {p : Pos} {Q : Flow → St → Prop} (h : WP prog w c A (eval e c.env) (fun _ σ' => Q .next σ') σ)
    (hs : swapsWith e none p.line c.env = Pure.pure false := by with_unfolding_all rfl) : WP prog w c A (exec (.Expr e p) c.env) Q σ := fun s ha => by
  have hi : interactive c.env = false := by unfold interactive; rw [ha.ok.kind]; rfl
  rw [exec_Expr c.env e p hi hs]
  refine wpAny_bind (wpAny_standAt (wpAny_bind (wpAny_mono (h s ha) (fun v s' h' => ?_) fun _ _ x => x)))
  unfold dropValue
  split
  · exact wpAny_pure h'
  · exact wpAny_bind (wpAny_standAt (wpAny_bind (wpAny_runValue (codeAny_builtin entry_let_go (show wpAny _ _ (PySem.ret .none) _ _ s' from wpAny_pure (wpAny_pure h'))))))
  · exact wpAny_pure h'
end Mine
namespace Mine
variable {prog : Program} {w : World} {c : Cf} {A : Around} {σ : St}
theorem CallOk.b {id : String} : CallOk c σ (.builtin id) := trivial
theorem CallOk.t {T : String} : CallOk c σ (.type T) := trivial
theorem WP.call0 {x : Str} {p pos : Pos} {es : List Expr} {Q : Value → St → Prop}
    (h : WP prog w c A (eval (.Name x p) c.env) (fun fv σ₀ => EvL prog w c A es (fun vs σ₁ => CallOk c σ₁ fv ∧ WP prog w c A (call fv vs) Q σ₁) σ₀) σ)
    (hs : backTo pos (starEach es c.env) = es.map (fun e => (false, eval e c.env)) := by with_unfolding_all rfl) :
    WP prog w c A (eval (.Call (.Name x p) es [] pos) c.env) Q σ :=
  WP.callN (h.mono fun fv σ₀ q => q.mono fun vs σ₁ _ q₁ => EvL.nil q₁) hs rfl
end Mine
end
section
open PySem PyProof.Rows
namespace Mine
variable {prog : Program} {w : World} {c : Cf} {A : Around} {σ : St}
/-! ## forgetting one object -/
noncomputable def del (D : Addr → Option AO) (a : Addr) : Addr → Option AO := fun b => if b = a then none else D b
theorem del_self {D : Addr → Option AO} {a : Addr} : del D a a = none := if_pos rfl
theorem del_ne {D : Addr → Option AO} {a b : Addr} (h : b ≠ a) : del D a b = D b := if_neg h
theorem del_upd {D : Addr → Option AO} {a : Addr} {x : AO} : del (upd D a x) a = del D a := by
  funext b; unfold del upd; split <;> rfl
theorem del_none {D : Addr → Option AO} {a : Addr} (h : D a = none) : del D a = D := by
  funext b; unfold del; split
  · rename_i e; rw [e, h]
  · rfl
theorem del_le {D : Addr → Option AO} {a : Addr} : ∀ b y, del D a b = some y → D b = some y := fun b y e => by
  unfold del at e; split at e
  · cases e
  · exact e
theorem Abs.extBut {s : Shared} (hs : Abs c σ s) {a : Addr} {x : AO} {h' : Heap} (ho : σ.D a = some x) (hx : Heap.ExtBut a s.heap h') : Abs c ⟨σ.v, del σ.D a⟩ { s with heap := h' } where
  ok := hs.ok
  len := hs.len
  ns := hs.ns.extBut hx (Ne.symm (hs.apart _ _ ho).1)
  rig := fun b ob e => hx b ob (fun q => by rw [q, (hs.apart _ _ ho).2] at e; cases e) (hs.rig b ob e)
  dat := fun b xb e => by
    have hb : b ≠ a := fun q => by rw [q] at e; have e' : del σ.D a a = some xb := e; rw [del_self] at e'; cases e'
    obtain ⟨ob, e1, r1⟩ := hs.dat b xb (del_le _ _ e)
    exact ⟨ob, hx b ob hb e1, r1⟩
  apart := fun b xb e => hs.apart b xb (del_le _ _ e)
  fr := hs.fr
  base := hs.base
  gens := hs.gens
  os := hs.os
theorem Abs.obj {s : Shared} (hs : Abs c σ s) {a : Addr} {o : Obj} (h : σ.D a = some (.obj o)) : s.heap.get? a = some o := let ⟨o', e, r⟩ := hs.dat _ _ h; by rw [e, show o' = o from r]
/-! ## loops -/
theorem WP.fors {t i : Expr} {b : List Stmt} {p : Pos} {Q : Flow → St → Prop}
    (h : WP prog w c A (eval i c.env) (fun x σ₁ => WP prog w c A (pyIter x) (fun it σ₂ => WC prog w c A (.forLoop t it b [] c.env) Q σ₂) σ₁) σ)
    (hs : ∀ x, foldedSetIterable i c.env x = Pure.pure x := by intro _; with_unfolding_all rfl) : WP prog w c A (exec (.For t i b [] p) c.env) Q σ := fun s ha => by
  refine wpAny_For (wpAny_mono (h s ha) (fun x s₁ xq => ex3 xq fun σ₁ a₁ q₁ => wpAny_mono (q₁ s₁ a₁) (fun it s₂ xq => ex3 xq fun σ₂ a₂ q₂ => ?_) fun _ _ e => e) fun _ _ e => e) hs
  refine codeAny_mono (q₂ s₂ a₂) fun r s' ⟨f, σ', e, a', q'⟩ => ?_
  subst e
  exact ⟨σ', a', q'⟩
theorem WC.forLoop {t : Expr} {it : Value} {b : List Stmt} {Q : Flow → St → Prop} (I : Nat → St → Prop)
    (turn : ∀ n σ, I n σ → WP prog w c A (pyNext it) (fun r σ₁ => match r with
      | none => Q .next σ₁
      | some v => WP prog w c A (letOwnedTupleGo t it v) (fun _ σ₂ => WP prog w c A (PySem.assign t c.env v) (fun _ σ₃ => WP prog w c A (execs b c.env) (fun f σ₄ => match f with
        | .next | .cont => ∃ m, m < n ∧ I m σ₄
        | .brk => Q .next σ₄
        | .ret v => Q (.ret v) σ₄) σ₃) σ₂) σ₁) σ)
    (n : Nat) (h : I n σ) : WC prog w c A (.forLoop t it b [] c.env) Q σ := fun s hs => by
  refine codeAny_forLoop_any (fun n s => ∃ σ, Abs c σ s ∧ I n σ) (fun n s xq => ex3 xq fun σ ha hI => ?_) n ⟨σ, hs, h⟩
  refine wpAny_mono (turn n σ hI s ha) (fun r s₁ xq => ex3 xq fun σ₁ a₁ q₁ => ?_) fun _ _ e => e.elim
  cases r with
  | none => exact wpAny_execs_nil ⟨_, σ₁, rfl, a₁, q₁⟩
  | some v =>
    refine wpAny_mono (q₁ s₁ a₁) (fun _ s₂ xq => ex3 xq fun σ₂ a₂ q₂ => ?_) fun _ _ e => e.elim
    refine wpAny_mono (q₂ s₂ a₂) (fun _ s₃ xq => ex3 xq fun σ₃ a₃ q₃ => ?_) fun _ _ e => e.elim
    refine wpAny_mono (q₃ s₃ a₃) (fun f s₄ xq => ex3 xq fun σ₄ a₄ q₄ => ?_) fun _ _ e => e.elim
    cases f with
    | next => obtain ⟨m, hm, hI'⟩ := q₄; exact ⟨m, hm, σ₄, a₄, hI'⟩
    | cont => obtain ⟨m, hm, hI'⟩ := q₄; exact ⟨m, hm, σ₄, a₄, hI'⟩
    | brk => exact ⟨_, σ₄, rfl, a₄, q₄⟩
    | ret v => exact ⟨_, σ₄, rfl, a₄, q₄⟩
theorem WP.lotName {x : Str} {p : Pos} {it v : Value} {Q : Unit → St → Prop} (h : Q () σ) : WP prog w c A (letOwnedTupleGo (.Name x p) it v) Q σ := WP.pure h
theorem WP.asgName {x : Str} {p : Pos} {i : Nat} {v : Value} {Q : Unit → St → Prop} (hi : IxAt c.names x i) (h : Q () (σ.set i v)) : WP prog w c A (PySem.assign (.Name x p) c.env v) Q σ := by
  rw [PySem.assign_Name]
  exact WP.bind (WP.stand (WP.bindName hi h))
/-! ## lists -/
theorem WP.iterList {l : Addr} {vs : List Value} {Q : Value → St → Prop} (hl : σ.D l = some (.list vs)) (h : ∀ a, New c σ a → Q (.ref a) (σ.put a (.lit l 0))) : WP prog w c A (pyIter (.ref l)) Q σ := fun s hs =>
  wpAny_pyIter_list (hs.isList hl) ⟨_, hs.push (x := .lit l 0) _ ⟨rfl, rfl⟩ rfl, h _ hs.new⟩
theorem Abs.lit {s : Shared} (hs : Abs c σ s) {it l : Addr} {i : Nat} (h : σ.D it = some (.lit l i)) : s.heap.IsListIter it l i := let ⟨o, e, r⟩ := hs.dat _ _ h; ⟨o, e, r⟩
theorem WP.nextList {it l : Addr} {i : Nat} {vs : List Value} {x : Value} {Q : Option Value → St → Prop} (hi : σ.D it = some (.lit l i)) (hl : σ.D l = some (.list vs)) (hx : vs[i]? = some x)
    (h : Q (some x) (σ.put it (.lit l (i + 1)))) : WP prog w c A (pyNext (.ref it)) Q σ := fun s hs =>
  wpAny_pyNext_list_item (hs.lit hi) (hs.isList hl) (by simpa using hx) fun h' hi' hb => let ⟨o, e, r⟩ := hi'; ⟨_, hs.upd (y := .lit l (i + 1)) hi hb e r, h⟩
theorem WP.nextListEnd {it l : Addr} {i : Nat} {vs : List Value} {Q : Option Value → St → Prop} (hh : A.handled = none) (hi : σ.D it = some (.lit l i)) (hl : σ.D l = some (.list vs)) (hx : vs.length ≤ i)
    (h : Q none ⟨σ.v, del σ.D it⟩) : WP prog w c A (pyNext (.ref it)) Q σ := fun s hs =>
  wpAny_pyNext_list_end hh (hs.lit hi) (hs.isList hl) (by simpa using hx) fun h' hb => ⟨_, hs.extBut hi hb, h⟩
/-! ## ranges -/
@[reducible] noncomputable def rngO (a b c : Int) (t u v : Tok) : AO := .obj { cls := .type "range", dict := none, data := .fields #[.int a t, .int b u, .int c v], slots := #[] }
@[reducible] noncomputable def ritO (x left step : Int) : AO := .obj { cls := .type "range_iterator", dict := none, data := .fields #[rawInt x, rawInt left, rawInt step], slots := #[] }
theorem WP.range1 {n : Int} {t : Tok} {Q : Value → St → Prop} (h : ∀ a u v, New c σ a → Q (.ref a) (σ.put a (rngO 0 n 1 u t v))) : WP prog w c A (call (.type "range") [.int n t]) Q σ := fun s hs =>
  call_range_1 ⟨_, (hs.push (x := rngO 0 n 1 s.toks t (s.toks + 1)) _ rfl rfl).tok _, h _ _ _ hs.new⟩
theorem WP.range3 {a b d : Int} {t u v : Tok} {Q : Value → St → Prop} (hd : d ≠ 0) (hp : Builtin.divisionGoesByPylong (b - a) d = false) (h : ∀ r, New c σ r → Q (.ref r) (σ.put r (rngO a b d t u v))) :
    WP prog w c A (call (.type "range") [.int a t, .int b u, .int d v]) Q σ := fun s hs =>
  call_range_3 hd ⟨_, (hs.push (x := rngO a b d t u v) _ rfl rfl), h _ hs.new⟩ (.inl hp)
theorem WP.iterRange {r : Addr} {a b d : Int} {t u v : Tok} {Q : Value → St → Prop} (hr : σ.D r = some (rngO a b d t u v)) (hs : Builtin.Range.small a b d = true)
    (h : ∀ i, New c σ i → Q (.ref i) (σ.put i (ritO a (Builtin.Range.rangeSize a b d) d))) : WP prog w c A (pyIter (.ref r)) Q σ := fun s ha =>
  wpAny_pyIter_range (ha.obj hr) hs ⟨_, ha.push (x := ritO a (Builtin.Range.rangeSize a b d) d) _ rfl rfl, h _ ha.new⟩
theorem WP.iterRit {it : Addr} {x left step : Int} {Q : Value → St → Prop} (hi : σ.D it = some (ritO x left step)) (h : Q (.ref it) σ) : WP prog w c A (pyIter (.ref it)) Q σ := fun s ha =>
  wpAny_pyIter_rangeiter (ha.obj hi) ⟨σ, ha, h⟩
theorem WP.nextRange {it : Addr} {x left step : Int} {Q : Option Value → St → Prop} (hi : σ.D it = some (ritO x left step)) (hl : 0 < left)
    (h : ∀ t, Q (some (.int x t)) (σ.put it (ritO (x + step) (left - 1) step))) : WP prog w c A (pyNext (.ref it)) Q σ := fun s ha =>
  wpAny_pyNext_range_item (ha.obj hi) hl fun h' hi' hb => ⟨_, (ha.upd (y := ritO (x + step) (left - 1) step) hi hb hi' rfl).tok _, h _⟩
theorem WP.nextRangeEnd {it : Addr} {x left step : Int} {Q : Option Value → St → Prop} (hh : A.handled = none) (hi : σ.D it = some (ritO x left step)) (hl : left ≤ 0)
    (h : Q none ⟨σ.v, del σ.D it⟩) : WP prog w c A (pyNext (.ref it)) Q σ := fun s ha =>
  wpAny_pyNext_range_end hh (ha.obj hi) hl fun h' hb => ⟨_, ha.extBut hi hb, h⟩
theorem sub_rit_reversed : isSubtype (.type "range_iterator") (.type "reversed") = pure false := by rw [isSubtype_type]; kernel_rfl
set_option maxRecDepth 100000 in
theorem call_range_reversed {r : Addr} {a b d : Int} {t u v : Tok} {s : Shared} {E : Value → Shared → Prop} {Q : Value → Shared → Prop} (hr : IsRange s.heap r a b d t u v)
    (hs : (Builtin.Range.rangeFitsLong a && Builtin.Range.rangeFitsLong b && Builtin.Range.rangeFitsLong d && Builtin.Range.rangeFitsLong (-d) && Builtin.Range.rangeFitsLong (a - d) && Builtin.Range.rangeFitsLong (Builtin.Range.rangeSize a b d)) = true)
    (h : Q (.ref s.heap.objs.size) { s with heap := s.heap.push { cls := .type "range_iterator", data := .fields #[rawInt (a + (Builtin.Range.rangeSize a b d - 1) * d), rawInt (Builtin.Range.rangeSize a b d), rawInt (-d)] } }) :
    wpAny (model prog w) A (call (.builtin "range.__reversed__") [.ref r]) Q E s := by
  have hT : s.TypeIs (.ref r) "range" := ⟨_, hr, rfl⟩
  refine wpAny_call_entry F.slot_range_reversed hT F.entry_range_reversed ?_ (F.args_range_reversed_1 _)
  unfold Builtin.«range.__reversed__»
  refine wpAny_bind (wpAny_of_eq (a := Value.ref r) rfl ?_)
  unfold Builtin.Range.rangeFields
  refine wpAny_bind (wpAny_bind (wpAny_field hr rfl rfl (wpAny_bind (wpAny_of_eq (a := some a) rfl ?_))))
  refine wpAny_bind (wpAny_field hr rfl rfl (wpAny_bind (wpAny_of_eq (a := some b) rfl ?_)))
  refine wpAny_bind (wpAny_field hr rfl rfl (wpAny_bind (wpAny_of_eq (a := some d) rfl ?_)))
  refine wpAny_pure ?_
  dsimp only
  rw [hs]
  simp only [Bool.not_true, Bool.false_eq_true, if_false, if_true]
  exact wpAny_bind (wpAny_newObj_type (wpAny_pure ⟨_, rfl, h⟩))
set_option maxRecDepth 100000 in
theorem code_reversed_range {r : Addr} {a b d : Int} {t u v : Tok} {s : Shared} {E : Value → Shared → Prop} {Q₁ : Value → Shared → Prop} (hr : IsRange s.heap r a b d t u v)
    (hs : (Builtin.Range.rangeFitsLong a && Builtin.Range.rangeFitsLong b && Builtin.Range.rangeFitsLong d && Builtin.Range.rangeFitsLong (-d) && Builtin.Range.rangeFitsLong (a - d) && Builtin.Range.rangeFitsLong (Builtin.Range.rangeSize a b d)) = true)
    (h : Q₁ (.ref s.heap.objs.size) { s with heap := s.heap.push { cls := .type "range_iterator", data := .fields #[rawInt (a + (Builtin.Range.rangeSize a b d - 1) * d), rawInt (Builtin.Range.rangeSize a b d), rawInt (-d)] } }) :
    codeAny (model prog w) A (.call (.builtin "reversed.__new__") ⟨[.type "reversed", .ref r], []⟩) (wants Q₁ E) s := by
  have hT : s.TypeIs (.ref r) "range" := ⟨_, hr, rfl⟩
  refine codeAny_of_tree ?_
  show wpAny _ A.in1 (do checkBuiltinCall "reversed.__new__" ⟨[.type "reversed", .ref r], []⟩; again (.builtin "reversed.__new__" ⟨[.type "reversed", .ref r], []⟩)) _ _ s
  refine wpAny_bind (wpAny_of_eq (F.newCall_reversed_1 _) (wpAny_pure ⟨plainId_quiet F.plain_reversed_new _, codeAny_builtin F.entry_reversed_new ?_⟩))
  rw [Around.under_plainId F.plain_reversed_new _]
  unfold Builtin.«reversed.__new__»
  refine wpAny_bind (wpAny_of_eq (newClass_reversed _) ?_)
  try dsimp only
  refine wpAny_bind (wpAny_of_eq (a := ()) (by first | rfl | kernel_rfl) ?_)
  refine wpAny_bind (wpAny_of_eq (a := ()) (by first | rfl | kernel_rfl) ?_)
  try dsimp only
  refine wpAny_bind (wpAny_specialOf hT F.slot_range_reversed.lookup ?_)
  try dsimp only
  refine wpAny_bind (wpAny_of_eq (F.slot_range_reversed.bind _) ?_)
  try dsimp only
  first
  | rw [if_neg (show ¬ ((Value.builtin "range.__reversed__" == Value.none) = true) from Bool.false_ne_true)]
  | (show wpAny _ _ (if (Value.builtin "range.__reversed__" == Value.none) = true then _ else _) _ _ _; rw [if_neg (show ¬ ((Value.builtin "range.__reversed__" == Value.none) = true) from Bool.false_ne_true)])
  refine wpAny_bind (wpAny_rule ?_)
  refine wpAny_bind (m := runValue (.call (.builtin "range.__reversed__") ⟨[.ref r], []⟩)) (show wpAny _ _ (call (.builtin "range.__reversed__") [.ref r]) _ _ _ from call_range_reversed hr hs ?_)
  first
  | exact wpAny_pure h
  | exact wpAny_pure (wpAny_pure h)
  | exact wpAny_bind (wpAny_pure (wpAny_pure h))
theorem WP.reversedRange {r : Addr} {a b d : Int} {t u v : Tok} {Q : Value → St → Prop} (hr : σ.D r = some (rngO a b d t u v))
    (hs : (Builtin.Range.rangeFitsLong a && Builtin.Range.rangeFitsLong b && Builtin.Range.rangeFitsLong d && Builtin.Range.rangeFitsLong (-d) && Builtin.Range.rangeFitsLong (a - d) && Builtin.Range.rangeFitsLong (Builtin.Range.rangeSize a b d)) = true)
    (h : ∀ i, New c σ i → Q (.ref i) (σ.put i (ritO (a + (Builtin.Range.rangeSize a b d - 1) * d) (Builtin.Range.rangeSize a b d) (-d)))) : WP prog w c A (call (.type "reversed") [.ref r]) Q σ := fun s ha => by
  refine callType_other (U := "range_iterator") (Q₁ := fun obj s₁ => obj = .ref s.heap.objs.size ∧ s₁ = { s with heap := s.heap.push { cls := .type "range_iterator", data := .fields #[rawInt (a + (Builtin.Range.rangeSize a b d - 1) * d), rawInt (Builtin.Range.rangeSize a b d), rawInt (-d)] } }) (by decide +kernel) F.create_reversed ⟨_, _, F.mro_reversed⟩ F.made_reversed sub_rit_reversed (F.typeCall_reversed_1 _) (code_reversed_range (ha.obj hr) hs ⟨rfl, rfl⟩) ?_
  rintro obj s₁ ⟨rfl, rfl⟩
  exact ⟨⟨_, Heap.get?_push_size _ rfl, rfl⟩, ⟨_, ha.push (x := ritO (a + (Builtin.Range.rangeSize a b d - 1) * d) (Builtin.Range.rangeSize a b d) (-d)) _ rfl rfl, h _ ha.new⟩⟩
theorem revOk {n : Nat} (h : n < 1000) : (Builtin.Range.rangeFitsLong 0 && Builtin.Range.rangeFitsLong (n : Int) && Builtin.Range.rangeFitsLong 1 && Builtin.Range.rangeFitsLong (-1) && Builtin.Range.rangeFitsLong (0 - 1) && Builtin.Range.rangeFitsLong (Builtin.Range.rangeSize 0 (n : Int) 1)) = true := by
  rw [rangeSize_one]
  simp only [Builtin.Range.rangeFitsLong, Bool.and_eq_true, decide_eq_true_eq]
  split <;> lia
end Mine
namespace Mine
variable {prog : Program} {w : World} {c : Cf} {A : Around} {σ : St}
theorem WP.weaken {α : Type} {t : Sem α} {Q : α → St → Prop} (h : WP prog w c A t (fun v σ' => ∃ D', (∀ a x, D' a = some x → σ'.D a = some x) ∧ Q v ⟨σ'.v, D'⟩) σ) : WP prog w c A t Q σ :=
  fun s hs => wpAny_mono (h s hs) (fun v s' ⟨σ', a', D', hd, q⟩ => ⟨_, a'.less hd, q⟩) fun _ _ e => e
theorem WC.less {t : Code} {Q : Flow → St → Prop} {D' : Addr → Option AO} (h : WC prog w c A t Q { σ with D := D' }) (hd : ∀ a o, D' a = some o → σ.D a = some o) : WC prog w c A t Q σ :=
  fun s hs => h s (hs.less hd)
theorem New.ne {a p : Addr} {x : AO} (h : New c σ a) (hp : σ.D p = some x) : p ≠ a := fun e => by rw [e, h.d] at hp; cases hp
theorem le_upd {D D' : Addr → Option AO} {a : Addr} {x : AO} (h : ∀ b y, D b = some y → D' b = some y) : ∀ b y, upd D a x b = some y → upd D' a x b = some y := fun b y e => by
  unfold upd at e ⊢
  split
  · rename_i hb; rw [if_pos hb] at e; exact e
  · rename_i hb; rw [if_neg hb] at e; exact h _ _ e
theorem le_upd_new {D D' : Addr → Option AO} {a : Addr} {x : AO} (h : ∀ b y, D b = some y → D' b = some y) (hn : D a = none) : ∀ b y, D b = some y → upd D' a x b = some y := fun b y e => by
  rw [upd_ne fun q => by rw [q, hn] at e; cases e]
  exact h _ _ e
theorem le_refl {D : Addr → Option AO} : ∀ b y, D b = some y → D b = some y := fun _ _ e => e
end Mine
end
section
open PySem PyProof.Rows
namespace Mine
variable {prog : Program} {w : World} {c : Cf} {A : Around} {σ : St}
theorem Abs.sub {s s₁ : Shared} (hs : Abs c σ s) {E : Env} {names : List Str} {vs : List (Option Value)} {D' : Addr → Option AO}
    (hok : EnvOk E names) (hlen : vs.length = names.length) (hns : s₁.heap.Ns E.locals (lk names vs)) (hext : ∀ b o, s.heap.get? b = some o → s₁.heap.get? b = some o)
    (hL : s.heap.get? E.locals = none)
    (hD : ∀ a x, D' a = some x → σ.D a = some x ∨ (s.heap.get? a = none ∧ a ≠ E.locals ∧ ∃ o, s₁.heap.get? a = some o ∧ Rep x o))
    (hD2 : ∀ a x, σ.D a = some x → D' a = some x) (hg : s₁.gens = s.gens) (ho : s₁.os = s.os) :
    ∃ c' : Cf, c'.env = E ∧ c'.names = names ∧ c'.hb = c.hb ∧ Abs c' ⟨vs, D'⟩ s₁ ∧ ∀ σ' s' h', Abs c' σ' s' → Heap.SameBut E.locals s'.heap h' → Abs c ⟨σ.v, σ'.D⟩ { s' with heap := h' } := by
  have dR : ∀ b ob, c.R b = some ob → σ.D b = none := fun b ob e => by
    cases q : σ.D b with
    | none => rfl
    | some x => have := (hs.apart _ _ q).2; rw [e] at this; cases this
  let c' : Cf := { env := E, names := names, R := fun a => if (σ.D a).isSome then none else s.heap.get? a, os := c.os, hb := c.hb }
  have A0 : Abs c' ⟨vs, D'⟩ s₁ := {
    ok := hok
    len := hlen
    ns := hns
    rig := fun a ob e => by
      have e' : (if (σ.D a).isSome then none else s.heap.get? a) = some ob := e
      split at e'
      · cases e'
      · exact hext _ _ e'
    dat := fun a x e => by
      rcases hD a x e with e | ⟨_, _, o, e1, r⟩
      · obtain ⟨ob, e1, r⟩ := hs.dat a x e; exact ⟨ob, hext _ _ e1, r⟩
      · exact ⟨o, e1, r⟩
    apart := fun a x e => by
      rcases hD a x e with e | ⟨h1, h2, o, e1, r⟩
      · obtain ⟨ob, e1, r⟩ := hs.dat a x e
        refine ⟨fun q => (by rw [q, hL] at e1; cases e1), ?_⟩
        show (if (σ.D a).isSome then none else s.heap.get? a) = none
        rw [e]; rfl
      · refine ⟨h2, ?_⟩
        show (if (σ.D a).isSome then none else s.heap.get? a) = none
        split
        · rfl
        · exact h1
    fr := by
      show (if (σ.D E.locals).isSome then none else s.heap.get? E.locals) = none
      rw [hL]; split <;> rfl
    base := fun a ob e => by
      have e1 := hs.base a ob e
      show (if (σ.D a).isSome then none else s.heap.get? a) = some ob
      rw [dR _ _ e1]; exact hs.rig _ _ e1
    gens := hg.trans hs.gens
    os := ho.trans hs.os }
  refine ⟨c', rfl, rfl, rfl, A0, fun σ' s' h' a' hb => ?_⟩
  obtain ⟨oL, hoL⟩ : ∃ oL, s.heap.get? c.env.locals = some oL := let ⟨o, _, _, e, _⟩ := hs.ns; ⟨o, e⟩
  have dL : σ.D c.env.locals = none := by
    cases q : σ.D c.env.locals with
    | none => rfl
    | some x => exact absurd rfl (hs.apart _ _ q).1
  have rL : c'.R c.env.locals = some oL := by
    show (if (σ.D c.env.locals).isSome then none else s.heap.get? c.env.locals) = some oL
    rw [dL]; exact hoL
  have rR : ∀ b ob, c.R b = some ob → c'.R b = some ob := fun b ob e => by
    show (if (σ.D b).isSome then none else s.heap.get? b) = some ob
    rw [dR _ _ e]; exact hs.rig _ _ e
  have fr' : c'.R E.locals = none := a'.fr
  have rig' : ∀ b ob, c'.R b = some ob → h'.get? b = some ob := fun b ob e => (hb.2 b fun q => by rw [q, fr'] at e; cases e).trans (a'.rig _ _ e)
  exact {
    ok := hs.ok
    len := hs.len
    ns := by
      obtain ⟨oo, es, ep, e, r⟩ := hs.ns
      rw [hoL] at e; cases e
      exact ⟨oL, es, ep, rig' _ _ rL, r⟩
    rig := fun b ob e => rig' _ _ (rR _ _ e)
    dat := fun b x e => let ⟨ob, e1, r⟩ := a'.dat b x e; ⟨ob, (hb.2 b (a'.apart b x e).1).trans e1, r⟩
    apart := fun b x e => by
      have h2 := (a'.apart b x e).2
      refine ⟨fun q => ?_, ?_⟩
      · rw [q] at h2
        have h3 : c'.R c.env.locals = none := h2
        rw [rL] at h3; cases h3
      · cases q : c.R b with
        | none => rfl
        | some ob =>
          have h3 : c'.R b = none := h2
          rw [rR _ _ q] at h3; cases h3
    fr := hs.fr
    base := hs.base
    gens := a'.gens
    os := a'.os }
theorem Abs.foreign {s : Shared} (hs : Abs c σ s) {C : Addr} {h' : Heap} (h1 : c.R C = none) (h2 : C ≠ c.env.locals) (h3 : ∀ a x, σ.D a = some x → a ≠ C) (hb : Heap.SameBut C s.heap h') : Abs c σ { s with heap := h' } where
  ok := hs.ok
  len := hs.len
  ns := hs.ns.sameBut hb h2.symm
  rig := fun b ob e => (hb.2 b fun q => by rw [q, h1] at e; cases e).trans (hs.rig b ob e)
  dat := fun b x e => let ⟨ob, e1, r⟩ := hs.dat b x e; ⟨ob, (hb.2 b (h3 b x e)).trans e1, r⟩
  apart := hs.apart
  fr := hs.fr
  base := hs.base
  gens := hs.gens
  os := hs.os
theorem get_size (h : Heap) : h.get? h.objs.size = none := by
  cases q : h.get? h.objs.size with
  | none => rfl
  | some x => exact absurd (Heap.lt_size q) (Nat.lt_irrefl _)
/-! ## cells -/
theorem WP.cname {x : Str} {p : Pos} {a : Addr} {v : Value} {Q : Value → St → Prop} (hk : c.env.kindOf x = some .cell) (hc : c.env.cells.lookup x = some a) (hv : σ.D a = some (.cell (some v))) (h : Q v σ)
    (hd : (x == ("__debug__" : Str)) = false := by decide) : WP prog w c A (eval (.Name x p) c.env) Q σ := fun s hs =>
  wpAny_Name (wpAny_loadName_cell hs.ok.kind hk hc (let ⟨o, e, r⟩ := hs.dat _ _ hv; ⟨o, e, r⟩) ⟨σ, hs, h⟩) hd
theorem WP.cstore {x : Str} {a : Addr} {v₀ : Option Value} {v : Value} {Q : Unit → St → Prop} (hk : c.env.kindOf x = some .cell) (hc : c.env.cells.lookup x = some a) (hv : σ.D a = some (.cell v₀)) (h : Q () (σ.put a (.cell (some v)))) :
    WP prog w c A (PySem.bindName c.env x v) Q σ := fun s hs =>
  wpAny_bindName (wpAny_storeName_cell hs.ok.kind hk hc (let ⟨o, e, r⟩ := hs.dat _ _ hv; ⟨o, e, r⟩) fun h' hc' hb => let ⟨o, e, r⟩ := hc'; ⟨_, hs.upd (y := .cell (some v)) hv hb e r, h⟩)
theorem WP.cassign {x : Str} {p' p : Pos} {e : Expr} {a : Addr} {Q : Flow → St → Prop} (hk : c.env.kindOf x = some .cell) (hc : c.env.cells.lookup x = some a)
    (h : WP prog w c A (eval e c.env) (fun v σ' => ∃ v₀, σ'.D a = some (.cell v₀) ∧ Q .next (σ'.put a (.cell (some v)))) σ)
    (hs : swapsWith e (some (.Name x p')) p.line c.env = Pure.pure false) :
    WP prog w c A (exec (.Assign [.Name x p'] e p) c.env) Q σ := by
  rw [exec_Assign_Name c.env x p' e p hs]
  exact WP.bind (WP.stand (WP.bind (h.mono fun v σ' ⟨v₀, hv, q⟩ => WP.bind (WP.stand (WP.bind (WP.cstore hk hc hv (WP.pure q)))))))
theorem WP.enterC {f : Addr} {o : Obj} {fd : FuncData} {body : List Stmt} {vals : List Value} {binds : List (Str × Value)} {names : List Str} {vs : List (Option Value)} {cm : Str → Option Value} {Q : Value → St → Prop}
    (ho : ∀ s, Abs c σ s → s.heap.get? f = some o) (hd : o.data = .func fd) (hlim : c.hb.NoLimit) (hcd : ∀ s, Abs c σ s → s.heap.CodeRec fd.code fd.qualname)
    (hbody : fd.body = .stmts body) (hclo : fd.closure = []) (hroom : A.depth < recursionLimit)
    (hbind : ∀ s, Abs c σ s → BindsTo s fd ⟨vals, []⟩ binds)
    (hkind : ∀ L, ∀ x ∈ binds, fd.scope.names.lookup x.1 = some .local ∨ (fd.scope.names.lookup x.1 = some .cell ∧ ((cellsFrom L fd.scope.names []).lookup x.1).isSome = true))
    (hlk : bindL (fun n => fd.scope.names.lookup n) binds (fun _ => none) = lk names vs) (hcm : bindC (fun n => fd.scope.names.lookup n) binds (fun _ => none) = cm) (hlen : vs.length = names.length)
    (hok : ∀ L, EnvOk (callEnvC fd L f) names)
    (h : ∀ (c' : Cf) (L : Addr) (D' : Addr → Option AO), c'.env = callEnvC fd L f → c'.hb = c.hb → (∀ a x, σ.D a = some x → D' a = some x) → (∀ n a, (cellsFrom (L + 1) fd.scope.names []).lookup n = some a → D' a = some (.cell (cm n))) →
      (∀ n m a, (cellsFrom (L + 1) fd.scope.names []).lookup n = some a → (cellsFrom (L + 1) fd.scope.names []).lookup m = some a → n = m) → (∀ n a x, (cellsFrom (L + 1) fd.scope.names []).lookup n = some a → σ.D a ≠ some x) →
      WP prog w (c'.nm names) (A.deeper c'.env) (execs body c'.env) (fun fl σ' => Q (retv fl) ⟨σ.v, σ'.D⟩) ⟨vs, D'⟩)
    (hco : fd.scope.isCoroutine = false := by rfl) (hgen : fd.scope.isGenerator = false := by rfl) (hk : fd.scope.kind = .function := by rfl) :
    WP prog w c A (call (.ref f) vals) Q σ := by
  intro s hs
  refine wpAny_call (codeAny_call_function hroom (ho s hs) hd hco hgen hbody (hcd s hs) (hbind s hs _ _ _ _ ?_))
  rw [hclo]
  refine wpAny_newFunctionEnv_cells hk (hkind _) fun env' he' s₁ X => ?_
  subst he'
  replace X : InCallC s (callEnvC fd s.heap.objs.size f).locals (bindL (callEnvC fd s.heap.objs.size f).kindOf binds fun _ => none) (callEnvC fd s.heap.objs.size f).cells (bindC (callEnvC fd s.heap.objs.size f).kindOf binds fun _ => none) s₁ := X
  refine ⟨(hlim.keeps hs.hbk).keeps X.toInCall.keep, codeAny_func ?_⟩
  show wpAny _ (A.deeper (callEnvC fd s.heap.objs.size f)) (execs body (callEnvC fd s.heap.objs.size f)) _ _ _
  have hadr : ∀ {n a}, (cellsFrom (s.heap.objs.size + 1) fd.scope.names []).lookup n = some a → s.heap.objs.size < a := fun e => X.above _ _ (mem_of_lookup e)
  have hnone : ∀ {n a}, (cellsFrom (s.heap.objs.size + 1) fd.scope.names []).lookup n = some a → s.heap.get? a = none := fun {n a} e => by
    cases q : s.heap.get? a with
    | none => rfl
    | some ob => exact absurd (Heap.lt_size q) (Nat.not_lt.mpr (Nat.le_of_lt (hadr e)))
  have hinj : ∀ n m a, (cellsFrom (s.heap.objs.size + 1) fd.scope.names []).lookup n = some a → (cellsFrom (s.heap.objs.size + 1) fd.scope.names []).lookup m = some a → n = m :=
    fun n m a e1 e2 => name_of_addr X.apart (mem_of_lookup e1) (mem_of_lookup e2)
  obtain ⟨h₁, tk, e0, hext⟩ := X.done
  have hcell := X.cell
  have hcm' : (bindC (callEnvC fd s.heap.objs.size f).kindOf binds fun _ => none) = cm := hcm
  have hcell2 : ∀ n a, (cellsFrom (s.heap.objs.size + 1) fd.scope.names []).lookup n = some a → s₁.heap.IsCell a (cm n) := fun n a e => by
    have := hcell n a e
    rw [hcm'] at this
    exact this
  have hns : s₁.heap.Ns (callEnvC fd s.heap.objs.size f).locals (lk names vs) := by
    have := X.toInCall.ns
    have e : (bindL (callEnvC fd s.heap.objs.size f).kindOf binds fun _ => none) = lk names vs := hlk
    rw [e] at this
    exact this
  classical
  let D' : Addr → Option AO := fun a => if q : ∃ n, (cellsFrom (s.heap.objs.size + 1) fd.scope.names []).lookup n = some a then some (.cell (cm q.choose)) else σ.D a
  have d1 : ∀ n a, (cellsFrom (s.heap.objs.size + 1) fd.scope.names []).lookup n = some a → D' a = some (.cell (cm n)) := fun n a e => by
    have q : ∃ n, (cellsFrom (s.heap.objs.size + 1) fd.scope.names []).lookup n = some a := ⟨n, e⟩
    show (if q : ∃ n, (cellsFrom (s.heap.objs.size + 1) fd.scope.names []).lookup n = some a then some (AO.cell (cm q.choose)) else σ.D a) = _
    rw [dif_pos q, hinj _ _ _ q.choose_spec e]
  have d2 : ∀ a x, σ.D a = some x → D' a = some x := fun a x e => by
    show (if q : ∃ n, (cellsFrom (s.heap.objs.size + 1) fd.scope.names []).lookup n = some a then some (AO.cell (cm q.choose)) else σ.D a) = _
    rw [dif_neg]
    · exact e
    · rintro ⟨n, q⟩
      obtain ⟨ob, e1, _⟩ := hs.dat a x e
      rw [hnone q] at e1; cases e1
  obtain ⟨c', g1, g2, g3, a1, back⟩ := hs.sub (E := callEnvC fd s.heap.objs.size f) (names := names) (vs := vs) (D' := D') (s₁ := s₁) (hok _) hlen hns (by rw [e0]; exact hext) (get_size _) (fun a x e => by
    by_cases q : ∃ n, (cellsFrom (s.heap.objs.size + 1) fd.scope.names []).lookup n = some a
    · obtain ⟨n, q⟩ := q
      rw [d1 n a q] at e
      cases e
      obtain ⟨oc, e1, r⟩ := hcell2 n a q
      exact .inr ⟨hnone q, Nat.ne_of_gt (hadr q), oc, e1, r⟩
    · have : D' a = σ.D a := dif_neg q
      rw [this] at e
      exact .inl e) d2 (by rw [e0]) (by rw [e0])
  have hc' : c'.nm names = c' := by rw [← g2]
  rw [← g1]
  have key := h c' s.heap.objs.size D' g1 g3 d2 d1 hinj (fun n a x e1 e2 => by obtain ⟨ob, e3, _⟩ := hs.dat a x e2; rw [hnone e1] at e3; cases e3)
  rw [hc'] at key
  refine wpAny_mono (key s₁ a1) (fun fl s' xq => ex3 xq fun σ' a' q => ?_) fun _ _ e => e.elim
  cases fl <;> exact ⟨_, back _ _ _ a' (.refl ..), q⟩
/-! ## list comprehensions -/
theorem WP.append {l : Addr} {vs : List Value} {x : Value} {Q : Value → St → Prop} (hl : σ.D l = some (.list vs)) (hz : vs.length ≤ 100000) (h : Q .none (σ.put l (.list (vs ++ [x])))) : WP prog w c A (call (.builtin "list.append") [.ref l, x]) Q σ := fun s hs =>
  wpAny_list_append_plain (hs.plain hl) (fun h' hl' hb => let ⟨n, e⟩ := hl'; ⟨_, hs.upd (y := .list (vs ++ [x])) hl hb e ⟨n, by simp⟩, h⟩) (by rw [sizeLine_eq]; simp; lia)
theorem WC.compStart {elt target iter : Expr} {ifs : List Expr} {scope : Scope} {pos : Pos} {it : Addr} {acc : Value} {Q : Flow → St → Prop}
    (hit : ∀ P : Value → St → Prop, P (.ref it) σ → WP prog w c A (pyIter (.ref it)) P σ)
    (h : WC prog w c A (.compLoop (.ListComp elt [⟨target, iter, ifs, 0⟩] scope pos) 0 (.ref it) acc c.env) Q σ) :
    WC prog w c A (.compStart (.ListComp elt [⟨target, iter, ifs, 0⟩] scope pos) 0 (.ref it) acc c.env) Q σ := fun s hs =>
  codeAny_compStart_list (h s hs) (wpAny_mono (hit (fun v σ' => v = .ref it ∧ WC prog w c A (.compLoop (.ListComp elt [⟨target, iter, ifs, 0⟩] scope pos) 0 (.ref it) acc c.env) Q σ') ⟨rfl, h⟩ s hs)
    (fun v s' ⟨σ', a', e, q⟩ => by rw [e]; exact q s' a') fun _ _ e => e.elim)
theorem WC.compLoop {elt target iter : Expr} {scope : Scope} {pos : Pos} {it acc : Value} {Q : Flow → St → Prop} (I : Nat → St → Prop)
    (turn : ∀ n σ, I n σ → WP prog w c A (pyNext it) (fun r σ₁ => match r with
      | none => Q .next σ₁
      | some v => WP prog w c A (letOwnedTupleGo target it v) (fun _ σ₂ => WP prog w c A (PySem.assign target c.env v) (fun _ σ₃ => WP prog w c A (eval elt c.env) (fun x σ₄ =>
          WP prog w c A (call (.builtin "list.append") [acc, x]) (fun _ σ₅ => ∃ m, m < n ∧ I m σ₅) σ₄) σ₃) σ₂) σ₁) σ)
    (n : Nat) (h : I n σ) : WC prog w c A (.compLoop (.ListComp elt [⟨target, iter, [], 0⟩] scope pos) 0 it acc c.env) Q σ := fun s hs => by
  refine codeAny_loop rfl (fun n s => ∃ σ, Abs c σ s ∧ I n σ) (fun n s xq => ex3 xq fun σ ha hI => ?_) n ⟨σ, hs, h⟩
  show wpAny _ _ ((compTurn (.ListComp elt [⟨target, iter, [], 0⟩] scope pos) 0 it acc c.env).onRaise (fun x => do noteFrame x c.env; theTreesLotGoes x)) _ _ s
  refine wpAny_noted ?_
  rw [compTurn_list1]
  refine wpAny_bind (wpAny_standAt (wpAny_bind (wpAny_mono (turn n σ hI s ha) (fun r s₁ xq => ex3 xq fun σ₁ a₁ q₁ => ?_) fun _ _ e => e.elim)))
  cases r with
  | none => exact wpAny_pure ⟨_, σ₁, rfl, a₁, q₁⟩
  | some v =>
    refine wpAny_bind (wpAny_mono (q₁ s₁ a₁) (fun _ s₂ xq => ex3 xq fun σ₂ a₂ q₂ => ?_) fun _ _ e => e.elim)
    refine wpAny_bind (wpAny_mono (q₂ s₂ a₂) (fun _ s₃ xq => ex3 xq fun σ₃ a₃ q₃ => ?_) fun _ _ e => e.elim)
    refine wpAny_bind (wpAny_bind (wpAny_mono (q₃ s₃ a₃) (fun x s₄ xq => ex3 xq fun σ₄ a₄ q₄ => ?_) fun _ _ e => e.elim))
    refine wpAny_bind (wpAny_mono (q₄ s₄ a₄) (fun _ s₅ ⟨σ₅, a₅, m, hm, hI'⟩ => wpAny_pure (wpAny_pure ⟨rfl, m, hm, σ₅, a₅, hI'⟩)) fun _ _ e => e.elim)
theorem compTurn_if (elt target iter t : Expr) (scope : Scope) (pos : Pos) (it acc : Value) (env : Env) :
    compTurn (.ListComp elt [⟨target, iter, [t], 0⟩] scope pos) 0 it acc env = (standAt iter.pos >>= fun _ => pyNext it >>= fun r => match r with
      | none => Pure.pure (.done .next)
      | some v => letOwnedTupleGo target it v >>= fun _ => PySem.assign target env v >>= fun _ => (forIn [t] true fun c r => if r = true then (do let ok ← isTrue c env (eval c env); Pure.pure (ForInStep.yield ok)) else Pure.pure (ForInStep.yield r)) >>= fun ok =>
        if ok = true then ((eval elt env >>= fun x => call (.builtin "list.append") [acc, x] >>= fun _ => Pure.pure ()) >>= fun _ =>
          again (.compLoop (.ListComp elt [⟨target, iter, [t], 0⟩] scope pos) 0 it acc env)) else again (.compLoop (.ListComp elt [⟨target, iter, [t], 0⟩] scope pos) 0 it acc env)) := by rfl
theorem WC.compLoopIf {elt target iter t : Expr} {scope : Scope} {pos : Pos} {it acc : Value} {Q : Flow → St → Prop} (I : Nat → St → Prop)
    (turn : ∀ n σ, I n σ → WP prog w c A (pyNext it) (fun r σ₁ => match r with
      | none => Q .next σ₁
      | some v => WP prog w c A (letOwnedTupleGo target it v) (fun _ σ₂ => WP prog w c A (PySem.assign target c.env v) (fun _ σ₃ => WP prog w c A (isTrue t c.env (eval t c.env)) (fun b σ₄ =>
          if b then WP prog w c A (eval elt c.env) (fun x σ₅ => WP prog w c A (call (.builtin "list.append") [acc, x]) (fun _ σ₆ => ∃ m, m < n ∧ I m σ₆) σ₅) σ₄
          else ∃ m, m < n ∧ I m σ₄) σ₃) σ₂) σ₁) σ)
    (n : Nat) (h : I n σ) : WC prog w c A (.compLoop (.ListComp elt [⟨target, iter, [t], 0⟩] scope pos) 0 it acc c.env) Q σ := fun s hs => by
  refine codeAny_loop rfl (fun n s => ∃ σ, Abs c σ s ∧ I n σ) (fun n s xq => ex3 xq fun σ ha hI => ?_) n ⟨σ, hs, h⟩
  show wpAny _ _ ((compTurn (.ListComp elt [⟨target, iter, [t], 0⟩] scope pos) 0 it acc c.env).onRaise (fun x => do noteFrame x c.env; theTreesLotGoes x)) _ _ s
  refine wpAny_noted ?_
  rw [compTurn_if]
  refine wpAny_bind (wpAny_standAt (wpAny_bind (wpAny_mono (turn n σ hI s ha) (fun r s₁ xq => ex3 xq fun σ₁ a₁ q₁ => ?_) fun _ _ e => e.elim)))
  cases r with
  | none => exact wpAny_pure ⟨_, σ₁, rfl, a₁, q₁⟩
  | some v =>
    refine wpAny_bind (wpAny_mono (q₁ s₁ a₁) (fun _ s₂ xq => ex3 xq fun σ₂ a₂ q₂ => ?_) fun _ _ e => e.elim)
    refine wpAny_bind (wpAny_mono (q₂ s₂ a₂) (fun _ s₃ xq => ex3 xq fun σ₃ a₃ q₃ => ?_) fun _ _ e => e.elim)
    simp only [List.forIn_cons, List.forIn_nil, if_true]
    refine wpAny_bind (wpAny_bind (wpAny_bind (wpAny_mono (q₃ s₃ a₃) (fun b s₄ xq => ex3 xq fun σ₄ a₄ q₄ => ?_) fun _ _ e => e.elim)))
    refine wpAny_pure (wpAny_pure ?_)
    cases b with
    | true =>
      rw [if_pos rfl] at q₄ ⊢
      refine wpAny_bind (wpAny_bind (wpAny_mono (q₄ s₄ a₄) (fun x s₅ xq => ex3 xq fun σ₅ a₅ q₅ => ?_) fun _ _ e => e.elim))
      refine wpAny_bind (wpAny_mono (q₅ s₅ a₅) (fun _ s₆ ⟨σ₆, a₆, m, hm, hI'⟩ => wpAny_pure (wpAny_pure ⟨rfl, m, hm, σ₆, a₆, hI'⟩)) fun _ _ e => e.elim)
    | false =>
      rw [if_neg (by decide)] at q₄ ⊢
      obtain ⟨m, hm, hI'⟩ := q₄
      exact wpAny_pure ⟨rfl, m, hm, σ₄, a₄, hI'⟩
/-- the closed facts of a comprehension's block -/
structure CShape (scope : Scope) (names : List Str) : Prop where
  kind : scope.kind = .function
  locs : ∀ x ∈ scope.names, x.2 = .local → scope.names.lookup x.1 = some .local
  cell : ∀ x ∈ scope.names, x.2 ≠ .cell
  loc : ∀ x ∈ names, scope.names.lookup x = some .local
  nd : names.Nodup
  dbg : ∀ x ∈ names, (x == ("__debug__" : Str)) = false
theorem lk_empty : ∀ (names : List Str), (fun x => ([] : List (Str × Value)).reverse.lookup x) = lk names (names.map fun _ => none) := fun names => by
  have := lk_of_binds [] names (by simp)
  simpa using this
theorem comp_in {scope : Scope} {names : List Str} {cl : List (Str × Addr)} {s : Shared} {E : Value → Shared → Prop} (cs : CShape scope names) (hs : Abs c σ s) {M : Model} {P : Env → Shared → Prop}
    (h : ∀ (c' : Cf) (C : Addr) (s₁ : Shared), c'.env = compEnvC scope cl C c.env → c'.hb = c.hb → c'.names = names → Abs c' ⟨names.map fun _ => none, σ.D⟩ s₁ →
      (∀ σ' s' h', Abs c' σ' s' → Heap.SameBut C s'.heap h' → Abs c ⟨σ.v, σ'.D⟩ { s' with heap := h' }) → c.R C = none → C ≠ c.env.locals → P (newEnv scope C c.env.globals cl c.env.qual none .none (some c.env) builtinsNs) s₁) :
    wpAny M A (newFunctionEnv scope c.env.globals cl [] c.env.qual none .none (some c.env)) P E s := by
  refine wpAny_newFunctionEnv cs.cell (fun x hx => nomatch hx) (fun h₁ hns hsb => ?_) cs.kind
  have hext : ∀ b ob, s.heap.get? b = some ob → h₁.get? b = some ob := fun b ob e => hsb.extBut b ob (Nat.ne_of_lt (Heap.lt_size e)) (Heap.get?_push_of_some _ e)
  obtain ⟨c', g1, g2, g3, a1, back⟩ := hs.sub (E := compEnvC scope cl s.heap.objs.size c.env) (names := names) (vs := names.map fun _ => none) (D' := σ.D) (s₁ := { s with heap := h₁, toks := s.toks + ([] : List (Str × Value)).length })
    ⟨cs.kind, fun x hx => lookup_relabel_local (cs.loc x hx), cs.nd, cs.dbg, hs.ok.globals, hs.ok.builtins⟩ (by simp) (by rw [← lk_empty]; exact hns) hext (get_size _) (fun a x e => .inl e) (fun _ _ e => e) rfl rfl
  exact h c' _ _ g1 g3 g2 a1 back hs.freshR (Nat.ne_of_gt hs.ltL)
theorem WP.listComp {elt target iter : Expr} {ifs : List Expr} {scope : Scope} {pos : Pos} {cl : List (Str × Addr)} {names : List Str} {Q : Value → St → Prop} (cs : CShape scope names) (hclos : closureFor scope c.env = Pure.pure cl)
    (h : WP prog w c A (eval iter c.env) (fun x σ₁ => WP prog w c A (pyIter x) (fun it σ₂ => ∀ acc, New c σ₂ acc → ∀ (c' : Cf) (C : Addr), c'.env = compEnvC scope cl C c.env → c'.hb = c.hb →
      WC prog w (c'.nm names) A (.compStart (.ListComp elt [⟨target, iter, ifs, 0⟩] scope pos) 0 it (.ref acc) c'.env) (fun _ σ' => Q (.ref acc) ⟨σ₂.v, σ'.D⟩) ⟨names.map fun _ => none, upd σ₂.D acc (.list [])⟩) σ₁) σ)
    (hf : ∀ x, foldedSetIterable iter c.env x = Pure.pure x := by intro _; with_unfolding_all rfl) :
    WP prog w c A (eval (.ListComp elt [⟨target, iter, ifs, 0⟩] scope pos) c.env) Q σ := fun s hs => by
  rw [eval_ListComp]
  refine wpAny_comprehension_free (g := ⟨target, iter, ifs, 0⟩) (gs := []) rfl hf hclos cs.kind cs.locs (wpAny_mono (h s hs) (fun x s₁ xq => ex3 xq fun σ₁ a₁ q₁ => wpAny_mono (q₁ s₁ a₁) (fun it s₂ xq => ex3 xq fun σ₂ a₂ q₂ => ?_) fun _ _ e => e) fun _ _ e => e)
  refine wpAny_newList (?_)
  have a₃ := a₂.push (x := .list []) { cls := .type "list", data := .seq ([] : List Value).toArray } ⟨0, rfl⟩ rfl
  refine comp_in (cl := cl) cs a₃ fun c' C s₄ g1 g2 g3 a₄ back hC1 hC2 => ?_
  have key := q₂ _ a₂.new c' C g1 g2
  rw [show c'.nm names = c' by rw [← g3], g1] at key
  refine codeAny_mono (key s₄ a₄) fun r s' ⟨f, σ', e, a', q'⟩ => ?_
  subst e
  have hC : c'.env.locals = C := by rw [g1]; rfl
  obtain ⟨m, hn⟩ : ∃ m, s'.heap.Ns C m := ⟨_, hC ▸ a'.ns⟩
  exact ⟨m, hn, fun h' hb => ⟨_, back _ _ _ a' hb, q'⟩⟩
/-- «x = [.. for ..]» where the store stands ahead of the letting go -/
theorem WP.assignComp {elt target iter : Expr} {ifs : List Expr} {scope : Scope} {pos p p' : Pos} {cl : List (Str × Addr)} {names : List Str} {x : Str} {i : Nat} {Q : Flow → St → Prop} (cs : CShape scope names) (hclos : closureFor scope c.env = Pure.pure cl)
    (hi : IxAt c.names x i)
    (h : WP prog w c A (eval iter c.env) (fun x σ₁ => WP prog w c A (pyIter x) (fun it σ₂ => ∀ acc, New c σ₂ acc → ∀ (c' : Cf) (C : Addr), c'.env = compEnvC scope cl C c.env → c'.hb = c.hb →
      WC prog w (c'.nm names) A (.compStart (.ListComp elt [⟨target, iter, ifs, 0⟩] scope pos) 0 it (.ref acc) c'.env) (fun _ σ' => Q .next (St.set ⟨σ₂.v, σ'.D⟩ i (.ref acc))) ⟨names.map fun _ => none, upd σ₂.D acc (.list [])⟩) σ₁) σ)
    (hsw : swapsWith (.ListComp elt [⟨target, iter, ifs, 0⟩] scope pos) (some (.Name x p')) p.line c.env = Pure.pure true)
    (hf : ∀ x, foldedSetIterable iter c.env x = Pure.pure x := by intro _; with_unfolding_all rfl) :
    WP prog w c A (exec (.Assign [.Name x p'] (.ListComp elt [⟨target, iter, ifs, 0⟩] scope pos) p) c.env) Q σ := fun s hs => by
  rw [exec_Assign_Name_used _ _ _ _ hsw]
  refine wpAny_bind (wpAny_standAt ?_)
  show wpAny _ _ ((comprehension (.ListComp elt [⟨target, iter, ifs, 0⟩] scope pos) scope c.env (firstIterPos [⟨target, iter, ifs, 0⟩] pos) (newList []) (firstAsync [⟨target, iter, ifs, 0⟩]) (firstIter [⟨target, iter, ifs, 0⟩] c.env) (some (PySem.assign (.Name x p') c.env)) >>= fun _ => Pure.pure ()) >>= fun _ => Pure.pure Flow.next) _ _ s
  refine wpAny_bind (wpAny_bind (wpAny_comprehension_free (g := ⟨target, iter, ifs, 0⟩) (gs := []) rfl hf hclos cs.kind cs.locs (wpAny_mono (h s hs) (fun x' s₁ xq => ex3 xq fun σ₁ a₁ q₁ => wpAny_mono (q₁ s₁ a₁) (fun it s₂ xq => ex3 xq fun σ₂ a₂ q₂ => ?_) fun _ _ e => e) fun _ _ e => e)))
  refine wpAny_newList (?_)
  have a₃ := a₂.push (x := .list []) { cls := .type "list", data := .seq ([] : List Value).toArray } ⟨0, rfl⟩ rfl
  refine comp_in (cl := cl) cs a₃ fun c' C s₄ g1 g2 g3 a₄ back hC1 hC2 => ?_
  have key := q₂ _ a₂.new c' C g1 g2
  rw [show c'.nm names = c' by rw [← g3], g1] at key
  refine codeAny_mono (key s₄ a₄) fun r s' ⟨f, σ', e, a', q'⟩ => ?_
  subst e
  have hC : c'.env.locals = C := by rw [g1]; rfl
  have b1 := back _ _ _ a' (.refl ..)
  show wpAny _ _ (PySem.assign (.Name x p') c.env _) _ _ _
  rw [PySem.assign_Name]
  refine wpAny_bind (wpAny_standAt (wpAny_bindName (wpAny_storeName_local (b1.ok.loc _ hi.mem) b1.ns (fun h₁ hn₁ hb₁ => ?_) (by rw [b1.ok.kind]; rfl))))
  have b2 := b1.setv (tk := s'.toks + 1) hi hn₁ hb₁
  have hn : s'.heap.Ns C (lk c'.names σ'.v) := hC ▸ a'.ns
  exact ⟨_, hn.sameBut hb₁ hC2, fun h' hb => wpAny_pure (wpAny_pure ⟨_, b2.foreign hC1 hC2 (fun a x e => hC ▸ (a'.apart a x e).1) hb, q'⟩)⟩
end Mine
end
section
open PySem PyProof.Rows
namespace Mine
variable {prog : Program} {w : World} {c : Cf} {A : Around} {σ : St}
/-! ## built-ins' own trees -/
noncomputable def WB (prog : Program) (w : World) (c : Cf) (A : Around) (t : Code) (Q : Value → St → Prop) (σ : St) : Prop :=
  ∀ s, Abs c σ s → codeAny (model prog w) A t (fun r s' => ∃ v σ', r = .ok (.ret v) ∧ Abs c σ' s' ∧ Q v σ') s
noncomputable def FinOk (prog : Program) (w : World) (c : Cf) (A : Around) (Q : Value → St → Prop) : PySem.Fin → St → Prop
  | .done (.ret v), σ => Q v σ
  | .done _, _ => False
  | .again c', σ => c'.quiet = true ∧ WB prog w c A c' Q σ
theorem WB.of {t : Code} {Q : Value → St → Prop} {s : Shared} (h : WB prog w c A t Q σ) (hs : Abs c σ s) {E : Value → Shared → Prop} :
    codeAny (model prog w) A t (fun r s' => match r with | .ok (.ret v) => ∃ σ', Abs c σ' s' ∧ Q v σ' | .ok _ => False | .error e => E e s') s :=
  codeAny_mono (h s hs) fun r s' ⟨v, σ', e, a, q⟩ => by rw [e]; exact ⟨σ', a, q⟩
theorem WP.callB {id : String} {b : Builtin} {args : List Value} {kw : List (Str × Value)} {Q : Value → St → Prop} (hk : builtinKind id = none) (hp : plainId id = true)
    (hb : entryFor table id = some b) (ha : argsOk id ⟨args, kw⟩) (h : WP prog w c A.in1 (b ⟨args, kw⟩) (FinOk prog w c A Q) σ) : WP prog w c A (call (.builtin id) args kw) Q σ := fun s hs => by
  refine kmk_tree hk hp hb ha (wpAny_mono (h s hs) (fun fin s' xq => ex3 xq fun σ' a' q => ?_) fun _ _ e => e)
  cases fin with
  | done f =>
    cases f with
    | ret v => exact ⟨σ', a', q⟩
    | _ => exact q.elim
  | again c' => exact ⟨q.1, q.2.of a'⟩
theorem WB.builtin {id : String} {b : Builtin} {args : Args} {Q : Value → St → Prop} (hp : plainId id = true) (hb : entryFor table id = some b) (h : WP prog w c A.in1 (b args) (FinOk prog w c A Q) σ) : WB prog w c A (.builtin id args) Q σ := fun s hs => by
  refine codeAny_builtin hb ?_
  rw [Around.under_plainId hp]
  refine wpAny_mono (h s hs) (fun fin s' xq => ex3 xq fun σ' a' q => ?_) fun _ _ e => e.elim
  cases fin with
  | done f =>
    cases f with
    | ret v => exact ⟨v, σ', rfl, a', q⟩
    | _ => exact q.elim
  | again c' => exact ⟨q.1, q.2 s' a'⟩
theorem WP.callSlot {T : String} {name : Str} {id : String} {b : Builtin} {self : Value} {rest : List Value} {Q : Value → St → Prop} (sl : Slot T name id) (hT : ∀ s, Abs c σ s → s.TypeIs self T) (hb : entryFor table id = some b)
    (ha : argsOk id ⟨self :: rest, []⟩) (h : WP prog w c A.in1 (b ⟨self :: rest, []⟩) (fun fin σ' => ∃ v, fin = .done (.ret v) ∧ Q v σ') σ) : WP prog w c A (call (.builtin id) (self :: rest)) Q σ := fun s hs =>
  wpAny_call_entry sl (hT s hs) hb (wpAny_mono (h s hs) (fun fin s' ⟨σ', a', v, e, q⟩ => ⟨v, e, σ', a', q⟩) fun _ _ e => e) ha
theorem WP.eqn {α : Type} {t : Sem α} {a : α} {Q : α → St → Prop} (e : t = Pure.pure a) (h : Q a σ) : WP prog w c A t Q σ := by rw [e]; exact WP.pure h
theorem WP.tryCatch {α : Type} {m : Sem α} {k : Value → Sem α} {Q : α → St → Prop} (h : WP prog w c A m Q σ) : WP prog w c A (tryCatch m k) Q σ := fun s hs =>
  wpAny_tryCatch (wpAny_mono (h s hs) (fun _ _ q => q) fun _ _ e => e.elim)
theorem WP.attempt {α : Type} {m : Sem α} {Q : Except Value α → St → Prop} (h : WP prog w c A m (fun a σ' => Q (.ok a) σ') σ) : WP prog w c A m.attempt Q σ := fun s hs =>
  wpAny_attempt (wpAny_mono (h s hs) (fun _ _ q => q) fun _ _ e => e.elim)
theorem WP.letGo {r k : List Value} {Q : Unit → St → Prop} (h : Q () σ) : WP prog w c A (PySem.letGo r k) Q σ := fun s hs => wpAny_letGo ⟨σ, hs, h⟩
theorem WP.seqItems {l : Addr} {vs : List Value} {Q : Option (Array Value) → St → Prop} (hl : σ.D l = some (.list vs)) (h : Q (some vs.toArray) σ) : WP prog w c A (seqItems? (.ref l)) Q σ := fun s hs =>
  let ⟨n, e⟩ := hs.plain hl; wpAny_seqItems e rfl ⟨σ, hs, h⟩
theorem WP.updateSeq {l : Addr} {vs ws : List Value} {f : Array Value → Array Value} {Q : Unit → St → Prop} (hl : σ.D l = some (.list vs)) (hf : f vs.toArray = ws.toArray) (h1 : vs.length ≤ 100000) (h2 : ws.length ≤ 100000) (h : Q () (σ.put l (.list ws))) :
    WP prog w c A (PySem.updateSeq l f) Q σ := fun s hs => by
  obtain ⟨n, e⟩ := hs.plain hl
  exact wpAny_updateSeq e rfl ⟨_, hs.upd (y := .list ws) hl (Heap.SameBut.update ..) (get?_update_seq e _) ⟨_, by rw [hf]⟩, h⟩ (by rw [sizeLine_eq]; simp; lia) (by rw [hf, sizeLine_eq]; simp; lia)
theorem WP.newList {vs : List Value} {Q : Value → St → Prop} (hz : vs.length ≤ 100000) (h : ∀ a, New c σ a → Q (.ref a) (σ.put a (.list vs))) : WP prog w c A (PySem.newList vs) Q σ := fun s hs =>
  wpAny_newList ⟨_, hs.push (x := .list vs) _ ⟨0, rfl⟩ rfl, h _ hs.new⟩ (by rw [sizeLine_eq]; lia)
theorem WP.newTuple {vs : List Value} {Q : Value → St → Prop} (hz : vs.length ≤ 100000) (h : ∀ a, New c σ a → Q (.ref a) (σ.put a (.tuple vs))) : WP prog w c A (PySem.newTuple vs) Q σ := fun s hs =>
  wpAny_newTuple ⟨_, hs.push (x := .tuple vs) _ ⟨0, rfl⟩ rfl, h _ hs.new⟩ (by rw [sizeLine_eq]; lia)
theorem WP.iterLit {it l : Addr} {i : Nat} {Q : Value → St → Prop} (hi : σ.D it = some (.lit l i)) (h : Q (.ref it) σ) : WP prog w c A (pyIter (.ref it)) Q σ := fun s hs => wpAny_pyIter_listiter (hs.lit hi) ⟨σ, hs, h⟩
theorem kind_iter : builtinKind "iter" = none := by decide +kernel
theorem plain_iter : plainId "iter" = true := by decide +kernel
theorem entry_iter : entryFor table "iter" = some Builtin.«iter» := entryFor_of_fast (by kernel_rfl)
theorem args_iter1 (a : Value) : argsOk "iter" ⟨[a], []⟩ := by unfold argsOk; kernel_rfl
theorem WP.iter {l : Addr} {vs : List Value} {Q : Value → St → Prop} (hl : σ.D l = some (.list vs)) (h : ∀ a, New c σ a → Q (.ref a) (σ.put a (.lit l 0))) : WP prog w c A (call (.builtin "iter") [.ref l]) Q σ := by
  refine WP.callB kind_iter plain_iter entry_iter (args_iter1 _) ?_
  unfold Builtin.«iter»
  refine WP.bind (WP.eqn (a := [Value.ref l]) rfl ?_)
  exact WP.bind (WP.iterList hl fun a ha => WP.pure (h a ha))
/-! ## comparing strs -/
theorem WP.sltI {x y : Str} {t u : Tok} {Q : Value → St → Prop} (h : Q (.bool (slt x y)) σ) : WP prog w c A (compareOp .Lt (.str x t) (.str y u)) Q σ := fun s hs => lt_str ⟨σ, hs, h⟩
theorem WP.rcLt {x y : Str} {t u : Tok} {Q : Value → St → Prop} (h : Q (.bool (slt x y)) σ) : WP prog w c A (richCompare .Lt (.str x t) (.str y u)) Q σ := fun s hs => lt_str ⟨σ, hs, h⟩
theorem WP.rcGt {x y : Str} {t u : Tok} {Q : Value → St → Prop} (h : Q (.bool (slt y x)) σ) : WP prog w c A (richCompare .Gt (.str x t) (.str y u)) Q σ := fun s hs => by
  refine wpAny_richCompare_same (op := .Gt) (T := "str") (typeIs_str s x t) (typeIs_str s y u) PySem.F.slot_str_gt (wpAny_call_entry PySem.F.slot_str_gt (typeIs_str s x t) PySem.F.entry_str_gt ?_ (PySem.F.args_str_gt_2 _ _))
  exact (show wpAny _ _ (PySem.ret (.bool (x.cps.toList > y.cps.toList))) _ _ s from wpAny_pure ⟨_, rfl, by simp, σ, hs, h⟩)
/-- a key function: it gives the key's text, and what is known stays known -/
noncomputable def KeyOk (prog : Program) (w : World) (hb : Heap) (kv : Value) (D₀ : Addr → Option AO) (kf : Value → Str) (P : Value → Prop) (du dd : Nat) : Prop :=
  ∀ (c : Cf) (A : Around) (σ : St) (v : Value) (Q : Value → St → Prop), c.hb = hb → (∀ a x, D₀ a = some x → σ.D a = some x) → P v → A.units + du < cLine → A.depth + dd < recursionLimit → A.guards = some [] → A.handled = none →
    (∀ t, Q (.str (kf v) t) σ) → WP prog w c A (call kv [v]) Q σ
noncomputable def best (lt : Str → Str → Bool) (kf : Value → Str) : Value → List Value → Value
  | b, [] => b
  | b, x :: r => if lt (kf x) (kf b) then best lt kf x r else best lt kf b r
theorem args_min2 (a d k : Value) : argsOk "min" ⟨[a], [(Str.ofString "default", d), (Str.ofString "key", k)]⟩ := by unfold argsOk; kernel_rfl
set_option maxRecDepth 100000 in
theorem min_loop {kv d : Value} {it l S : Addr} {vs : List Value} {kf : Value → Str} {P : Value → Prop} {D₀ : Addr → Option AO} {du dd : Nat} {vv : List (Option Value)} {fn : Addr} (hkv : kv = .ref fn) (hK : KeyOk prog w c.hb kv D₀ kf P du dd)
    (hh : A.handled = none) (hg : A.guards = some []) (hu : A.units + 1 + du < cLine) (hd : A.depth + dd < recursionLimit) (hP : ∀ v ∈ vs, P v) (hl : D₀ l = some (.list vs)) :
    ∀ (r i : Nat) (b : Value) (tb : Tok) (σ : St), σ.v = vv → vs.length - i = r → 1 ≤ i → (∀ a x, D₀ a = some x → σ.D a = some x) → D₀ it = none → D₀ S = none → it ≠ S → σ.D it = some (.lit l i) → σ.D S = some (.list [b, .str (kf b) tb]) →
      WB prog w c A (.builtin "min.loop" ⟨[.ref it, kv, .ref S], [(Str.ofString "default", d)]⟩) (fun v σ' => v = best slt kf b (vs.drop i) ∧ σ'.v = vv ∧ ∀ a x, D₀ a = some x → σ'.D a = some x) σ := by
  intro r
  induction r with
  | zero =>
    intro i b tb σ hv hr hi hD n1 n2 hne hit hS
    refine WB.builtin PySem.F.plain_min_loop PySem.F.entry_min_loop ?_
    show WP _ _ _ A.in1 (seqItems? (.ref S) >>= _) _ _
    refine WP.bind (WP.seqItems hS ?_)
    show WP _ _ _ A.in1 (MonadExcept.tryCatch (pyNext (.ref it)) _ >>= _) _ _
    refine WP.bind (WP.tryCatch (WP.nextListEnd hh hit (hD _ _ hl) (by lia) ?_))
    show WP _ _ _ A.in1 (PySem.updateSeq S (fun _ => #[]) >>= _) _ _
    refine WP.bind (WP.updateSeq (vs := [b, .str (kf b) tb]) (ws := []) ((del_ne hne.symm).trans hS) rfl (by simp) (by simp) ?_)
    refine WP.bind (WP.letGo (WP.pure ?_))
    refine ⟨by rw [List.drop_eq_nil_of_le (by lia)]; rfl, hv, fun a x e => ?_⟩
    show upd (del σ.D it) S _ a = _
    rw [upd_ne (fun q => by rw [q, n2] at e; cases e), del_ne (fun q => by rw [q, n1] at e; cases e)]
    exact hD a x e
  | succ r ih =>
    intro i b tb σ hv hr hi hD n1 n2 hne hit hS
    have hlt : i < vs.length := by lia
    have hx : vs[i]? = some vs[i] := List.getElem?_eq_getElem hlt
    rw [List.drop_eq_getElem_cons hlt]
    have hxP := hP _ (List.getElem_mem hlt)
    generalize vs[i] = x at hx hxP
    refine WB.builtin PySem.F.plain_min_loop PySem.F.entry_min_loop ?_
    show WP _ _ _ A.in1 (seqItems? (.ref S) >>= _) _ _
    refine WP.bind (WP.seqItems hS ?_)
    show WP _ _ _ A.in1 (MonadExcept.tryCatch (pyNext (.ref it)) _ >>= _) _ _
    refine WP.bind (WP.tryCatch (WP.nextList hit (hD _ _ hl) hx ?_))
    have hD1 : ∀ a x, D₀ a = some x → upd σ.D it (.lit l (i + 1)) a = some x := fun a x e => (upd_ne fun q => by rw [q, n1] at e; cases e).trans (hD a x e)
    subst hkv
    show WP _ _ _ A.in1 (MonadExcept.tryCatch (PySem.holding [x] (call (.ref fn) [x])) _ >>= _) _ _
    refine WP.bind (WP.tryCatch (WP.holding (hK _ _ _ _ _ rfl hD1 hxP hu hd hg hh fun t => ?_)))
    show WP _ _ _ A.in1 (MonadExcept.tryCatch (PySem.holding [x, .str (kf x) t] (richCompare .Lt (.str (kf x) t) (.str (kf b) tb) >>= _)) _ >>= _) _ _
    refine WP.bind (WP.tryCatch (WP.holding (WP.bind (WP.rcLt ?_))))
    refine WP.bind (WP.holding (WP.truthy ?_))
    refine WP.bind (WP.letGo (WP.pure ?_))
    have hname : (toString "min" ++ toString ".loop" : String) = "min.loop" := by decide
    have hS1 : upd σ.D it (.lit l (i + 1)) S = some (.list [b, .str (kf b) tb]) := (upd_ne hne.symm).trans hS
    unfold best
    cases hc : slt (kf x) (kf b) with
    | true =>
      simp only [if_true]
      refine WP.bind (WP.updateSeq (ws := [x, .str (kf x) t]) hS1 rfl (by simp) (by simp) ?_)
      refine WP.bind (WP.letGo ?_)
      rw [hname]
      refine WP.pure ⟨plainId_quiet PySem.F.plain_min_loop _, ?_⟩
      exact ih (i + 1) x t _ hv (by lia) (by lia) (fun a y e => (upd_ne fun q => by rw [q, n2] at e; cases e).trans (hD1 a y e)) n1 n2 hne ((upd_ne hne).trans upd_self) upd_self
    | false =>
      simp only [Bool.false_eq_true, if_false]
      refine WP.bind (WP.letGo ?_)
      rw [hname]
      refine WP.pure ⟨plainId_quiet PySem.F.plain_min_loop _, ?_⟩
      exact ih (i + 1) b tb _ hv (by lia) (by lia) hD1 n1 n2 hne upd_self hS1
set_option maxRecDepth 100000 in
theorem WP.minKey {kv d : Value} {it l : Addr} {v₀ : Value} {vs : List Value} {kf : Value → Str} {P : Value → Prop} {D₀ : Addr → Option AO} {du dd : Nat} {Q : Value → St → Prop} {fn : Addr} (hkv : kv = .ref fn) (hK : KeyOk prog w c.hb kv D₀ kf P du dd)
    (hh : A.handled = none) (hg : A.guards = some []) (hu : A.units + 1 + du < cLine) (hd : A.depth + dd < recursionLimit) (hP : ∀ v ∈ v₀ :: vs, P v) (hl : D₀ l = some (.list (v₀ :: vs)))
    (hD : ∀ a x, D₀ a = some x → σ.D a = some x) (n1 : D₀ it = none) (hit : σ.D it = some (.lit l 0))
    (h : ∀ D', (∀ a x, D₀ a = some x → D' a = some x) → Q (best slt kf v₀ vs) ⟨σ.v, D'⟩) :
    WP prog w c A (call (.builtin "min") [.ref it] [(Str.ofString "default", d), (Str.ofString "key", kv)]) Q σ := by
  have hname : (toString "min" ++ toString ".loop" : String) = "min.loop" := by decide
  refine WP.callB PySem.F.kind_min PySem.F.plain_min PySem.F.entry_min (args_min2 _ _ _) ?_
  show WP _ _ _ A.in1 (Builtin.Builtins.bindParams "min" ["key", "default"] 0 ⟨[], [(Str.ofString "default", d), (Str.ofString "key", kv)]⟩ >>= _) _ _
  refine WP.bind (WP.eqn (show Builtin.Builtins.bindParams "min" ["key", "default"] 0 ⟨[], [(Str.ofString "default", d), (Str.ofString "key", kv)]⟩ = Pure.pure [some kv, some d] from rfl) ?_)
  refine WP.bind (WP.pure ?_)
  refine WP.bind (WP.iterLit hit ?_)
  refine WP.bind (WP.newList (by simp) fun S hS => ?_)
  rw [hname]
  refine WP.pure ⟨plainId_quiet PySem.F.plain_min_loop _, ?_⟩
  have hne : it ≠ S := hS.ne hit
  have n2 : D₀ S = none := by
    cases q : D₀ S with
    | none => rfl
    | some x => have := hD _ _ q; rw [hS.d] at this; cases this
  have hD1 : ∀ a x, D₀ a = some x → upd σ.D S (.list []) a = some x := fun a x e => (upd_ne fun q => by rw [q, n2] at e; cases e).trans (hD a x e)
  refine WB.builtin PySem.F.plain_min_loop PySem.F.entry_min_loop ?_
  show WP _ _ _ A.in1 (seqItems? (.ref S) >>= _) _ _
  refine WP.bind (WP.seqItems upd_self ?_)
  show WP _ _ _ A.in1 (MonadExcept.tryCatch (pyNext (.ref it)) _ >>= _) _ _
  refine WP.bind (WP.tryCatch (WP.nextList ((upd_ne hne).trans hit) (hD1 _ _ hl) rfl ?_))
  have hD2 : ∀ a x, D₀ a = some x → upd (upd σ.D S (.list [])) it (.lit l 1) a = some x := fun a x e => (upd_ne fun q => by rw [q, n1] at e; cases e).trans (hD1 a x e)
  subst hkv
  show WP _ _ _ A.in1 (MonadExcept.tryCatch (PySem.holding [v₀] (call (.ref fn) [v₀])) _ >>= _) _ _
  refine WP.bind (WP.tryCatch (WP.holding (hK _ _ _ _ _ rfl hD2 (hP _ (.head _)) hu hd hg hh fun t => ?_)))
  refine WP.bind (WP.updateSeq (vs := []) (ws := [v₀, .str (kf v₀) t]) ((upd_ne hne.symm).trans upd_self) rfl (by simp) (by simp) ?_)
  rw [hname]
  refine WP.pure ⟨plainId_quiet PySem.F.plain_min_loop _, ?_⟩
  have key := min_loop (c := c) (A := A) (d := d) (S := S) (it := it) (vv := σ.v) rfl hK hh hg hu hd hP hl (vs.length) 1 v₀ t
    ⟨σ.v, upd (upd (upd σ.D S (.list [])) it (.lit l 1)) S (.list [v₀, .str (kf v₀) t])⟩ rfl (by simp) (by lia) (fun a y e => (upd_ne fun q => by rw [q, n2] at e; cases e).trans (hD2 a y e)) n1 n2 hne ((upd_ne hne).trans upd_self) upd_self
  intro s hs
  refine codeAny_mono (key s hs) fun r s' ⟨v, σ', e, a', e2, e3, q⟩ => ⟨v, σ', e, a', ?_⟩
  have := h σ'.D q
  rw [← e3] at this
  rw [e2]
  exact this
theorem args_max2 (a d k : Value) : argsOk "max" ⟨[a], [(Str.ofString "default", d), (Str.ofString "key", k)]⟩ := by unfold argsOk; kernel_rfl
set_option maxRecDepth 100000 in
theorem max_loop {kv d : Value} {it l S : Addr} {vs : List Value} {kf : Value → Str} {P : Value → Prop} {D₀ : Addr → Option AO} {du dd : Nat} {vv : List (Option Value)} {fn : Addr} (hkv : kv = .ref fn) (hK : KeyOk prog w c.hb kv D₀ kf P du dd)
    (hh : A.handled = none) (hg : A.guards = some []) (hu : A.units + 1 + du < cLine) (hd : A.depth + dd < recursionLimit) (hP : ∀ v ∈ vs, P v) (hl : D₀ l = some (.list vs)) :
    ∀ (r i : Nat) (b : Value) (tb : Tok) (σ : St), σ.v = vv → vs.length - i = r → 1 ≤ i → (∀ a x, D₀ a = some x → σ.D a = some x) → D₀ it = none → D₀ S = none → it ≠ S → σ.D it = some (.lit l i) → σ.D S = some (.list [b, .str (kf b) tb]) →
      WB prog w c A (.builtin "max.loop" ⟨[.ref it, kv, .ref S], [(Str.ofString "default", d)]⟩) (fun v σ' => v = best (fun a b => slt b a) kf b (vs.drop i) ∧ σ'.v = vv ∧ ∀ a x, D₀ a = some x → σ'.D a = some x) σ := by
  intro r
  induction r with
  | zero =>
    intro i b tb σ hv hr hi hD n1 n2 hne hit hS
    refine WB.builtin PySem.F.plain_max_loop PySem.F.entry_max_loop ?_
    show WP _ _ _ A.in1 (seqItems? (.ref S) >>= _) _ _
    refine WP.bind (WP.seqItems hS ?_)
    show WP _ _ _ A.in1 (MonadExcept.tryCatch (pyNext (.ref it)) _ >>= _) _ _
    refine WP.bind (WP.tryCatch (WP.nextListEnd hh hit (hD _ _ hl) (by lia) ?_))
    show WP _ _ _ A.in1 (PySem.updateSeq S (fun _ => #[]) >>= _) _ _
    refine WP.bind (WP.updateSeq (vs := [b, .str (kf b) tb]) (ws := []) ((del_ne hne.symm).trans hS) rfl (by simp) (by simp) ?_)
    refine WP.bind (WP.letGo (WP.pure ?_))
    refine ⟨by rw [List.drop_eq_nil_of_le (by lia)]; rfl, hv, fun a x e => ?_⟩
    show upd (del σ.D it) S _ a = _
    rw [upd_ne (fun q => by rw [q, n2] at e; cases e), del_ne (fun q => by rw [q, n1] at e; cases e)]
    exact hD a x e
  | succ r ih =>
    intro i b tb σ hv hr hi hD n1 n2 hne hit hS
    have hlt : i < vs.length := by lia
    have hx : vs[i]? = some vs[i] := List.getElem?_eq_getElem hlt
    rw [List.drop_eq_getElem_cons hlt]
    have hxP := hP _ (List.getElem_mem hlt)
    generalize vs[i] = x at hx hxP
    refine WB.builtin PySem.F.plain_max_loop PySem.F.entry_max_loop ?_
    show WP _ _ _ A.in1 (seqItems? (.ref S) >>= _) _ _
    refine WP.bind (WP.seqItems hS ?_)
    show WP _ _ _ A.in1 (MonadExcept.tryCatch (pyNext (.ref it)) _ >>= _) _ _
    refine WP.bind (WP.tryCatch (WP.nextList hit (hD _ _ hl) hx ?_))
    have hD1 : ∀ a x, D₀ a = some x → upd σ.D it (.lit l (i + 1)) a = some x := fun a x e => (upd_ne fun q => by rw [q, n1] at e; cases e).trans (hD a x e)
    subst hkv
    show WP _ _ _ A.in1 (MonadExcept.tryCatch (PySem.holding [x] (call (.ref fn) [x])) _ >>= _) _ _
    refine WP.bind (WP.tryCatch (WP.holding (hK _ _ _ _ _ rfl hD1 hxP hu hd hg hh fun t => ?_)))
    show WP _ _ _ A.in1 (MonadExcept.tryCatch (PySem.holding [x, .str (kf x) t] (richCompare .Gt (.str (kf x) t) (.str (kf b) tb) >>= _)) _ >>= _) _ _
    refine WP.bind (WP.tryCatch (WP.holding (WP.bind (WP.rcGt ?_))))
    refine WP.bind (WP.holding (WP.truthy ?_))
    refine WP.bind (WP.letGo (WP.pure ?_))
    have hname : (toString "max" ++ toString ".loop" : String) = "max.loop" := by decide
    have hS1 : upd σ.D it (.lit l (i + 1)) S = some (.list [b, .str (kf b) tb]) := (upd_ne hne.symm).trans hS
    unfold best
    cases hc : slt (kf b) (kf x) with
    | true =>
      simp only [if_true]
      refine WP.bind (WP.updateSeq (ws := [x, .str (kf x) t]) hS1 rfl (by simp) (by simp) ?_)
      refine WP.bind (WP.letGo ?_)
      rw [hname]
      refine WP.pure ⟨plainId_quiet PySem.F.plain_max_loop _, ?_⟩
      exact ih (i + 1) x t _ hv (by lia) (by lia) (fun a y e => (upd_ne fun q => by rw [q, n2] at e; cases e).trans (hD1 a y e)) n1 n2 hne ((upd_ne hne).trans upd_self) upd_self
    | false =>
      simp only [Bool.false_eq_true, if_false]
      refine WP.bind (WP.letGo ?_)
      rw [hname]
      refine WP.pure ⟨plainId_quiet PySem.F.plain_max_loop _, ?_⟩
      exact ih (i + 1) b tb _ hv (by lia) (by lia) hD1 n1 n2 hne upd_self hS1
set_option maxRecDepth 100000 in
theorem WP.maxKey {kv d : Value} {it l : Addr} {v₀ : Value} {vs : List Value} {kf : Value → Str} {P : Value → Prop} {D₀ : Addr → Option AO} {du dd : Nat} {Q : Value → St → Prop} {fn : Addr} (hkv : kv = .ref fn) (hK : KeyOk prog w c.hb kv D₀ kf P du dd)
    (hh : A.handled = none) (hg : A.guards = some []) (hu : A.units + 1 + du < cLine) (hd : A.depth + dd < recursionLimit) (hP : ∀ v ∈ v₀ :: vs, P v) (hl : D₀ l = some (.list (v₀ :: vs)))
    (hD : ∀ a x, D₀ a = some x → σ.D a = some x) (n1 : D₀ it = none) (hit : σ.D it = some (.lit l 0))
    (h : ∀ D', (∀ a x, D₀ a = some x → D' a = some x) → Q (best (fun a b => slt b a) kf v₀ vs) ⟨σ.v, D'⟩) :
    WP prog w c A (call (.builtin "max") [.ref it] [(Str.ofString "default", d), (Str.ofString "key", kv)]) Q σ := by
  have hname : (toString "max" ++ toString ".loop" : String) = "max.loop" := by decide
  refine WP.callB PySem.F.kind_max PySem.F.plain_max PySem.F.entry_max (args_max2 _ _ _) ?_
  show WP _ _ _ A.in1 (Builtin.Builtins.bindParams "max" ["key", "default"] 0 ⟨[], [(Str.ofString "default", d), (Str.ofString "key", kv)]⟩ >>= _) _ _
  refine WP.bind (WP.eqn (show Builtin.Builtins.bindParams "max" ["key", "default"] 0 ⟨[], [(Str.ofString "default", d), (Str.ofString "key", kv)]⟩ = Pure.pure [some kv, some d] from rfl) ?_)
  refine WP.bind (WP.pure ?_)
  refine WP.bind (WP.iterLit hit ?_)
  refine WP.bind (WP.newList (by simp) fun S hS => ?_)
  rw [hname]
  refine WP.pure ⟨plainId_quiet PySem.F.plain_max_loop _, ?_⟩
  have hne : it ≠ S := hS.ne hit
  have n2 : D₀ S = none := by
    cases q : D₀ S with
    | none => rfl
    | some x => have := hD _ _ q; rw [hS.d] at this; cases this
  have hD1 : ∀ a x, D₀ a = some x → upd σ.D S (.list []) a = some x := fun a x e => (upd_ne fun q => by rw [q, n2] at e; cases e).trans (hD a x e)
  refine WB.builtin PySem.F.plain_max_loop PySem.F.entry_max_loop ?_
  show WP _ _ _ A.in1 (seqItems? (.ref S) >>= _) _ _
  refine WP.bind (WP.seqItems upd_self ?_)
  show WP _ _ _ A.in1 (MonadExcept.tryCatch (pyNext (.ref it)) _ >>= _) _ _
  refine WP.bind (WP.tryCatch (WP.nextList ((upd_ne hne).trans hit) (hD1 _ _ hl) rfl ?_))
  have hD2 : ∀ a x, D₀ a = some x → upd (upd σ.D S (.list [])) it (.lit l 1) a = some x := fun a x e => (upd_ne fun q => by rw [q, n1] at e; cases e).trans (hD1 a x e)
  subst hkv
  show WP _ _ _ A.in1 (MonadExcept.tryCatch (PySem.holding [v₀] (call (.ref fn) [v₀])) _ >>= _) _ _
  refine WP.bind (WP.tryCatch (WP.holding (hK _ _ _ _ _ rfl hD2 (hP _ (.head _)) hu hd hg hh fun t => ?_)))
  refine WP.bind (WP.updateSeq (vs := []) (ws := [v₀, .str (kf v₀) t]) ((upd_ne hne.symm).trans upd_self) rfl (by simp) (by simp) ?_)
  rw [hname]
  refine WP.pure ⟨plainId_quiet PySem.F.plain_max_loop _, ?_⟩
  have key := max_loop (c := c) (A := A) (d := d) (S := S) (it := it) (vv := σ.v) rfl hK hh hg hu hd hP hl (vs.length) 1 v₀ t
    ⟨σ.v, upd (upd (upd σ.D S (.list [])) it (.lit l 1)) S (.list [v₀, .str (kf v₀) t])⟩ rfl (by simp) (by lia) (fun a y e => (upd_ne fun q => by rw [q, n2] at e; cases e).trans (hD2 a y e)) n1 n2 hne ((upd_ne hne).trans upd_self) upd_self
  intro s hs
  refine codeAny_mono (key s hs) fun r s' ⟨v, σ', e, a', e2, e3, q⟩ => ⟨v, σ', e, a', ?_⟩
  have := h σ'.D q
  rw [← e3] at this
  rw [e2]
  exact this
end Mine
end
section
open PySem PyProof.Rows
namespace Mine
variable {prog : Program} {w : World} {c : Cf} {A : Around} {σ : St}
/-! ## more statements and expressions -/
theorem WP.tryElse {body orelse : List Stmt} {h₀ : ExceptHandler} {hs : List ExceptHandler} {pos : Pos} {Q : Flow → St → Prop}
    (h : WP prog w c A (execs body c.env) (fun f σ' => match f with | .next => WP prog w c A (execs orelse c.env) Q σ' | f => Q f σ') σ) :
    WP prog w c A (exec (.Try body (h₀ :: hs) orelse [] pos) c.env) Q σ := fun s ha => by
  refine wpAny_Try_except (wpAny_mono (h s ha) (fun f s₁ xq => ex3 xq fun σ₁ a₁ q₁ => ?_) fun _ _ e => e.elim)
  cases f with
  | next => exact q₁ s₁ a₁
  | brk => exact ⟨σ₁, a₁, q₁⟩
  | cont => exact ⟨σ₁, a₁, q₁⟩
  | ret v => exact ⟨σ₁, a₁, q₁⟩
theorem WP.ifexp {t b e : Expr} {p : Pos} {Q : Value → St → Prop}
    (h : WP prog w c A (isTrue t c.env (eval t c.env)) (fun r σ' => if r then WP prog w c A (eval b c.env) Q σ' else WP prog w c A (eval e c.env) Q σ') σ) : WP prog w c A (eval (.IfExp t b e p) c.env) Q σ := by
  rw [arm_eval_IfExp]
  refine WP.bind (h.mono fun r σ' q => ?_)
  cases r with
  | true => exact q
  | false => exact q
theorem WP.cnone {k : Nat} {p : Pos} {Q : Value → St → Prop} (h : Q .none σ) : WP prog w c A (eval (.Constant .none k p) c.env) Q σ := fun s hs => wpAny_Constant_none ⟨σ, hs, h⟩
theorem WP.cbool {b : Bool} {k : Nat} {p : Pos} {Q : Value → St → Prop} (h : Q (.bool b) σ) : WP prog w c A (eval (.Constant (.bool b) k p) c.env) Q σ := fun s hs => wpAny_Constant_bool ⟨σ, hs, h⟩
theorem WP.cstr {x : Str} {k : Nat} {p : Pos} {Q : Value → St → Prop} (h : ∀ t, Q (.str x t) σ) : WP prog w c A (eval (.Constant (.str x) k p) c.env) Q σ := fun s hs => wpAny_Constant_str ⟨σ, hs.tok _, h _⟩
theorem WP.isNone {a : Addr} {Q : Value → St → Prop} (h : Q (.bool false) σ) : WP prog w c A (compareOp .Is (.ref a) .none) Q σ := fun s hs => wpAny_is_other rfl (by simp) ⟨σ, hs, h⟩
theorem WP.isNotSelf {a : Addr} {Q : Value → St → Prop} (h : Q (.bool false) σ) : WP prog w c A (compareOp .IsNot (.ref a) (.ref a)) Q σ := fun s hs => wpAny_isNot_ref_self ⟨σ, hs, h⟩
theorem WP.isOther {a b : Addr} {vs : List Value} {x : AO} {Q : Value → St → Prop} (hne : a ≠ b) (ha : σ.D a = some (.list vs)) (hb : σ.D b = some x) (h : Q (.bool false) σ) : WP prog w c A (compareOp .Is (.ref a) (.ref b)) Q σ := fun s hs => by
  obtain ⟨n, e⟩ := hs.plain ha
  obtain ⟨ob, eb, _⟩ := hs.dat _ _ hb
  exact wpAny_is_ref_other hne e eb (by simp) ⟨σ, hs, h⟩
theorem WP.truthyList {l : Addr} {vs : List Value} {Q : Bool → St → Prop} (hl : σ.D l = some (.list vs)) (hb : (vs.length : Int) < 2 ^ 63) (h : Q (!vs.isEmpty) σ) : WP prog w c A (PySem.truthy (.ref l)) Q σ := fun s hs =>
  wpAny_truthy_list (hs.isList hl) (by simpa using hb) ⟨σ, hs.tok _, by simpa using h⟩
theorem WP.usub {x : Expr} {p : Pos} {Q : Value → St → Prop} (h : WP prog w c A (eval x c.env) (fun v σ' => ∃ a t, v = .int a t ∧ ∀ t', Q (.int (-a) t') σ') σ) : WP prog w c A (eval (.UnaryOp .USub x p) c.env) Q σ := by
  rw [arm_eval_UnaryOp]
  refine WP.bind (h.mono fun v σ' ⟨a, t, e, q⟩ => WP.bind (WP.stand (WP.holding ?_)))
  subst e
  exact fun s hs => neg_int ⟨σ', hs.tok _, q _⟩
/-! ## displays -/
theorem WP.listD {es : List Expr} {p : Pos} {Q : Value → St → Prop} (h : EvL prog w c A es (fun vs σ' => ∀ a, New c σ' a → Q (.ref a) (σ'.put a (.list vs))) σ) (hz : es.length ≤ 1000 := by first | decide | simp)
    (hs : backTo p (starEach es c.env) = es.map (fun e => (false, eval e c.env)) := by with_unfolding_all rfl) : WP prog w c A (eval (.List es p) c.env) Q σ := by
  rw [arm_eval_List, hs]
  exact WP.bind (WP.stand (WP.bind ((WP.spliced (h.mono (Q' := fun vs σ' => vs.length = es.length ∧ ∀ a, New c σ' a → Q (.ref a) (σ'.put a (.list vs))) fun vs σ' hl q => ⟨hl, q⟩)).mono fun vs σ' q => WP.newList (by lia) q.2)))
theorem WP.tupleD {es : List Expr} {k : Nat} {p : Pos} {Q : Value → St → Prop} (h : EvL prog w c A es (fun vs σ' => ∀ a, New c σ' a → Q (.ref a) (σ'.put a (.tuple vs))) σ) (hz : es.length ≤ 1000 := by first | decide | simp)
    (hs : backTo p (starEach es c.env) = es.map (fun e => (false, eval e c.env)) := by with_unfolding_all rfl) : WP prog w c A (eval (.Tuple es k p) c.env) Q σ := by
  rw [arm_eval_Tuple, hs]
  exact WP.bind (WP.stand (WP.bind ((WP.spliced (h.mono (Q' := fun vs σ' => vs.length = es.length ∧ ∀ a, New c σ' a → Q (.ref a) (σ'.put a (.tuple vs))) fun vs σ' hl q => ⟨hl, q⟩)).mono fun vs σ' q => WP.newTuple (by lia) q.2)))
/-! ## tuples -/
theorem Abs.isTup {s : Shared} (hs : Abs c σ s) {a : Addr} {vs : List Value} (h : σ.D a = some (.tuple vs)) : s.heap.IsTuple a vs.toArray := let ⟨o, n, e, h1, h2⟩ := hs.tup h; ⟨o, e, h1, n, h2⟩
theorem WP.tupItem {l : Addr} {vs : List Value} {k : Nat} {t : Tok} {x : Value} {v sl : Expr} {Q : Value → St → Prop} (hl : σ.D l = some (.tuple vs)) (hx : vs[k]? = some x) (hb : (k : Int) < 2 ^ 63) (h : Q x σ)
    (hs : subscripted sl false (.ref l) (.int (k : Int) t) = PySem.operate [.ref l, .int (k : Int) t] (getItem (.ref l) (.int (k : Int) t)) := by with_unfolding_all rfl) :
    WP prog w c A (subscriptTail v sl (.ref l) (.int (k : Int) t)) Q σ := fun s hs' => by
  have hlt : k < vs.length := by
    rcases Nat.lt_or_ge k vs.length with h | h
    · exact h
    · rw [List.getElem?_eq_none h] at hx; cases hx
  refine item_tupleT (j := k) (hs'.isTup hl) (by lia) hb ?_ hx ⟨σ, hs', h⟩ hs
  unfold seqIndex?
  simp only [show ¬ ((k : Int) < 0) by lia, if_false]
  simp [hlt]
/-- names as targets -/
noncomputable def asgAll (prog : Program) (w : World) (c : Cf) (A : Around) : List (Value → Sem Unit) → List Value → (St → Prop) → St → Prop
  | t :: ts, v :: vs, P, σ => WP prog w c A (t v) (fun _ σ' => asgAll prog w c A ts vs P σ') σ
  | [], [], P, σ => P σ
  | _, _, _, _ => False
theorem WP.assignInOrder : ∀ {ts : List (Value → Sem Unit)} {vs : List Value} {P : St → Prop} {σ : St}, asgAll prog w c A ts vs P σ → WP prog w c A (assignInOrder ts vs) (fun _ σ' => P σ') σ
  | [], [], _, _, h => WP.pure h
  | t :: ts, v :: vs, P, σ, h => by
    show WP prog w c A (PySem.assignInOrder (t :: ts) (v :: vs)) _ σ
    unfold PySem.assignInOrder
    first
      | exact WP.bind (WP.mono h fun _ σ' q => WP.assignInOrder q)
      | exact WP.bind (WP.holding (WP.mono h fun _ σ' q => WP.assignInOrder q))
  | [], _ :: _, _, _, h => h.elim
  | _ :: _, [], _, _, h => h.elim
theorem WP.asgTuple {es : List Expr} {k : Nat} {p : Pos} {t : Addr} {vs : List Value} {Q : Unit → St → Prop} (hh : A.handled = Option.none) (ht : σ.D t = some (.tuple vs)) (hn : (assignEach es c.env).length = vs.length) (hstar : (assignEach es c.env).findIdx? (·.1) = Option.none)
    (h : asgAll prog w c A ((assignEach es c.env).map (·.2)) vs (fun σ' => Q () σ') σ) : WP prog w c A (PySem.assign (.Tuple es k p) c.env (.ref t)) Q σ := fun s hs => by
  refine wpAny_assign_Tuple hh (hs.isTup ht) (by simpa using hn) hstar fun h' hx => ?_
  have hs' : Abs c σ { s with heap := h' } := hs.grown fun b o e => hx b o (Nat.ne_of_lt (Heap.lt_size e)) e
  exact WP.assignInOrder h _ hs'
end Mine
end
section
open PySem PyProof.Rows
namespace Mine
variable {prog : Program} {w : World} {c : Cf} {A : Around} {σ : St}
/-! ## methods of lists -/
theorem WP.method {o : Expr} {name : Str} {apos pos : Pos} {es : List Expr} {kws : List Keyword} {id : String} {Q : Value → St → Prop}
    (slot : Slot "list" name id) (hty : typeOf (.builtin id) = Pure.pure (.type "method_descriptor"))
    (h : WP prog w c A (eval o c.env) (fun ov σ₀ => ∃ l vs, ov = .ref l ∧ σ₀.D l = some (.list vs) ∧ EvL prog w c A es (fun xs σ₁ => EvL prog w c A (kwEs kws) (fun ks σ₂ => WP prog w c A (call (.builtin id) (.ref l :: xs) ((kwNs kws).zip ks)) Q σ₂) σ₁) σ₀) σ)
    (hbase : attributeBase o name c.env (eval o c.env) = eval o c.env := by with_unfolding_all rfl)
    (hfew : methodCallForm (es.length + kws.length) (backTo pos (starEach es c.env)) (backToKw pos (keywordEach kws c.env)) = true := by with_unfolding_all rfl)
    (hline : (apos.endLine == pos.line) = true := by with_unfolding_all rfl)
    (hs : backTo pos (starEach es c.env) = es.map (fun e => (false, eval e c.env)) := by with_unfolding_all rfl) (hk : kwAll kws = true := by with_unfolding_all rfl) :
    WP prog w c A (eval (.Call (.Attribute o name apos) es kws pos) c.env) Q σ := by
  rw [arm_eval_Call, hbase]
  refine WP.bind (h.mono fun ov σ₀ ⟨l, vs, e, hl, q⟩ => WP.bind (WP.stand ?_))
  subst e
  unfold methodCall
  rw [hfew]
  have hpos : methodCallPos true o c.env apos pos = Pure.pure pos := by unfold methodCallPos; simp [hline]
  refine WP.bind (WP.holding (fun s ha => getMethod_builtin ⟨_, (ha.plain hl).choose_spec, rfl⟩ PySem.F.plainAttrs_list slot hty (fun a e => by cases e; exact ⟨_, (ha.plain hl).choose_spec, rfl⟩) ⟨σ₀, ha, ?_⟩))
  refine WP.bind (WP.eqn hpos ?_)
  try dsimp only
  rw [hs]
  exact WP.callWith (first := [.ref l]) hk (q.mono fun xs σ₁ _ q₁ => q₁.mono fun ks σ₂ _ q₂ => ⟨CallOk.b, q₂⟩)
theorem WP.pop {l : Addr} {vs : List Value} {x : Value} {Q : Value → St → Prop} (hl : σ.D l = some (.list (vs ++ [x]))) (hz : vs.length < 100000) (h : Q x (σ.put l (.list vs))) : WP prog w c A (call (.builtin "list.pop") [.ref l]) Q σ := fun s hs => by
  obtain ⟨n, e⟩ := hs.plain hl
  refine call_meets PySem.F.slot_list_pop ⟨_, e, rfl⟩ PySem.F.entry_list_pop (PySem.F.args_list_pop_1 _) (PySem.MeetsSeq.list_pop_last l _ n x (by simp) (by rw [sizeLine_eq]; simp; lia)) ⟨e, ?_⟩
  show ∃ σ', Abs c σ' _ ∧ Q x σ'
  exact ⟨_, hs.upd (y := .list vs) hl (Heap.SameBut.update ..) (get?_update_seq e _) ⟨_, by
    have e2 : (vs ++ [x]).toArray.eraseIdxIfInBounds ((vs ++ [x]).toArray.size - 1) = vs.toArray := by
      simp only [List.size_toArray, List.length_append, List.length_singleton, Nat.add_sub_cancel, List.eraseIdxIfInBounds_toArray]
      rw [List.eraseIdx_append_of_length_le (Nat.le_refl _)]; simp
    rw [e2]⟩, h⟩
theorem WP.itemLast {l : Addr} {vs : List Value} {t : Tok} {x : Value} {v sl : Expr} {Q : Value → St → Prop} (hl : σ.D l = some (.list (vs ++ [x]))) (h : Q x σ) (hz : vs.length < 100000)
    (hs : subscripted sl false (.ref l) (.int (-1) t) = PySem.operate [.ref l, .int (-1) t] (getItem (.ref l) (.int (-1) t)) := by with_unfolding_all rfl) :
    WP prog w c A (subscriptTail v sl (.ref l) (.int (-1) t)) Q σ := fun s hs' =>
  tail_any (hs'.isList hl).typeIs slot_list_getitem.lookup (wpAny_getItem_list_neg (hs'.isList hl) (by decide) (by simp; lia) (by decide) (by simp only [List.size_toArray, List.length_append, List.length_singleton, show (-1 + ((vs.length + 1 : Nat) : Int)).toNat = vs.length by lia]; simp) ⟨σ, hs', h⟩) hs
/-! ## slices -/
@[reducible] noncomputable def slcO (l u : Value) : AO := .obj { cls := .type "slice", data := .fields #[l, u, .none] }
theorem WP.slice {lo hi : Option Expr} {p : Pos} {Q : Value → St → Prop}
    (h : WP prog w c A (evalPart lo c.env) (fun l σ₁ => WP prog w c A (evalPart hi c.env) (fun u σ₂ => ∀ a, New c σ₂ a → Q (.ref a) (σ₂.put a (slcO l u))) σ₁) σ) : WP prog w c A (eval (.Slice lo hi none p) c.env) Q σ := fun s hs => by
  refine wpAny_Slice (wpAny_mono (h s hs) (fun l s₁ xq => ex3 xq fun σ₁ a₁ q₁ => wpAny_mono (q₁ s₁ a₁) (fun u s₂ xq => ex3 xq fun σ₂ a₂ q₂ => ?_) fun _ _ e => e) fun _ _ e => e)
  rw [evalPart_none]
  exact wpAny_pure ⟨_, a₂.push (x := slcO l u) _ rfl rfl, q₂ _ a₂.new⟩
theorem WP.cut {l a : Addr} {vs : List Value} {vl vu : Value} {lo hi : Option Int} {lx ux : Option Expr} {p : Pos} {v : Expr} {Q : Value → St → Prop} (hl : σ.D l = some (.list vs)) (ha : σ.D a = some (slcO vl vu)) (pl : IsPart vl lo) (pu : IsPart vu hi) (hz : vs.length ≤ 100000)
    (h : ∀ b, New c σ b → Q (.ref b) (σ.put b (.list (slicePick vs.toArray lo hi none).toList))) :
    WP prog w c A (subscriptTail v (.Slice lx ux none p) (.ref l) (.ref a)) Q σ := fun s hs => by
  refine tail_any (hs.isList hl).typeIs slot_list_getitem.lookup (wpAny_getItem_list_slice (hs.isList hl) ⟨_, hs.obj ha, rfl, rfl⟩ pl pu .none (by simp) ?_ (by rw [sizeLine_eq]; simp; lia)) (ops := [.ref a, .ref l]) rfl
  exact ⟨_, hs.push (x := .list (slicePick vs.toArray lo hi none).toList) _ ⟨0, by simp⟩ rfl, h _ hs.new⟩
end Mine
end
section
open PySem PyProof.Rows
namespace Mine
variable {prog : Program} {w : World} {c : Cf} {A : Around} {σ : St}
theorem WP.onRaise {α : Type} {m : Sem α} {k : Value → Sem Unit} {Q : α → St → Prop} (h : WP prog w c A m Q σ) : WP prog w c A (m.onRaise k) Q σ := fun s hs => wpAny_onRaise (wpAny_mono (h s hs) (fun _ _ q => q) fun _ _ e => e.elim)
theorem WP.field {a : Addr} {o : Obj} {vs : Array Value} {i : Nat} {x : Value} {Q : Value → St → Prop} (ho : σ.D a = some (.obj o)) (hd : o.data = .fields vs) (hi : vs[i]? = some x) (h : Q x σ) : WP prog w c A (PySem.field (.ref a) i) Q σ := fun s hs =>
  wpAny_field (hs.obj ho) hd hi ⟨σ, hs, h⟩
theorem WP.setField {a : Addr} {T : String} {vs : Array Value} {i : Nat} {x : Value} {Q : Unit → St → Prop} (ho : σ.D a = some (.obj { cls := .type T, dict := none, data := .fields vs, slots := #[] })) (hi : i < vs.size)
    (h : Q () (σ.put a (.obj { cls := .type T, dict := none, data := .fields (vs.setIfInBounds i x), slots := #[] }))) : WP prog w c A (PySem.setField (.ref a) i x) Q σ := fun s hs =>
  wpAny_setField_rec (hs.obj ho) hi fun h' hg hb => ⟨_, hs.upd (y := .obj { cls := .type T, dict := none, data := .fields (vs.setIfInBounds i x), slots := #[] }) ho hb hg rfl, h⟩
theorem WP.seqItemsT {l : Addr} {vs : List Value} {Q : Option (Array Value) → St → Prop} (hl : σ.D l = some (.tuple vs)) (h : Q (some vs.toArray) σ) : WP prog w c A (seqItems? (.ref l)) Q σ := fun s hs =>
  let ⟨o, n, e, _, d⟩ := hs.tup hl; wpAny_seqItems e d ⟨σ, hs, h⟩
theorem WP.updateSeqT {l : Addr} {vs ws : List Value} {f : Array Value → Array Value} {Q : Unit → St → Prop} (hl : σ.D l = some (.tuple vs)) (hf : f vs.toArray = ws.toArray) (h1 : vs.length ≤ 100000) (h2 : ws.length ≤ 100000) (h : Q () (σ.put l (.tuple ws))) :
    WP prog w c A (PySem.updateSeq l f) Q σ := fun s hs => by
  obtain ⟨o, e, n, r⟩ := hs.dat _ _ hl
  subst r
  refine wpAny_updateSeq e rfl ⟨_, hs.upd (y := .tuple ws) hl (Heap.SameBut.update ..) (get?_update_seq e _) ⟨_, by rw [hf]⟩, h⟩ (by rw [sizeLine_eq]; simp; lia) (by rw [hf, sizeLine_eq]; simp; lia)
theorem WP.nextOfList {it l : Addr} {i : Nat} {vs : List Value} {x : Value} {Q : Value → St → Prop} (hi : σ.D it = some (.lit l i)) (hl : σ.D l = some (.list vs)) (hx : vs[i]? = some x)
    (h : Q x (σ.put it (.lit l (i + 1)))) : WP prog w c A (Builtin.SmallTypes.nextOf (.ref it)) Q σ := fun s hs =>
  wpAny_nextOf_list_item (hs.lit hi) (hs.isList hl) (by simpa using hx) fun h' hi' hb => let ⟨o, e, r⟩ := hi'; ⟨_, hs.upd (y := .lit l (i + 1)) hi hb e r, h⟩
theorem WP.nextOfRange {it : Addr} {x left step : Int} {Q : Value → St → Prop} (hi : σ.D it = some (ritO x left step)) (hl : 0 < left)
    (h : ∀ t, Q (.int x t) (σ.put it (ritO (x + step) (left - 1) step))) : WP prog w c A (Builtin.SmallTypes.nextOf (.ref it)) Q σ := fun s ha => by
  have hit := ha.obj hi
  have hT : s.TypeIs (.ref it) "range_iterator" := ⟨_, hit, rfl⟩
  unfold Builtin.SmallTypes.nextOf
  refine wpAny_bind (wpAny_callSpecial?_slot (name := Str.ofString "__next__") hT PySem.F.slot_range_iterator_next
    (call_meets PySem.F.slot_range_iterator_next hT PySem.F.entry_range_iterator_next (PySem.F.args_range_iterator_next_1 _) (PySem.AutoRange.range_iterator___next___range_iterator_1 it x left step (by lia)) ⟨hit, ?_⟩))
  have fin : ∀ h', IsRangeIter h' it (x + step) (left - 1) step → Heap.SameBut it s.heap h' → ∃ σ', Abs c σ' { s with heap := h', toks := s.toks + 1 } ∧ Q (.int x s.toks) σ' :=
    fun h' hi' hb => ⟨_, (ha.upd (y := ritO (x + step) (left - 1) step) hi hb hi' rfl).tok _, h _⟩
  exact wpAny_pure (fin _ (Heap.get?_update_self _ (Heap.get?_update_self _ hit rfl) rfl) ((Heap.SameBut.update ..).trans (Heap.SameBut.update ..)))
theorem nextOf_range_end {it : Addr} {x left step : Int} {s : Shared} {E : Value → Shared → Prop} {Q : Value → Shared → Prop} (hh : A.handled = none) (hit : IsRangeIter s.heap it x left step) (hleft : left ≤ 0)
    (hE : ∀ h' e, (∀ b o, s.heap.get? b = some o → h'.get? b = some o) → (∃ o, h'.get? e = some o ∧ o.cls = .type "StopIteration") → E (.ref e) { s with heap := h' }) : wpAny (model prog w) A (Builtin.SmallTypes.nextOf (.ref it)) Q E s := by
  have hT : s.TypeIs (.ref it) "range_iterator" := ⟨_, hit, rfl⟩
  unfold Builtin.SmallTypes.nextOf
  refine wpAny_bind (wpAny_callSpecial?_slot (name := Str.ofString "__next__") hT PySem.F.slot_range_iterator_next
    (wpAny_call_entry PySem.F.slot_range_iterator_next hT PySem.F.entry_range_iterator_next ?_ (PySem.F.args_range_iterator_next_1 _)))
  show wpAny _ _ (field (.ref it) 0 >>= _) _ _ s
  refine wpAny_bind (wpAny_field hit rfl (x := rawInt x) rfl ?_)
  show wpAny _ _ (field (.ref it) 1 >>= _) _ _ s
  refine wpAny_bind (wpAny_field hit rfl (x := rawInt left) rfl ?_)
  show wpAny _ _ (field (.ref it) 2 >>= _) _ _ s
  refine wpAny_bind (wpAny_field hit rfl (x := rawInt step) rfl ?_)
  show wpAny _ _ (if left ≤ 0 then _ else _) _ _ s
  rw [if_pos hleft]
  refine wpAny_bind (wpAny_rule ?_)
  refine wpAny_bind ?_
  show wpAny _ _ (newExc (.type "StopIteration") [] >>= _) _ _ _
  refine wpAny_bind ?_
  simp only [newExc, newTuple]
  refine wpAny_bind (wpAny_newObj_type ?_ (by size_fits))
  refine wpAny_bind (m := firstArgMember _ _) (wpAny_of_eq (a := Value.none) (by first | rfl | (simp only [firstArgMember]; rfl)) ?_)
  refine wpAny_newObj_type ?_ (by size_fits)
  simp only [raiseNew]
  refine wpAny_bind (wpAny_handled ?_)
  first | rw [show A.in1.handled = none from hh] | rw [hh]
  refine wpAny_bind (wpAny_pure (wpAny_throw ?_))
  exact hE _ _ (fun b o e => Heap.get?_push_of_some _ (Heap.get?_push_of_some _ e)) ⟨_, Heap.get?_push_size _ rfl, rfl⟩
theorem Abs.offs {s : Shared} (hs : Abs c σ s) {D' : Addr → Option AO} {h' : Heap} (hle : ∀ a x, D' a = some x → σ.D a = some x) (hk : ∀ b o, s.heap.get? b = some o → ((D' b).isSome = true ∨ σ.D b = none) → h'.get? b = some o) : Abs c ⟨σ.v, D'⟩ { s with heap := h' } where
  ok := hs.ok
  len := hs.len
  ns := by
    obtain ⟨oo, es, ep, e, r⟩ := hs.ns
    refine ⟨oo, es, ep, hk _ _ e (.inr ?_), r⟩
    cases q : σ.D c.env.locals with
    | none => rfl
    | some x => exact absurd rfl (hs.apart _ _ q).1
  rig := fun b ob e => hk _ _ (hs.rig b ob e) (.inr (by
    cases q : σ.D b with
    | none => rfl
    | some x => have := (hs.apart _ _ q).2; rw [e] at this; cases this))
  dat := fun b x e => let ⟨ob, e1, r1⟩ := hs.dat b x (hle _ _ e); ⟨ob, hk _ _ e1 (.inl (by have e' : D' b = some x := e; rw [e']; rfl)), r1⟩
  apart := fun b x e => hs.apart b x (hle _ _ e)
  fr := hs.fr
  base := hs.base
  gens := hs.gens
  os := hs.os
/-! ## zip(range(..), iterator of a list) -/
@[reducible] noncomputable def zipO (f0 : Value) (TI TO : Addr) : AO := .obj { cls := .type "zip", dict := none, data := .fields #[f0, .bool false, .bool false, .ref TI, .ref TO], slots := #[] }
structure ZipSt (D : Addr → Option AO) (z TI TO i1 it l : Addr) (x left step : Int) (k : Nat) (f0 : Value) : Prop where
  z : D z = some (zipO f0 TI TO)
  ti : D TI = some (.tuple [.ref i1, .ref it])
  to : ∃ a b, D TO = some (.tuple [a, b])
  i1 : D i1 = some (ritO x left step)
  it : D it = some (.lit l k)
  ne : TI ≠ TO
theorem zipNew {r it l : Addr} {a b d : Int} {t u v : Tok} {k : Nat} : Meets (Builtin.«zip.__new__» ⟨[.type "zip", .ref r, .ref it], []⟩) (fun _ R s => IsRange s.heap r a b d t u v ∧ Builtin.Range.small a b d = true ∧ s.heap.IsListIter it l k ∧
      R (.ok (.ret (.ref (s.heap.objs.size + 3)))) { s with heap := (((s.heap.push { cls := .type "range_iterator", data := .fields #[rawInt a, rawInt (Builtin.Range.rangeSize a b d), rawInt d] }).push { cls := .type "tuple", data := .seq #[.ref s.heap.objs.size, .ref it] }).push { cls := .type "tuple", data := .seq #[.none, .none] }).push { cls := .type "zip", data := .fields #[.none, .bool false, .bool false, .ref (s.heap.objs.size + 1), .ref (s.heap.objs.size + 2)] } }) :=
  .of_wp fun prog w A R s h => by
    obtain ⟨hp, g, dd, tk, os⟩ := s; obtain ⟨hr, hsm, hi, h⟩ := h
    have hsub := sub_zip
    have hR : IsRange (Shared.heap ⟨hp, g, dd, tk, os⟩) r a b d t u v := hr
    have hI : Heap.IsListIter (Shared.heap ⟨hp.push { cls := .type "range_iterator", data := .fields #[rawInt a, rawInt (Builtin.Range.rangeSize a b d), rawInt d] }, g, dd, tk, os⟩) it l k := let ⟨o, e, q⟩ := hi; ⟨o, Heap.get?_push_of_some _ e, q⟩
    wp_walk using wpAny_pyIter_range hR hsm, wpAny_pyIter_listiter hI
    simp only [Heap.size_push] at h ⊢
    exact ⟨_, rfl, h⟩
theorem WP.zip {r it l : Addr} {a b d : Int} {t u v : Tok} {k : Nat} {Q : Value → St → Prop} (hr : σ.D r = some (rngO a b d t u v)) (hsm : Builtin.Range.small a b d = true) (hi : σ.D it = some (.lit l k))
    (h : ∀ z TI TO i1 D', ZipSt D' z TI TO i1 it l a (Builtin.Range.rangeSize a b d) d k .none → New c σ z → New c σ TI → New c σ TO → New c σ i1 → (∀ p x, σ.D p = some x → D' p = some x) → Q (.ref z) ⟨σ.v, D'⟩) : WP prog w c A (call (.type "zip") [.ref r, .ref it]) Q σ := fun s hs => by
  refine callType_new PySem.F.called_zip (by decide) (PySem.F.typeCall_zip_2 _ _) (PySem.F.newCall_zip_2 _ _) (fun obj => PySem.F.args_object_init_3 obj _ _) PySem.F.entry_zip_new
    (zipNew (a := a) (b := b) (d := d) (t := t) (u := u) (v := v) (l := l) (k := k)) ⟨hs.obj hr, hsm, hs.lit hi, ?_⟩
  have a1 := hs.push (x := ritO a (Builtin.Range.rangeSize a b d) d) _ rfl rfl
  have a2 := a1.push (x := .tuple [.ref s.heap.objs.size, .ref it]) _ ⟨0, rfl⟩ rfl
  have a3 := a2.push (x := .tuple [.none, .none]) _ ⟨0, rfl⟩ rfl
  have a4 := a3.push (x := zipO .none (s.heap.objs.size + 1) (s.heap.objs.size + 2)) _ rfl rfl
  simp only [Heap.size_push] at a1 a2 a3 a4
  have lt : ∀ p x, σ.D p = some x → p < s.heap.objs.size := fun p x e => let ⟨_, e1, _⟩ := hs.dat _ _ e; Heap.lt_size e1
  have ltR : ∀ p x, c.R p = some x → p < s.heap.objs.size := fun p x e => Heap.lt_size (hs.rig _ _ e)
  have nw : ∀ n, New c σ (s.heap.objs.size + n) := fun n => ⟨by
    cases q : σ.D (s.heap.objs.size + n) with
    | none => rfl
    | some x => exact absurd (lt _ _ q) (Nat.not_lt_of_le (Nat.le_add_right ..)), by
    cases q : c.R (s.heap.objs.size + n) with
    | none => rfl
    | some x => exact absurd (ltR _ _ q) (Nat.not_lt_of_le (Nat.le_add_right ..)), fun e => absurd hs.ltL (by rw [← e]; exact Nat.not_lt_of_le (Nat.le_add_right ..))⟩
  refine ⟨?_, ⟨_, a4, ?_⟩⟩
  · obtain ⟨ob, e1, e2⟩ := a4.dat (s.heap.objs.size + 3) _ upd_self
    exact ⟨ob, e1, by rw [show ob = _ from e2]⟩
  refine h _ (s.heap.objs.size + 1) (s.heap.objs.size + 2) s.heap.objs.size _ ⟨upd_self, ?_, ⟨.none, .none, ?_⟩, ?_, ?_, by show @Ne Nat _ _; lia⟩ (nw 3) (nw 1) (nw 2) (nw 0) ?_
  · dsimp only; rw [upd_ne (by show @Ne Nat _ _; lia), upd_ne (by show @Ne Nat _ _; lia), upd_self]
  · dsimp only; rw [upd_ne (by show @Ne Nat _ _; lia), upd_self]
  · dsimp only; rw [upd_ne (by show @Ne Nat _ _; lia), upd_ne (by show @Ne Nat _ _; lia), upd_ne (by show @Ne Nat _ _; lia), upd_self]
  · have : @LT.lt Nat _ it s.heap.objs.size := lt _ _ hi
    dsimp only; rw [upd_ne (by show @Ne Nat _ _; lia), upd_ne (by show @Ne Nat _ _; lia), upd_ne (by show @Ne Nat _ _; lia), upd_ne (by show @Ne Nat _ _; lia), hi]
  · intro p x e
    have : @LT.lt Nat _ p s.heap.objs.size := lt _ _ e
    dsimp only; rw [upd_ne (by show @Ne Nat _ _; lia), upd_ne (by show @Ne Nat _ _; lia), upd_ne (by show @Ne Nat _ _; lia), upd_ne (by show @Ne Nat _ _; lia), e]
theorem WP.iterZip {z TI TO i1 it l : Addr} {x left step : Int} {k : Nat} {f0 : Value} {Q : Value → St → Prop} (hz : ZipSt σ.D z TI TO i1 it l x left step k f0) (h : Q (.ref z) σ) : WP prog w c A (pyIter (.ref z)) Q σ := fun s hs =>
  wpAny_pyIter_zip (hs.obj hz.z) ⟨σ, hs, h⟩
end Mine
end
section
open PySem PyProof.Rows
namespace Mine
variable {prog : Program} {w : World} {c : Cf} {A : Around} {σ : St}
section
variable {z TI TO i1 it l : Addr} {x left step : Int} {k : Nat} {vs : List Value} {y : Value}
theorem zip_item {Q : Value → St → Prop} (Z : ZipSt σ.D z TI TO i1 it l x left step k .none) (h0 : 0 < left) (hl : σ.D l = some (.list vs)) (hy : vs[k]? = some y)
    (h : ∀ (T : Addr) (t : Tok) (D' : Addr → Option AO), ZipSt D' z TI TO i1 it l (x + step) (left - 1) step (k + 1) (rawInt T) → D' T = some (.tuple [.int x t, y]) → New c σ T → (∀ p, p ≠ z → p ≠ TO → p ≠ i1 → p ≠ it → p ≠ T → D' p = σ.D p) → Q (.ref T) ⟨σ.v, D'⟩) :
    WP prog w c A (Builtin.«zip.__next__» ⟨[.ref z], []⟩) (fun fin σ' => ∃ v, fin = .done (.ret v) ∧ Q v σ') σ := by
  obtain ⟨hz, hTI, ⟨a, b, hTO⟩, h1, h2, hne⟩ := Z
  have z_ti : z ≠ TI := fun e => by rw [e, hTI] at hz; cases hz
  have z_to : z ≠ TO := fun e => by rw [e, hTO] at hz; cases hz
  have z_i1 : z ≠ i1 := fun e => by rw [e, h1] at hz; simp at hz
  have z_it : z ≠ it := fun e => by rw [e, h2] at hz; cases hz
  have z_l : z ≠ l := fun e => by rw [e, hl] at hz; cases hz
  have to_i1 : TO ≠ i1 := fun e => by rw [e, h1] at hTO; cases hTO
  have to_it : TO ≠ it := fun e => by rw [e, h2] at hTO; cases hTO
  have to_l : TO ≠ l := fun e => by rw [e, hl] at hTO; cases hTO
  have ti_i1 : TI ≠ i1 := fun e => by rw [e, h1] at hTI; cases hTI
  have ti_it : TI ≠ it := fun e => by rw [e, h2] at hTI; cases hTI
  have i1_it : i1 ≠ it := fun e => by rw [e, h2] at h1; cases h1
  have i1_l : i1 ≠ l := fun e => by rw [e, hl] at h1; cases h1
  have it_l : it ≠ l := fun e => by rw [e, hl] at h2; cases h2
  show WP _ _ _ _ (PySem.field (.ref z) 2 >>= _) _ _
  refine WP.bind (WP.field hz rfl (x := .bool false) rfl ?_)
  show WP _ _ _ _ (PySem.field (.ref z) 3 >>= _) _ _
  refine WP.bind (WP.field hz rfl (x := .ref TI) rfl ?_)
  refine WP.bind (WP.seqItemsT hTI ?_)
  show WP _ _ _ _ (Builtin.SmallTypes.ownedTupleIsFree (.ref z) >>= _) _ _
  refine WP.bind ?_
  unfold Builtin.SmallTypes.ownedTupleIsFree
  refine WP.bind (WP.field hz rfl (x := .none) rfl (WP.pure ?_))
  simp only [if_true]
  refine WP.bind (WP.rule ?_)
  refine WP.bind (WP.field hz rfl (x := .ref TO) rfl ?_)
  refine WP.bind (WP.setField hz (by simp) ?_)
  refine WP.bind ?_
  simp only [List.zipIdx_cons, List.zipIdx_nil, List.forIn_cons, List.forIn_nil]
  refine WP.bind (WP.bind (WP.onRaise ?_))
  show WP _ _ _ _ (Builtin.SmallTypes.nextOf (.ref i1) >>= _) _ _
  refine WP.bind (WP.nextOfRange ((upd_ne z_i1.symm).trans h1) h0 fun t => WP.pure ?_)
  refine WP.bind (WP.seqItemsT (vs := [a, b]) (by dsimp only; rw [upd_ne to_i1, upd_ne z_to.symm, hTO]) ?_)
  refine WP.bind (WP.updateSeqT (vs := [a, b]) (ws := [.int x t, b]) (by dsimp only; rw [upd_ne to_i1, upd_ne z_to.symm, hTO]) rfl (by simp) (by simp) ?_)
  refine WP.bind (WP.letGo (WP.pure ?_))
  refine WP.bind (WP.bind (WP.onRaise ?_))
  show WP _ _ _ _ (Builtin.SmallTypes.nextOf (.ref it) >>= _) _ _
  refine WP.bind (WP.nextOfList (by dsimp only; rw [upd_ne to_it.symm, upd_ne i1_it.symm, upd_ne z_it.symm, h2]) (by dsimp only; rw [upd_ne to_l.symm, upd_ne i1_l.symm, upd_ne z_l.symm, hl]) hy (WP.pure ?_))
  refine WP.bind (WP.seqItemsT (vs := [.int x t, b]) (by dsimp only; rw [upd_ne to_it, upd_self]) ?_)
  refine WP.bind (WP.updateSeqT (vs := [.int x t, b]) (ws := [.int x t, y]) (by dsimp only; rw [upd_ne to_it, upd_self]) rfl (by simp) (by simp) ?_)
  refine WP.bind (WP.letGo (WP.pure (WP.pure ?_)))
  refine WP.bind (WP.seqItemsT upd_self ?_)
  refine WP.bind (WP.newTuple (by simp) fun T hT => ?_)
  have T_z : z ≠ T := hT.ne (x := zipO .ellipsis TI TO) (by dsimp only; rw [upd_ne z_to, upd_ne z_it, upd_ne z_to, upd_ne z_i1]; exact upd_self)
  have T_to : TO ≠ T := hT.ne upd_self
  have T_i1 : i1 ≠ T := hT.ne (x := ritO (x + step) (left - 1) step) (by dsimp only; rw [upd_ne to_i1.symm, upd_ne i1_it, upd_ne to_i1.symm, upd_self])
  have T_it : it ≠ T := hT.ne (x := .lit l (k + 1)) (by dsimp only; rw [upd_ne to_it.symm, upd_self])
  have T_ti : TI ≠ T := hT.ne (x := .tuple [.ref i1, .ref it]) (by dsimp only; rw [upd_ne hne, upd_ne ti_it, upd_ne hne, upd_ne ti_i1, upd_ne z_ti.symm, hTI])
  have hnew : New c σ T := ⟨by
    have := hT.d
    dsimp only at this
    rwa [upd_ne T_to.symm, upd_ne T_it.symm, upd_ne T_to.symm, upd_ne T_i1.symm, upd_ne T_z.symm] at this, hT.r, hT.l⟩
  show WP _ _ _ _ (Builtin.SmallTypes.ownedTupleHandOut (.ref z) (.ref T) >>= _) _ _
  refine WP.bind ?_
  unfold Builtin.SmallTypes.ownedTupleHandOut
  refine WP.bind (WP.setField (T := "zip") (vs := #[.ellipsis, .bool false, .bool false, .ref TI, .ref TO]) (by dsimp only; rw [upd_ne T_z, upd_ne z_to, upd_ne z_it, upd_ne z_to, upd_ne z_i1]; exact upd_self) (by simp) ?_)
  refine WP.setField (T := "zip") (vs := #[rawInt T, .bool false, .bool false, .ref TI, .ref TO]) upd_self (by simp) ?_
  refine WP.pure ⟨_, rfl, ?_⟩
  refine h T t _ ⟨upd_self, ?_, ⟨.int x t, y, ?_⟩, ?_, ?_, hne⟩ ?_ hnew fun p p1 p2 p3 p4 p5 => ?_
  · dsimp only; rw [upd_ne z_ti.symm, upd_ne z_ti.symm, upd_ne T_ti, upd_ne hne, upd_ne ti_it, upd_ne hne, upd_ne ti_i1, upd_ne z_ti.symm, hTI]
  · dsimp only; rw [upd_ne z_to.symm, upd_ne z_to.symm, upd_ne T_to, upd_self]
  · dsimp only; rw [upd_ne z_i1.symm, upd_ne z_i1.symm, upd_ne T_i1, upd_ne to_i1.symm, upd_ne i1_it, upd_ne to_i1.symm, upd_self]
  · dsimp only; rw [upd_ne z_it.symm, upd_ne z_it.symm, upd_ne T_it, upd_ne to_it.symm, upd_self]
  · dsimp only; rw [upd_ne T_z.symm, upd_ne T_z.symm, upd_self]
  · dsimp only; rw [upd_ne p1, upd_ne p1, upd_ne p5, upd_ne p2, upd_ne p4, upd_ne p2, upd_ne p3, upd_ne p1]
theorem WP.nextZip {Q : Option Value → St → Prop} (Z : ZipSt σ.D z TI TO i1 it l x left step k .none) (h0 : 0 < left) (hl : σ.D l = some (.list vs)) (hy : vs[k]? = some y)
    (h : ∀ (T : Addr) (t : Tok) (D' : Addr → Option AO), ZipSt D' z TI TO i1 it l (x + step) (left - 1) step (k + 1) (rawInt T) → D' T = some (.tuple [.int x t, y]) → New c σ T → (∀ p, p ≠ z → p ≠ TO → p ≠ i1 → p ≠ it → p ≠ T → D' p = σ.D p) → Q (some (.ref T)) ⟨σ.v, D'⟩) :
    WP prog w c A (pyNext (.ref z)) Q σ := fun s hs => by
  have hT : s.TypeIs (.ref z) "zip" := ⟨_, hs.obj Z.z, rfl⟩
  unfold pyNext
  refine wpAny_bind (wpAny_attempt (wpAny_callSpecial?_slot (name := Str.ofString "__next__") hT PySem.F.slot_zip_next
    (wpAny_call_entry PySem.F.slot_zip_next hT PySem.F.entry_zip_next (wpAny_mono (zip_item (c := c) (A := A.in1) (Q := fun v σ' => Q (some v) σ') Z h0 hl hy h s hs) (fun fin s' ⟨σ', a', v, e, q⟩ => ⟨v, e, wpAny_pure ⟨σ', a', q⟩⟩) fun _ _ e => e.elim) (PySem.F.args_zip_next_1 _))))
theorem WP.nextZipEnd {Q : Option Value → St → Prop} (hh : A.handled = none) (Z : ZipSt σ.D z TI TO i1 it l x left step k .none) (h0 : left ≤ 0) (h : Q none ⟨σ.v, del (del σ.D i1) z⟩) :
    WP prog w c A (pyNext (.ref z)) Q σ := fun s hs => by
  obtain ⟨hz, hTI, ⟨a, b, hTO⟩, h1, h2, hne⟩ := Z
  have z_i1 : z ≠ i1 := fun e => by rw [e, h1] at hz; simp at hz
  have hT : s.TypeIs (.ref z) "zip" := ⟨_, hs.obj hz, rfl⟩
  have oz := hs.obj hz
  obtain ⟨oT, nT, eT, cT, dT⟩ := hs.tup hTI
  have o1 := hs.obj h1
  unfold pyNext
  refine wpAny_bind (wpAny_attempt (wpAny_callSpecial?_slot (name := Str.ofString "__next__") hT PySem.F.slot_zip_next
    (wpAny_call_entry PySem.F.slot_zip_next hT PySem.F.entry_zip_next ?_ (PySem.F.args_zip_next_1 _))))
  show wpAny _ _ (PySem.field (.ref z) 2 >>= _) _ _ _
  refine wpAny_bind (wpAny_field oz rfl (x := .bool false) rfl ?_)
  show wpAny _ _ (PySem.field (.ref z) 3 >>= _) _ _ _
  refine wpAny_bind (wpAny_field oz rfl (x := .ref TI) rfl ?_)
  refine wpAny_bind (wpAny_seqItems eT dT ?_)
  show wpAny _ _ (Builtin.SmallTypes.ownedTupleIsFree (.ref z) >>= _) _ _ _
  refine wpAny_bind ?_
  unfold Builtin.SmallTypes.ownedTupleIsFree
  refine wpAny_bind (wpAny_field oz rfl (x := .none) rfl (wpAny_pure ?_))
  simp only [if_true]
  refine wpAny_bind (wpAny_rule ?_)
  refine wpAny_bind (wpAny_field oz rfl (x := .ref TO) rfl ?_)
  refine wpAny_bind (wpAny_setField_rec oz (by simp) fun h₁ hz₁ hs₁ => ?_)
  refine wpAny_bind ?_
  simp only [List.zipIdx_cons, List.zipIdx_nil, List.forIn_cons, List.forIn_nil]
  refine wpAny_bind (wpAny_bind (wpAny_onRaise ?_))
  show wpAny _ _ (Builtin.SmallTypes.nextOf (.ref i1) >>= _) _ _ _
  refine wpAny_bind (nextOf_range_end hh ((hs₁.2 _ z_i1.symm).trans o1) h0 fun h₂ e hs₂ he => ?_)
  obtain ⟨oe, hoe, hce⟩ := he
  have hz₂ := hs₂ _ _ hz₁
  have hez : e ≠ z := fun x => by subst x; rw [hz₂] at hoe; cases hoe; simp at hce
  refine wpAny_setField_rec hz₂ (by simp) fun h₃ _ hs₃ => ?_
  refine wpAny_bind (wpAny_isInstance (T := "StopIteration") (b := true) ⟨oe, hs₃.extBut _ _ hez hoe, hce⟩ isSubtype_stop ?_)
  refine wpAny_pure ⟨_, hs.offs (D' := del (del σ.D i1) z) (fun p y e => del_le _ _ (del_le _ _ e)) fun p o e q => ?_, h⟩
  have hpz : p ≠ z := fun e => by
    rcases q with q | q
    · rw [e, del_self] at q; cases q
    · rw [e, hz] at q; cases q
  exact hs₃.extBut _ _ hpz (hs₂ _ _ (hs₁.extBut _ _ hpz e))
theorem WP.lotZip {es : List Expr} {k' : Nat} {pos : Pos} {T : Addr} {Q : Unit → St → Prop} (Z : ZipSt σ.D z TI TO i1 it l x left step k (rawInt T)) (h : Q () (σ.put z (zipO .none TI TO))) : WP prog w c A (letOwnedTupleGo (.Tuple es k' pos) (.ref z) (.ref T)) Q σ := fun s hs =>
  wpAny_letOwnedTupleGo_zip (hs.obj Z.z) fun h' hz' hs' => ⟨_, hs.upd (y := zipO .none TI TO) Z.z hs' hz' rfl, h⟩
end
/-- a list's iterator owns no tuple -/
theorem WP.lotList {es : List Expr} {k' : Nat} {pos : Pos} {it l : Addr} {i : Nat} {v : Value} {Q : Unit → St → Prop} (hi : σ.D it = some (.lit l i)) (h : Q () σ) : WP prog w c A (letOwnedTupleGo (.Tuple es k' pos) (.ref it) v) Q σ := fun s hs => by
  obtain ⟨o, e, r1, r2⟩ := hs.dat _ _ hi
  cases v with
  | ref T =>
    unfold letOwnedTupleGo
    refine wpAny_bind (wpAny_load e ?_)
    obtain ⟨cl, dc, dt, sl⟩ := o
    simp only at r1 r2
    subst r1 r2
    exact wpAny_pure ⟨σ, hs, h⟩
  | _ => exact wpAny_pure ⟨σ, hs, h⟩
end Mine
end
section
open PySem PyProof.Rows
set_option maxRecDepth 100000
namespace Mine
variable {prog : Program} {w : World} {c : Cf} {A : Around} {σ : St}
theorem lookup_object_new : typeLookup (.type "object") "__new__" = pure (some (.builtin "object.__new__")) := by rw [typeLookup_type, builtinLookup_eq_fast]; kernel_rfl
theorem slot_object_init : Slot "object" "__init__" "object.__init__" :=
  .of (owner := "object") (n := "__init__") (by rw [typeLookup_type, builtinLookup_eq_fast]; kernel_rfl) (by decide +kernel) (by decide +kernel) (by decide +kernel)
    (by first | exact .inl (by decide +kernel) | exact .inr (by decide +kernel)) (by rw [isSubtype_type]; kernel_rfl)
theorem called_object : TypeCalled "object" "object.__new__" "object.__init__" :=
  ⟨by decide +kernel, by decide +kernel, ⟨_, _, PySem.F.mro_object⟩, madeBy_type PySem.F.mro_object lookup_object_new (by decide +kernel), by decide +kernel, by rw [isSubtype_type]; kernel_rfl, slot_object_init⟩
theorem typeCall_object : checkTypeCall "object" ⟨[], []⟩ = pure () := by kernel_rfl
theorem newCall_object : checkBuiltinCall "object.__new__" ⟨[.type "object"], []⟩ = pure () := by kernel_rfl
theorem args_object_init_1 (a : Value) : argsOk "object.__init__" ⟨[a], []⟩ := by
  unfold argsOk; rw [signature?_of (id := "object.__init__") (n := ['_', '_', 't', 'i', 'n', 'i', '_', '_']) (o := ['t', 'c', 'e', 'j', 'b', 'o']) (by kernel_rfl) PySem.F.owner_object]; kernel_rfl
theorem here_object : Bind.madeHere "object.__new__" (.type "object") = pure () := by
  unfold Bind.madeHere
  rw [show Bind.staticBase (.type "object") = pure (.type "object") by first | rfl | kernel_rfl]
  show (Bind.madeBy (.type "object") >>= _) = _
  rw [called_object.made]
  first | rfl | kernel_rfl
theorem new_object : Meets (Builtin.«object.__new__» ⟨[.type "object"], []⟩) (fun _ R s => R (.ok (.ret (.ref s.heap.objs.size))) { s with heap := s.heap.push { cls := .type "object", data := .plain } }) :=
  .of_wp fun prog w A R s h => by
    obtain ⟨hp, g, d, tk, os⟩ := s
    show wpAny _ _ (isType (.type "object") >>= _) _ _ _
    refine wpAny_bind (wpAny_of_eq (a := true) (by first | rfl | kernel_rfl) ?_)
    simp only [Bool.not_true, Bool.false_eq_true, if_false]
    refine wpAny_bind ?_
    refine wpAny_of_eq here_object ?_
    rw [if_neg (by decide)]
    rw [if_neg (by decide +kernel)]
    refine wpAny_bind (wpAny_pure ?_)
    refine wpAny_bind (wpAny_newObj_type ?_)
    rw [if_neg (by decide +kernel)]
    exact wpAny_pure ⟨_, rfl, h⟩
theorem init_object {self : Value} : Meets (Builtin.«object.__init__» ⟨[self], []⟩) (fun _ R s => R (.ok (.ret .none)) s) := Meets.of_wp fun prog w A R s hs => wpAny_pure ⟨_, rfl, hs⟩
@[reducible] noncomputable def objO : AO := .obj { cls := .type "object", data := .plain }
theorem WP.object {Q : Value → St → Prop} (h : ∀ a, New c σ a → Q (.ref a) (σ.put a objO)) : WP prog w c A (call (.type "object") []) Q σ := fun s hs =>
  callType_meets (Q₁ := fun obj s₁ => obj = .ref s.heap.objs.size ∧ s₁ = { s with heap := s.heap.push { cls := .type "object", data := .plain } }) called_object typeCall_object newCall_object PySem.F.entry_object_new PySem.F.entry_object_init new_object ⟨rfl, rfl⟩ fun obj s₁ ⟨e1, e2⟩ => by
    subst e1 e2
    exact ⟨⟨_, Heap.get?_push_size _ rfl, rfl⟩, args_object_init_1 _, _, init_object, rfl, ⟨_, hs.push (x := objO) _ rfl rfl, h _ hs.new⟩⟩
theorem WP.addL {l b : Addr} {vs ws : List Value} {Q : Value → St → Prop} (hl : σ.D l = some (.list vs)) (hb : σ.D b = some (.list ws)) (hz : vs.length + ws.length ≤ 100000) (h : ∀ a, New c σ a → Q (.ref a) (σ.put a (.list (vs ++ ws)))) : WP prog w c A (binaryOp .Add (.ref l) (.ref b)) Q σ := fun s hs => by
  obtain ⟨n, e⟩ := hs.plain hl
  obtain ⟨m, e2⟩ := hs.plain hb
  exact PySem.P.add_list e e2 ⟨_, hs.push (x := .list (vs ++ ws)) _ ⟨0, by simp⟩ rfl, h _ hs.new⟩ (by rw [sizeLine_eq]; simp; lia)
end Mine
end
section
open PySem PyProof.Rows
namespace Mine
namespace Srt
noncomputable def E (xs : Array Keyed) (i : Nat) : Keyed := (xs[i]?).getD (.none, .none)
theorem E_congr {xs ys : Array Keyed} {i j : Nat} (h : xs[i]? = ys[j]?) : E xs i = E ys j := by unfold E; rw [h]
theorem E_mirror {xs : Array Keyed} {i j : Nat} (hj : j ≤ xs.size) (k : Nat) : E (mirror xs i j ((j - i) / 2)) k = if i ≤ k ∧ k < j then E xs (i + j - 1 - k) else E xs k := by
  have e := getElem?_mirror_all (i := i) hj k
  by_cases h1 : i ≤ k ∧ k < j
  · rw [if_pos h1] at e ⊢; exact E_congr e
  · rw [if_neg h1] at e ⊢; exact E_congr e
theorem E_bubble {xs : Array Keyed} {src d : Nat} (hs : src < xs.size) (hd : d ≤ src) (k : Nat) :
    E (bubble xs src d) k = if k = src - d then E xs src else if src - d < k ∧ k ≤ src then E xs (k - 1) else E xs k := by
  have e := getElem?_bubble hs d hd k
  by_cases h1 : k = src - d
  · rw [if_pos h1] at e ⊢; exact E_congr e
  · rw [if_neg h1] at e ⊢
    by_cases h2 : src - d < k ∧ k ≤ src
    · rw [if_pos h2] at e ⊢; exact E_congr e
    · rw [if_neg h2] at e ⊢; exact E_congr e
structure SB (κ : SortKind) (a₀ : Array Keyed) (st : SortSt) : Prop where
  perm : (arrOf st).Perm a₀
  kind : kindOf st = κ
  failed : failedOf st = none
  pend : pendingOf st = #[]
theorem SB.size {κ : SortKind} {a₀ : Array Keyed} {st : SortSt} (h : SB κ a₀ st) : (arrOf st).size = a₀.size := h.perm.size_eq
theorem SB.set {κ : SortKind} {a₀ : Array Keyed} {st : SortSt} (h : SB κ a₀ st) {xs : Array Keyed} (hp : xs.Perm (arrOf st)) : SB κ a₀ (setArr st xs) := ⟨hp.trans h.perm, h.kind, h.failed, h.pend⟩
theorem SB.mem {κ : SortKind} {a₀ : Array Keyed} {st : SortSt} (h : SB κ a₀ st) {i : Nat} (hi : i < a₀.size) : E (arrOf st) i ∈ a₀.toList ∧ (arrOf st)[i]? = some (E (arrOf st) i) := by
  have hi' : i < (arrOf st).size := by rw [h.size]; exact hi
  have e : (arrOf st)[i]? = some (arrOf st)[i] := getElem?_pos _ i hi'
  unfold E
  rw [e]
  exact ⟨(Array.perm_iff_toList_perm.mp h.perm).mem_iff.mp (by simp), rfl⟩
/-- a comparing of the array's items -/
structure Cmp (a₀ : Array Keyed) (cmp : Keyed → Keyed → Bool) : Prop where
  asymm : ∀ x ∈ a₀.toList, ∀ y ∈ a₀.toList, cmp x y = true → cmp y x = false
  ntrans : ∀ x ∈ a₀.toList, ∀ y ∈ a₀.toList, ∀ z ∈ a₀.toList, cmp x y = false → cmp y z = false → cmp x z = false
theorem Cmp.lt_of {a₀ : Array Keyed} {cmp : Keyed → Keyed → Bool} (C : Cmp a₀ cmp) {x y z : Keyed} (hx : x ∈ a₀.toList) (hy : y ∈ a₀.toList) (hz : z ∈ a₀.toList) (h1 : cmp x y = true) (h2 : cmp z y = false) : cmp x z = true := by
  cases h : cmp x z with
  | true => rfl
  | false => rw [C.ntrans x hx z hz y hy h h2] at h1; cases h1
theorem Cmp.lt_of' {a₀ : Array Keyed} {cmp : Keyed → Keyed → Bool} (C : Cmp a₀ cmp) {x y z : Keyed} (hx : x ∈ a₀.toList) (hy : y ∈ a₀.toList) (hz : z ∈ a₀.toList) (h1 : cmp x y = true) (h2 : cmp x z = false) : cmp z y = true := by
  cases h : cmp z y with
  | true => rfl
  | false => rw [C.ntrans x hx z hz y hy h2 h] at h1; cases h1
section
variable {prog : Program} {w : World} {A : Around} {Ex : Value → Shared → Prop} {s : Shared} {a₀ : Array Keyed} {κ : SortKind} {cmp : Keyed → Keyed → Bool} {bf : Keyed → Keyed → Prop}
noncomputable def RR (cmp : Keyed → Keyed → Bool) (bf : Keyed → Keyed → Prop) (x y : Keyed) : Prop := cmp x y = true ∨ (cmp y x = false ∧ bf x y)
theorem RR.nle (C : Cmp a₀ cmp) {x y : Keyed} (hx : x ∈ a₀.toList) (hy : y ∈ a₀.toList) (h : RR cmp bf x y) : cmp y x = false := by
  rcases h with h | ⟨h, _⟩
  · exact C.asymm _ hx _ hy h
  · exact h
noncomputable def Up (cmp : Keyed → Keyed → Bool) (bf : Keyed → Keyed → Prop) (xs : Array Keyed) (n : Nat) : Prop := ∀ i j, i < j → j < n → RR cmp bf (E xs i) (E xs j)
noncomputable def Dn (cmp : Keyed → Keyed → Bool) (bf : Keyed → Keyed → Prop) (xs : Array Keyed) (n : Nat) : Prop := ∀ i j, i < j → j < n → RR cmp bf (E xs j) (E xs i)
noncomputable def Rest (bf : Keyed → Keyed → Prop) (xs : Array Keyed) (n N : Nat) : Prop := ∀ i j, i < j → n ≤ j → j < N → bf (E xs i) (E xs j)
noncomputable def LtOk (prog : Program) (w : World) (A : Around) (s : Shared) (a₀ : Array Keyed) (κ : SortKind) (cmp : Keyed → Keyed → Bool) : Prop :=
  ∀ x ∈ a₀.toList, ∀ y ∈ a₀.toList, ∀ (Q : Bool → Shared → Prop) (Ex : Value → Shared → Prop), Q (cmp x y) s → wpAny (model prog w) A (keyLt' κ x.1 y.1) Q Ex s
theorem lt_at (hL : LtOk prog w A s a₀ κ cmp) {st : SortSt} {i j : Nat} {Q : Option Bool → SortSt → Prop} (hB : SB κ a₀ st) (hi : i < a₀.size) (hj : j < a₀.size)
    (h : Q (some (cmp (E (arrOf st) i) (E (arrOf st) j))) st) : wpS (model prog w) A Ex s (ltAt' i j) Q st := by
  obtain ⟨m1, e1⟩ := hB.mem hi
  obtain ⟨m2, e2⟩ := hB.mem hj
  rw [ltAt'_eq]
  refine wpS_bind (wpS_get ?_)
  show wpS _ _ _ _ (do let x ← elem' (arrOf st) i; let y ← elem' (arrOf st) j; lt' x y) Q st
  rw [elem'_eq, elem'_eq, e1, e2]
  refine wpS_bind (wpS_pure (wpS_bind (wpS_pure ?_)))
  rw [lt'_eq]
  refine wpS_bind (wpS_get ?_)
  rw [hB.kind]
  refine wpS_bind (wpS_lift (wpAny_attempt (hL _ m1 _ m2 _ _ ⟨rfl, ?_⟩)))
  exact wpS_pure h
theorem asc (C : Cmp a₀ cmp) (hL : LtOk prog w A s a₀ κ cmp) {st : SortSt} {a nrem : Nat} {Q : AscSt → SortSt → Prop} (hn : nrem ≤ a₀.size) (ha : 1 ≤ a) (han : a ≤ nrem) (hB : SB κ a₀ st)
    (hs : Up cmp bf (arrOf st) a) (hr : Rest bf (arrOf st) a nrem)
    (h : ∀ n, a ≤ n → n ≤ nrem → Up cmp bf (arrOf st) n → Rest bf (arrOf st) n nrem → (n = nrem ∨ cmp (E (arrOf st) n) (E (arrOf st) (n - 1)) = true) → Q (none, n) st) :
    wpS (model prog w) A Ex s (ascLoop a nrem) Q st := by
  unfold ascLoop
  refine wpS_forRange (I := fun x c st' => st' = st ∧ c = (none, x) ∧ Up cmp bf (arrOf st) x ∧ Rest bf (arrOf st) x nrem) ?step ?fin ⟨rfl, rfl, hs, hr⟩
  case fin =>
    rintro c st' ⟨rfl, rfl, hs', hr'⟩
    rw [show max a nrem = nrem by lia] at hs' hr' ⊢
    exact h nrem han (Nat.le_refl _) hs' hr' (.inl rfl)
  case step =>
    rintro x c st' hax hxn ⟨rfl, rfl, hs', hr'⟩
    dsimp only
    refine wpS_bind (lt_at hL hB (by lia) (by lia) ?_)
    cases hless : cmp (E (arrOf st') x) (E (arrOf st') (x - 1)) with
    | true =>
      simp only [if_true]
      exact wpS_pure (h x hax (by lia) hs' hr' (.inr hless))
    | false =>
      simp only [Bool.false_eq_true, if_false]
      refine wpS_pure ⟨rfl, rfl, fun i j hij hj => ?_, fun i j hij hxj hj => hr' i j hij (by lia) hj⟩
      by_cases hjx : j < x
      · exact hs' i j hij hjx
      · have hj' : j = x := by lia
        subst hj'
        refine .inr ⟨?_, hr' i j hij (Nat.le_refl _) (by lia)⟩
        by_cases hi' : i = j - 1
        · subst hi'; exact hless
        · exact C.ntrans _ (hB.mem (by lia)).1 _ (hB.mem (by lia)).1 _ (hB.mem (by lia)).1 hless ((hs' i (j - 1) (by lia) (by lia)).nle C (hB.mem (by lia)).1 (hB.mem (by lia)).1)
theorem tail (C : Cmp a₀ cmp) (hL : LtOk prog w A s a₀ κ cmp) {st : SortSt} {n nrem : Nat} {Q : Option Nat → SortSt → Prop} (hn : nrem ≤ a₀.size) (h1 : 1 ≤ n) (hnn : n ≤ nrem) (hB : SB κ a₀ st)
    (hs : Dn cmp bf (arrOf st) n) (hr : Rest bf (arrOf st) n nrem)
    (h : ∀ m st', SB κ a₀ st' → 1 ≤ m → m ≤ nrem → Up cmp bf (arrOf st') m → Rest bf (arrOf st') m nrem → Q (some m) st') :
    wpS (model prog w) A Ex s (tail3 n nrem) Q st := by
  unfold tail3
  have hsz : n ≤ (arrOf st).size := by rw [hB.size]; lia
  refine wpS_bind (wpS_reverse ?_)
  have hB' : SB κ a₀ (setArr st (mirror (arrOf st) 0 n ((n - 0) / 2))) := hB.set (mirror_perm _ _ _ _)
  refine wpS_bind (asc C hL hn h1 hnn hB' ?_ ?_ fun m hm1 hm2 hsm hrm _ => wpS_pure (h m _ hB' (by lia) hm2 hsm hrm))
  · intro i j hij hj
    show RR cmp bf (E (mirror (arrOf st) 0 n ((n - 0) / 2)) i) (E (mirror (arrOf st) 0 n ((n - 0) / 2)) j)
    rw [E_mirror hsz, E_mirror hsz, if_pos (by lia), if_pos (by lia)]
    exact hs _ _ (by lia) (by lia)
  · intro i j hij hnj hj
    show bf (E (mirror (arrOf st) 0 n ((n - 0) / 2)) i) (E (mirror (arrOf st) 0 n ((n - 0) / 2)) j)
    rw [E_mirror hsz, E_mirror hsz, if_neg (show ¬ (0 ≤ j ∧ j < n) by lia)]
    split
    · exact hr _ _ (by lia) hnj hj
    · exact hr _ _ hij hnj hj
/-- a falling prefix whose last neq + 1 items are alike, still in their old order -/
structure Fall (cmp : Keyed → Keyed → Bool) (bf : Keyed → Keyed → Prop) (xs : Array Keyed) (x neq : Nat) : Prop where
  le : neq + 1 ≤ x
  a1 : ∀ i j, i < j → j < x - (neq + 1) → RR cmp bf (E xs j) (E xs i)
  a2 : ∀ i j, i < x - (neq + 1) → x - (neq + 1) ≤ j → j < x → cmp (E xs j) (E xs i) = true
  b1 : ∀ i j, i < j → x - (neq + 1) ≤ i → j < x → cmp (E xs i) (E xs j) = false ∧ cmp (E xs j) (E xs i) = false ∧ bf (E xs i) (E xs j)
/-- the block turned round: all falls -/
theorem Fall.turn {xs : Array Keyed} {x neq : Nat} (F : Fall cmp bf xs x neq) (hsz : x ≤ xs.size) : Dn cmp bf (mirror xs (x - (neq + 1)) x ((x - (x - (neq + 1))) / 2)) x := by
  have hle := F.le
  intro i j hij hj
  rw [E_mirror hsz, E_mirror hsz]
  by_cases hi : x - (neq + 1) ≤ i
  · rw [if_pos (by lia), if_pos (by lia)]
    have := F.b1 (x - (neq + 1) + x - 1 - j) (x - (neq + 1) + x - 1 - i) (by lia) (by lia) (by lia)
    exact .inr ⟨this.2.1, this.2.2⟩
  · rw [if_neg (show ¬ (x - (neq + 1) ≤ i ∧ i < x) by lia)]
    by_cases hjb : x - (neq + 1) ≤ j
    · rw [if_pos (by lia)]
      exact .inl (F.a2 _ _ (by lia) (by lia) (by lia))
    · rw [if_neg (by lia)]
      exact F.a1 _ _ hij (by lia)
theorem Fall.plain {xs : Array Keyed} {x : Nat} (F : Fall cmp bf xs x 0) : Dn cmp bf xs x := by
  intro i j hij hj
  by_cases hjb : x - 1 ≤ j
  · exact .inl (F.a2 _ _ (by lia) (by lia) hj)
  · exact F.a1 _ _ hij (by lia)
theorem Rest.turn {xs : Array Keyed} {x b N : Nat} (R : Rest bf xs x N) (hsz : x ≤ xs.size) : Rest bf (mirror xs b x ((x - b) / 2)) x N := by
  intro i j hij hnj hj
  rw [E_mirror hsz, E_mirror hsz, if_neg (show ¬ (b ≤ j ∧ j < x) by lia)]
  split
  · exact R _ _ (by lia) hnj hj
  · exact R _ _ hij hnj hj
theorem desc (C : Cmp a₀ cmp) (hL : LtOk prog w A s a₀ κ cmp) {st : SortSt} {n nrem : Nat} {Q : DescSt → SortSt → Prop} (hn : nrem ≤ a₀.size) (h1 : 1 ≤ n) (hnn : n ≤ nrem) (hB : SB κ a₀ st)
    (hs : Fall cmp bf (arrOf st) n 0) (hr : Rest bf (arrOf st) n nrem)
    (h : ∀ m neq st', SB κ a₀ st' → n ≤ m → m ≤ nrem → Fall cmp bf (arrOf st') m neq → Rest bf (arrOf st') m nrem → Q (none, m, neq) st') :
    wpS (model prog w) A Ex s (descLoop n nrem) Q st := by
  unfold descLoop
  refine wpS_forRange (I := fun x c st' => ∃ neq, c = (none, x, neq) ∧ SB κ a₀ st' ∧ Fall cmp bf (arrOf st') x neq ∧ Rest bf (arrOf st') x nrem) ?step ?fin ⟨0, rfl, hB, hs, hr⟩
  case fin =>
    rintro c st' ⟨neq, rfl, hB', hs', hr'⟩
    rw [show max n nrem = nrem by lia] at hs' hr' ⊢
    exact h nrem neq st' hB' hnn (Nat.le_refl _) hs' hr'
  case step =>
    rintro x c st' hax hxn ⟨neq, rfl, hB', hs', hr'⟩
    dsimp only
    have hsz : x ≤ (arrOf st').size := by rw [hB'.size]; lia
    have hle := hs'.le
    refine wpS_bind (lt_at hL hB' (by lia) (by lia) ?_)
    cases hless : cmp (E (arrOf st') x) (E (arrOf st') (x - 1)) with
    | true =>
      simp only [if_true]
      -- x lies below all before it
      have below : ∀ i, i < x → cmp (E (arrOf st') x) (E (arrOf st') i) = true := fun i hi => by
        by_cases hi' : i = x - 1
        · subst hi'; exact hless
        · refine C.lt_of (hB'.mem (by lia)).1 (hB'.mem (i := x - 1) (by lia)).1 (hB'.mem (by lia)).1 hless ?_
          by_cases hib : x - (neq + 1) ≤ i
          · exact (hs'.b1 i (x - 1) (by lia) hib (by lia)).1
          · exact C.asymm _ (hB'.mem (by lia)).1 _ (hB'.mem (by lia)).1 (hs'.a2 i (x - 1) (by lia) (by lia) (by lia))
      have step1 : ∀ xs : Array Keyed, Dn cmp bf xs x → (∀ i, i < x → ∃ i', i' < x ∧ E xs i = E (arrOf st') i') → (∀ k, x ≤ k → E xs k = E (arrOf st') k) → Fall cmp bf xs (x + 1) 0 := by
        intro xs hd hlo hhi
        refine ⟨by lia, fun i j hij hj => hd i j hij (by lia), fun i j hi hj1 hj2 => ?_, fun i j hij hi hj => by lia⟩
        have hj' : j = x := by lia
        subst hj'
        obtain ⟨i', hi', e⟩ := hlo i (by lia)
        rw [hhi j (Nat.le_refl _), e]
        exact below i' hi'
      by_cases hneq : neq > 0
      · rw [if_pos hneq]
        refine wpS_bind (wpS_reverse (wpS_pure ⟨0, rfl, hB'.set (mirror_perm _ _ _ _), step1 _ (hs'.turn hsz) (fun i hi => ?_) (fun k hk => ?_), fun i j hij hxj hj => (hr'.turn hsz) i j hij (by lia) hj⟩))
        · rw [E_mirror hsz]
          split
          · exact ⟨_, by lia, rfl⟩
          · exact ⟨i, hi, rfl⟩
        · rw [E_mirror hsz, if_neg (by lia)]
      · rw [if_neg hneq]
        have h0 : neq = 0 := by lia
        subst h0
        exact wpS_pure ⟨0, rfl, hB', step1 _ hs'.plain (fun i hi => ⟨i, hi, rfl⟩) (fun k hk => rfl), fun i j hij hxj hj => hr' i j hij (by lia) hj⟩
    | false =>
      simp only [Bool.false_eq_true, if_false]
      refine wpS_bind (lt_at hL hB' (by lia) (by lia) ?_)
      cases hlarger : cmp (E (arrOf st') (x - 1)) (E (arrOf st') x) with
      | true =>
        simp only [if_true]
        exact wpS_pure (h x neq st' hB' hax (by lia) hs' hr')
      | false =>
        simp only [Bool.false_eq_true, if_false]
        have m : ∀ i, i ≤ x → E (arrOf st') i ∈ a₀.toList := fun i hi => (hB'.mem (by lia)).1
        refine wpS_pure ⟨neq + 1, rfl, hB', ⟨by lia, fun i j hij hj => hs'.a1 i j hij (by lia), fun i j hi hj1 hj2 => ?_, fun i j hij hi hj => ?_⟩, fun i j hij hxj hj => hr' i j hij (by lia) hj⟩
        · by_cases hjx : j < x
          · exact hs'.a2 i j (by lia) (by lia) hjx
          · have hj' : j = x := by lia
            subst hj'
            exact C.lt_of' (m _ (by lia)) (m _ (by lia)) (m _ (by lia)) (hs'.a2 i (j - 1) (by lia) (by lia) (by lia)) hlarger
        · by_cases hjx : j < x
          · exact hs'.b1 i j hij (by lia) hjx
          · have hj' : j = x := by lia
            subst hj'
            refine ⟨?_, ?_, hr' i j hij (Nat.le_refl _) (by lia)⟩
            · by_cases hi' : i = j - 1
              · subst hi'; exact hlarger
              · exact C.ntrans _ (m _ (by lia)) _ (m (j - 1) (by lia)) _ (m _ (by lia)) (hs'.b1 i (j - 1) (by lia) (by lia) (by lia)).1 hlarger
            · by_cases hi' : i = j - 1
              · subst hi'; exact hless
              · exact C.ntrans _ (m _ (by lia)) _ (m (j - 1) (by lia)) _ (m _ (by lia)) hless (hs'.b1 i (j - 1) (by lia) (by lia) (by lia)).2.1
theorem descP (C : Cmp a₀ cmp) (hL : LtOk prog w A s a₀ κ cmp) {st : SortSt} {n nrem : Nat} {Q : Option Nat → SortSt → Prop} (hn : nrem ≤ a₀.size) (hnn : n + 1 ≤ nrem) (hB : SB κ a₀ st)
    (hs : Fall cmp bf (arrOf st) (n + 1) 0) (hr : Rest bf (arrOf st) (n + 1) nrem)
    (h : ∀ m st', SB κ a₀ st' → 1 ≤ m → m ≤ nrem → Up cmp bf (arrOf st') m → Rest bf (arrOf st') m nrem → Q (some m) st') :
    wpS (model prog w) A Ex s (descPart n nrem) Q st := by
  unfold descPart
  refine wpS_bind (wpS_lift (wpAny_rule ⟨rfl, ?_⟩))
  refine wpS_bind (desc C hL hn (by lia) hnn hB hs hr fun m neq st' hB' hm1 hm2 hs' hr' => ?_)
  dsimp only
  have hsz : m ≤ (arrOf st').size := by rw [hB'.size]; lia
  by_cases hneq : neq > 0
  · rw [if_pos hneq]
    exact wpS_bind (wpS_reverse (tail C hL hn (by lia) hm2 (hB'.set (mirror_perm _ _ _ _)) (hs'.turn hsz) (hr'.turn hsz) h))
  · rw [if_neg hneq]
    have h0 : neq = 0 := by lia
    subst h0
    exact tail C hL hn (by lia) hm2 hB' hs'.plain hr' h
theorem count (C : Cmp a₀ cmp) (hL : LtOk prog w A s a₀ κ cmp) {st : SortSt} {nrem : Nat} {Q : Option Nat → SortSt → Prop} (hn : nrem ≤ a₀.size) (h1 : 1 ≤ nrem) (hB : SB κ a₀ st) (hr : Rest bf (arrOf st) 1 nrem)
    (h : ∀ m st', SB κ a₀ st' → 1 ≤ m → m ≤ nrem → Up cmp bf (arrOf st') m → Rest bf (arrOf st') m nrem → Q (some m) st') :
    wpS (model prog w) A Ex s (countRun' 0 nrem) Q st := by
  rw [countRun0_eq]
  refine wpS_bind (asc C hL hn (Nat.le_refl 1) h1 hB (fun i j hij hj => by lia) hr fun n hn1 hn2 hsn hrn hor => ?_)
  dsimp only
  by_cases hnn : n = nrem
  · rw [if_pos (by simpa using hnn)]
    exact wpS_pure (h n st hB hn1 hn2 hsn hrn)
  · rw [if_neg (by simpa using hnn)]
    have hlt := hor.resolve_left hnn
    have m : ∀ i, i < a₀.size → E (arrOf st) i ∈ a₀.toList := fun i hi => (hB.mem hi).1
    by_cases hgt : n > 1
    · rw [if_pos hgt]
      refine wpS_bind (lt_at hL hB (by lia) (by lia) ?_)
      cases hrose : cmp (E (arrOf st) 0) (E (arrOf st) (n - 1)) with
      | true =>
        simp only [if_true]
        exact wpS_pure (h n st hB hn1 hn2 hsn hrn)
      | false =>
        simp only [Bool.false_eq_true, if_false]
        have hsz : n ≤ (arrOf st).size := by rw [hB.size]; lia
        -- all alike
        have e0 : ∀ i, i < n → cmp (E (arrOf st) i) (E (arrOf st) 0) = false := fun i hi => by
          by_cases hi0 : i = 0
          · subst hi0
            cases q : cmp (E (arrOf st) 0) (E (arrOf st) 0) with
            | false => rfl
            | true => rw [C.asymm _ (m _ (by lia)) _ (m _ (by lia)) q] at q; cases q
          · exact (hsn 0 i (by lia) hi).nle C (m _ (by lia)) (m _ (by lia))
        have e1 : ∀ i, i < n → cmp (E (arrOf st) (n - 1)) (E (arrOf st) i) = false := fun i hi => by
          by_cases hin : i = n - 1
          · subst hin
            cases q : cmp (E (arrOf st) (n - 1)) (E (arrOf st) (n - 1)) with
            | false => rfl
            | true => rw [C.asymm _ (m _ (by lia)) _ (m _ (by lia)) q] at q; cases q
          · exact (hsn i (n - 1) (by lia) (by lia)).nle C (m _ (by lia)) (m _ (by lia))
        have alike : ∀ i j, i < n → j < n → cmp (E (arrOf st) i) (E (arrOf st) j) = false := fun i j hi hj =>
          C.ntrans _ (m _ (by lia)) _ (m 0 (by lia)) _ (m _ (by lia)) (e0 i hi) (C.ntrans _ (m _ (by lia)) _ (m (n - 1) (by lia)) _ (m _ (by lia)) hrose (e1 j hj))
        refine wpS_bind (wpS_reverse (descP C hL hn (by lia) (hB.set (mirror_perm _ _ _ _)) ⟨by lia, fun i j hij hj => ?_, fun i j hi hj1 hj2 => ?_, fun i j hij hi hj => by lia⟩ ?_ h))
        · show RR cmp bf (E (mirror (arrOf st) 0 n ((n - 0) / 2)) j) (E (mirror (arrOf st) 0 n ((n - 0) / 2)) i)
          rw [E_mirror hsz, E_mirror hsz, if_pos (by lia), if_pos (by lia)]
          have := hsn (0 + n - 1 - j) (0 + n - 1 - i) (by lia) (by lia)
          rcases this with q | q
          · rw [alike _ _ (by lia) (by lia)] at q; cases q
          · exact .inr q
        · have hj' : j = n := by lia
          subst hj'
          show cmp (E (mirror (arrOf st) 0 j ((j - 0) / 2)) j) (E (mirror (arrOf st) 0 j ((j - 0) / 2)) i) = true
          rw [E_mirror hsz, E_mirror hsz, if_neg (by lia), if_pos (by lia)]
          exact C.lt_of (m _ (by lia)) (m (j - 1) (by lia)) (m _ (by lia)) hlt (alike _ _ (by lia) (by lia))
        · show Rest bf (mirror (arrOf st) 0 n ((n - 0) / 2)) (n + 1) nrem
          exact fun i j hij hxj hj => (hrn.turn hsz) i j hij (by lia) hj
    · rw [if_neg hgt]
      have hn1' : n = 1 := by lia
      subst hn1'
      refine descP C hL hn (by lia) hB ⟨by lia, fun i j hij hj => by lia, fun i j hi hj1 hj2 => ?_, fun i j hij hi hj => by lia⟩ (fun i j hij hxj hj => hrn i j hij (by lia) hj) h
      have hi0 : i = 0 := by lia
      have hj1 : j = 1 := by lia
      subst hi0; subst hj1
      exact hlt
theorem binary (C : Cmp a₀ cmp) (hL : LtOk prog w A s a₀ κ cmp) {st : SortSt} {n ok : Nat} {Q : Bool → SortSt → Prop} (hn : n ≤ a₀.size) (hok : ok ≤ n) (hB : SB κ a₀ st) (hs : Up cmp bf (arrOf st) ok) (hr : Rest bf (arrOf st) (max ok 1) n)
    (h : ∀ st', SB κ a₀ st' → Up cmp bf (arrOf st') n → Q true st') : wpS (model prog w) A Ex s (binarySort' 0 n ok) Q st := by
  rw [binarySort'_eq]
  simp only [Nat.zero_add]
  refine wpS_bind (wpS_mono (wpS_forRange (I := fun k c st' => c = (none, ()) ∧ SB κ a₀ st' ∧ Up cmp bf (arrOf st') (min k n) ∧ Rest bf (arrOf st') k n)
    (Q := fun c st' => c = (none, ()) ∧ SB κ a₀ st' ∧ Up cmp bf (arrOf st') n) ?step ?fin ?init) ?post)
  case post =>
    rintro c st' ⟨rfl, hB', hs'⟩
    exact wpS_pure (h st' hB' hs')
  case init =>
    refine ⟨rfl, hB, fun i j hij hj => ?_, hr⟩
    by_cases h1 : ok = 0
    · lia
    · exact hs i j hij (by lia)
  case fin =>
    rintro c st' ⟨hc, hB', hs', _⟩
    refine ⟨hc, hB', ?_⟩
    rwa [show min (max (max ok 1) n) n = n by lia] at hs'
  case step =>
    rintro k c st' hak hkn ⟨rfl, hB', hs', hr'⟩
    rw [show min k n = k by lia] at hs'
    have hk : k < a₀.size := by lia
    have m : ∀ i, i < a₀.size → E (arrOf st') i ∈ a₀.toList := fun i hi => (hB'.mem hi).1
    refine wpS_bind (wpS_mono (wpS_forRange (I := fun x c st'' => st'' = st' ∧ ∃ l r, c = (none, l, r) ∧ l ≤ r ∧ r ≤ k ∧ r - l ≤ k - x ∧
        (∀ i, i < l → cmp (E (arrOf st') k) (E (arrOf st') i) = false) ∧ (∀ i, r ≤ i → i < k → cmp (E (arrOf st') k) (E (arrOf st') i) = true))
      (Q := fun c st'' => st'' = st' ∧ ∃ l r, c = (none, l, r) ∧ l ≤ k ∧
        (∀ i, i < l → cmp (E (arrOf st') k) (E (arrOf st') i) = false) ∧ (∀ i, l ≤ i → i < k → cmp (E (arrOf st') k) (E (arrOf st') i) = true)) ?istep ?ifin ?iinit) ?ipost)
    case iinit => exact ⟨rfl, 0, k, rfl, by lia, by lia, by lia, fun i hi => by lia, fun i h1 h2 => by lia⟩
    case ifin =>
      rintro c st'' ⟨rfl, l, r, rfl, hlr, hrk, hm, hlo, hhi⟩
      have : l = r := by lia
      subst this
      exact ⟨rfl, l, l, rfl, hrk, hlo, hhi⟩
    case istep =>
      rintro x c st'' _ hxk ⟨rfl, l, r, rfl, hlr, hrk, hm, hlo, hhi⟩
      dsimp only
      by_cases hge : l ≥ r
      · rw [if_pos hge]
        have : l = r := by lia
        subst this
        exact wpS_pure ⟨rfl, l, l, rfl, hrk, hlo, hhi⟩
      · rw [if_neg hge]
        refine wpS_bind (lt_at hL hB' hk (by lia) ?_)
        cases hless : cmp (E (arrOf st'') k) (E (arrOf st'') ((l + r) / 2)) with
        | true =>
          simp only [if_true]
          refine wpS_pure ⟨rfl, l, (l + r) / 2, rfl, by lia, by lia, by lia, hlo, fun i h1 h2 => ?_⟩
          by_cases hi' : i = (l + r) / 2
          · subst hi'; exact hless
          · exact C.lt_of (m _ (by lia)) (m _ (by lia)) (m _ (by lia)) hless ((hs' ((l + r) / 2) i (by lia) h2).nle C (m _ (by lia)) (m _ (by lia)))
        | false =>
          simp only [Bool.false_eq_true, if_false]
          refine wpS_pure ⟨rfl, (l + r) / 2 + 1, r, rfl, by lia, by lia, by lia, fun i h1 => ?_, hhi⟩
          by_cases hi' : i = (l + r) / 2
          · subst hi'; exact hless
          · exact C.ntrans _ (m _ (by lia)) _ (m _ (by lia)) _ (m _ (by lia)) hless ((hs' i ((l + r) / 2) (by lia) (by lia)).nle C (m _ (by lia)) (m _ (by lia)))
    case ipost =>
      rintro c st'' ⟨rfl, l, r, rfl, hlk, hlo, hhi⟩
      show wpS _ _ _ _ (do moveDown' k l; pure (ForInStep.yield (none, ()))) _ _
      rw [moveDown'_eq]
      have hks : k < (arrOf st'').size := by rw [hB'.size]; exact hk
      refine wpS_bind (wpS_modify (wpS_pure ⟨rfl, hB'.set (bubble_perm _ _ _), ?_, ?_⟩))
      · rw [show min (k + 1) n = k + 1 by lia]
        intro i j hij hj
        show RR cmp bf (E (bubble (arrOf st'') k (k - l)) i) (E (bubble (arrOf st'') k (k - l)) j)
        rw [E_bubble hks (by lia), E_bubble hks (by lia), show k - (k - l) = l by lia]
        repeat' split
        all_goals first
          | (exfalso; lia)
          | exact .inr ⟨hlo _ (by lia), hr' _ _ (by lia) (Nat.le_refl _) hkn⟩
          | exact .inl (hhi _ (by lia) (by lia))
          | exact hs' _ _ (by lia) (by lia)
      · intro i j hij hkj hj
        show bf (E (bubble (arrOf st'') k (k - l)) i) (E (bubble (arrOf st'') k (k - l)) j)
        rw [E_bubble hks (by lia), E_bubble hks (by lia), show k - (k - l) = l by lia, if_neg (show ¬ j = l by lia), if_neg (show ¬ (l < j ∧ j ≤ k) by lia)]
        repeat' split
        all_goals exact hr' _ _ (by lia) (by lia) hj
noncomputable def Done (κ : SortKind) (cmp : Keyed → Keyed → Bool) (bf : Keyed → Keyed → Prop) (a₀ : Array Keyed) (st : SortSt) : Prop :=
  (arrOf st).Perm a₀ ∧ failedOf st = none ∧ pendingOf st = #[(0, a₀.size, 0)] ∧ Up cmp bf (arrOf st) a₀.size
theorem SB.done {st : SortSt} (hB : SB κ a₀ st) (hs : Up cmp bf (arrOf st) a₀.size) : Done κ cmp bf a₀ (setPending st ((pendingOf st).push (0, a₀.size, 0))) :=
  ⟨hB.perm, hB.failed, by show (pendingOf st).push _ = _; rw [hB.pend]; rfl, hs⟩
theorem runs (C : Cmp a₀ cmp) (hL : LtOk prog w A s a₀ κ cmp) {st : SortSt} {Q : Unit → SortSt → Prop} (hB : SB κ a₀ st) (hr : Rest bf (arrOf st) 1 a₀.size) (h2 : 2 ≤ a₀.size) (h64 : a₀.size < 64)
    (h : ∀ st', (arrOf st').Perm a₀ → failedOf st' = none → Up cmp bf (arrOf st') a₀.size → Q () st') : wpS (model prog w) A Ex s sortRuns' Q st := by
  rw [sortRuns'_eq]
  refine wpS_bind (wpS_get ?_)
  dsimp only
  have hmr : minRun' a₀.size a₀.size 0 = a₀.size := by
    obtain ⟨f, hf⟩ : ∃ f, a₀.size = f + 1 := ⟨a₀.size - 1, by lia⟩
    have : minRun' (f + 1) a₀.size 0 = a₀.size := by rw [minRun'_succ, if_pos h64]; rfl
    rwa [← hf] at this
  simp only [hB.size, hmr]
  refine wpS_bind (wpS_mono (wpS_forRange
    (I := fun x c st' => (x = 0 ∧ c = (none, 0) ∧ SB κ a₀ st' ∧ Rest bf (arrOf st') 1 a₀.size) ∨ (1 ≤ x ∧ c = (none, a₀.size) ∧ Done κ cmp bf a₀ st'))
    (Q := fun c st' => c = (none, a₀.size) ∧ Done κ cmp bf a₀ st') ?step ?fin (.inl ⟨rfl, rfl, hB, hr⟩)) ?post)
  case fin =>
    rintro c st' (⟨hx, _, _⟩ | ⟨_, hc, hD⟩)
    · lia
    · exact ⟨hc, hD⟩
  case step =>
    rintro x c st' _ hx (⟨rfl, rfl, hB', hr'⟩ | ⟨hx1, rfl, hD⟩)
    · dsimp only
      rw [if_neg (by lia)]
      simp only [Nat.sub_zero, Nat.min_self, Nat.zero_add]
      refine wpS_bind (count C hL (Nat.le_refl _) (by lia) hB' hr' fun m st2 hB2 hm1 hm2 hs2 hr2 => ?_)
      dsimp only
      by_cases hlt : m < a₀.size
      · rw [if_pos hlt]
        refine wpS_bind (wpS_lift (wpAny_rule ⟨rfl, ?_⟩))
        refine wpS_bind (binary C hL (Nat.le_refl _) hm2 hB2 hs2 (by rw [show max m 1 = m by lia]; exact hr2) fun st3 hB3 hs3 => ?_)
        simp only [Bool.not_true, Bool.false_eq_true, if_false]
        refine wpS_bind (wpS_get ?_)
        have hb : (pendingOf st3).back? = none := by rw [hB3.pend]; rfl
        rw [hb]
        dsimp only
        exact wpS_bind (wpS_modify (wpS_pure (.inr ⟨by lia, rfl, hB3.done hs3⟩)))
      · rw [if_neg hlt]
        have hm : m = a₀.size := by lia
        subst hm
        refine wpS_bind (wpS_get ?_)
        have hb : (pendingOf st2).back? = none := by rw [hB2.pend]; rfl
        rw [hb]
        dsimp only
        exact wpS_bind (wpS_modify (wpS_pure (.inr ⟨by lia, rfl, hB2.done hs2⟩)))
    · dsimp only
      rw [if_pos (Nat.le_refl _)]
      exact wpS_pure ⟨rfl, hD⟩
  case post =>
    rintro c st' ⟨rfl, hD⟩
    dsimp only
    refine wpS_bind (wpS_mono (wpS_forRange (I := fun _ c st'' => st'' = st' ∧ c = (none, ())) (Q := fun c st'' => st'' = st' ∧ c = (none, ())) ?_ (fun _ _ hh => hh) ⟨rfl, rfl⟩) ?_)
    · rintro x c st'' _ _ ⟨rfl, rfl⟩
      refine wpS_bind (wpS_get ?_)
      rw [if_pos (by rw [hD.2.2.1]; exact Nat.le_refl 1)]
      exact wpS_pure ⟨rfl, rfl⟩
    · rintro c st'' ⟨rfl, rfl⟩
      exact wpS_pure (h _ hD.1 hD.2.1 hD.2.2.2)
end
end Srt
end Mine
end
section
open PySem PyProof.Rows
namespace Mine
open Srt
variable {prog : Program} {w : World} {c : Cf} {A : Around} {σ : St}
theorem Abs.alt {s : Shared} (hs : Abs c σ s) {a : Addr} {x y : AO} (h : σ.D a = some x) (hr : ∀ o, s.heap.get? a = some o → Rep x o → Rep y o) : Abs c (σ.put a y) s where
  ok := hs.ok
  len := hs.len
  ns := hs.ns
  rig := hs.rig
  dat := fun b z e => by
    have e' : Mine.upd σ.D a y b = some z := e
    by_cases hb : b = a
    · subst hb; rw [upd_self] at e'; cases e'; obtain ⟨o, e1, r⟩ := hs.dat _ _ h; exact ⟨o, e1, hr o e1 r⟩
    · rw [upd_ne hb] at e'; exact hs.dat _ _ e'
  apart := fun b z e => by
    have e' : Mine.upd σ.D a y b = some z := e
    by_cases hb : b = a
    · subst hb; exact hs.apart _ _ h
    · rw [upd_ne hb] at e'; exact hs.apart _ _ e'
  fr := hs.fr
  base := hs.base
  gens := hs.gens
  os := hs.os
@[reducible] noncomputable def lstX (vs : List Value) (n : Nat) : AO := .obj (seqObj "list" vs.toArray n)
/-- a list with its count of changes -/
theorem WP.exact {α : Type} {t : Sem α} {Q : α → St → Prop} {a : Addr} {vs : List Value} (h : σ.D a = some (.list vs)) (ht : ∀ n, WP prog w c A t Q (σ.put a (lstX vs n))) : WP prog w c A t Q σ := fun s hs => by
  obtain ⟨n, e⟩ := hs.plain h
  exact ht n s (hs.alt h fun o e1 _ => by rw [e] at e1; cases e1; rfl)
theorem WP.inexact {α : Type} {t : Sem α} {Q : α → St → Prop} {a : Addr} {vs : List Value} {n : Nat} (h : σ.D a = some (lstX vs n)) (ht : WP prog w c A t Q (σ.put a (.list vs))) : WP prog w c A t Q σ := fun s hs =>
  ht s (hs.alt h fun o e1 r => ⟨n, r⟩)
theorem WP.itemsX {a : Addr} {vs : List Value} {n : Nat} {Q : Array Value → St → Prop} (h : σ.D a = some (lstX vs n)) (hq : Q vs.toArray σ) : WP prog w c A (Builtin.List.listItems (.ref a)) Q σ := fun s hs => listItems_at (hs.obj h) rfl ⟨σ, hs, hq⟩
theorem WP.items {a : Addr} {vs : List Value} {Q : Array Value → St → Prop} (h : σ.D a = some (.list vs)) (hq : Q vs.toArray σ) : WP prog w c A (Builtin.List.listItems (.ref a)) Q σ := fun s hs => let ⟨n, e⟩ := hs.plain h; listItems_at e rfl ⟨σ, hs, hq⟩
theorem WP.updX {a : Addr} {vs ws : List Value} {n : Nat} {f : Array Value → Array Value} {Q : Unit → St → Prop} (h : σ.D a = some (lstX vs n)) (hf : f vs.toArray = ws.toArray) (h1 : vs.length ≤ 100000) (h2 : ws.length ≤ 100000)
    (hq : ∀ m, Q () (σ.put a (lstX ws m))) : WP prog w c A (Builtin.List.listUpdate (.ref a) f) Q σ := fun s hs =>
  listUpdate_at (hs.obj h) rfl ⟨_, hs.upd (y := lstX ws _) h (Heap.SameBut.update ..) (get?_update_seq (hs.obj h) _) (by rw [hf]; rfl), hq _⟩ (by rw [sizeLine_eq]; simp; lia) (by rw [hf, sizeLine_eq]; simp; lia)
theorem WP.updL {a : Addr} {vs ws : List Value} {f : Array Value → Array Value} {Q : Unit → St → Prop} (h : σ.D a = some (.list vs)) (hf : f vs.toArray = ws.toArray) (h1 : vs.length ≤ 100000) (h2 : ws.length ≤ 100000)
    (hq : Q () (σ.put a (.list ws))) : WP prog w c A (Builtin.List.listUpdate (.ref a) f) Q σ := WP.updateSeq h hf h1 h2 hq
theorem WP.epoch {a : Addr} {vs : List Value} {n : Nat} {Q : Nat → St → Prop} (h : σ.D a = some (lstX vs n)) (hq : Q n σ) : WP prog w c A (seqEpoch a) Q σ := fun s hs => seqEpoch_at (hs.obj h) rfl ⟨σ, hs, hq⟩
theorem WP.runs {a₀ : Array Keyed} {κ : SortKind} {cmp : Keyed → Keyed → Bool} {bf : Keyed → Keyed → Prop} {st : SortSt} {Q : Unit × SortSt → St → Prop} (C : Cmp a₀ cmp) (hL : ∀ s, Abs c σ s → LtOk prog w A s a₀ κ cmp) (hB : SB κ a₀ st)
    (hr : Rest bf (arrOf st) 1 a₀.size) (h2 : 2 ≤ a₀.size) (h64 : a₀.size < 64) (h : ∀ st', (arrOf st').Perm a₀ → failedOf st' = none → Up cmp bf (arrOf st') a₀.size → Q ((), st') σ) : WP prog w c A (sortRuns'.run st) Q σ := fun s hs => by
  refine wpAny_mono (Srt.runs (s := s) C (hL s hs) (Q := fun _ st' => Q ((), st') σ) hB hr h2 h64 h) (fun r s' ⟨e, q⟩ => ?_) fun _ _ e => e
  subst e
  exact ⟨σ, hs, q⟩
/-- how a sort orders -/
noncomputable def SL (cv : Value → Value → Bool) (before : Value → Value → Prop) (b : Bool) (x y : Value) : Prop :=
  if b then cv y x = true ∨ (cv x y = false ∧ before x y) else cv x y = true ∨ (cv y x = false ∧ before x y)
noncomputable def Sorted (cv : Value → Value → Bool) (before : Value → Value → Prop) (b : Bool) (vs out : List Value) : Prop := out.Perm vs ∧ out.Pairwise (SL cv before b)
/-- the comparing of the items -/
structure CvOk (cv : Value → Value → Bool) (vs : List Value) : Prop where
  asymm : ∀ x ∈ vs, ∀ y ∈ vs, cv x y = true → cv y x = false
  ntrans : ∀ x ∈ vs, ∀ y ∈ vs, ∀ z ∈ vs, cv x y = false → cv y z = false → cv x z = false
@[reducible] noncomputable def cmpK (cv : Value → Value → Bool) : Keyed → Keyed → Bool := fun p q => cv p.2 q.2
@[reducible] noncomputable def bfK (before : Value → Value → Prop) (b : Bool) : Keyed → Keyed → Prop := fun p q => if b then before q.2 p.2 else before p.2 q.2
@[reducible] noncomputable def startA (b : Bool) (ks vs : List Value) : Array Keyed := if b then (ks.toArray.zip vs.toArray).reverse else ks.toArray.zip vs.toArray
theorem start_list {b : Bool} {ks vs : List Value} : (startA b ks vs).toList = if b then (ks.zip vs).reverse else ks.zip vs := by
  unfold startA; split <;> simp
theorem start_size {b : Bool} {ks vs : List Value} (h : ks.length = vs.length) : (startA b ks vs).size = vs.length := by
  unfold startA; split <;> simp [h]
theorem start_mem {b : Bool} {ks vs : List Value} {p : Keyed} (h : p ∈ (startA b ks vs).toList) : p ∈ ks.zip vs := by
  rw [start_list] at h
  split at h
  · exact List.mem_reverse.mp h
  · exact h
theorem start_cmp {cv : Value → Value → Bool} {b : Bool} {ks vs : List Value} (h : CvOk cv vs) : Cmp (startA b ks vs) (cmpK cv) where
  asymm := fun x hx y hy => h.asymm _ (List.of_mem_zip (start_mem hx)).2 _ (List.of_mem_zip (start_mem hy)).2
  ntrans := fun x hx y hy z hz => h.ntrans _ (List.of_mem_zip (start_mem hx)).2 _ (List.of_mem_zip (start_mem hy)).2 _ (List.of_mem_zip (start_mem hz)).2
theorem zip_pairwise {before : Value → Value → Prop} {ks vs : List Value} (h : vs.Pairwise before) (hl : ks.length = vs.length) : (ks.zip vs).Pairwise fun p q => before p.2 q.2 := by
  have : ((ks.zip vs).map Prod.snd).Pairwise before := by rw [List.map_snd_zip (by lia)]; exact h
  exact List.pairwise_map.mp this
theorem start_rest {before : Value → Value → Prop} {b : Bool} {ks vs : List Value} (h : vs.Pairwise before) (hl : ks.length = vs.length) : Rest (bfK before b) (startA b ks vs) 1 (startA b ks vs).size := by
  have hp : (startA b ks vs).toList.Pairwise (bfK before b) := by
    rw [start_list]
    cases b with
    | false => exact zip_pairwise h hl
    | true =>
      show ((ks.zip vs).reverse).Pairwise _
      rw [List.pairwise_reverse]
      exact zip_pairwise h hl
  intro i j hij _ hj
  have hj' : j < (startA b ks vs).toList.length := by simpa using hj
  have := List.pairwise_iff_getElem.mp hp i j (by lia) hj' hij
  unfold E
  rw [Array.getElem?_eq_getElem (by lia : i < (startA b ks vs).size), Array.getElem?_eq_getElem hj]
  simpa using this
theorem sort_out {cv : Value → Value → Bool} {before : Value → Value → Prop} {b : Bool} {ks vs : List Value} {xs : Array Keyed} (hl : ks.length = vs.length) (hp : xs.Perm (startA b ks vs)) (hu : Up (cmpK cv) (bfK before b) xs xs.size) :
    Sorted cv before b vs (if b then (xs.map (·.2)).reverse else xs.map (·.2)).toList := by
  have p1 : xs.toList.Perm (ks.zip vs) := by
    have := Array.perm_iff_toList_perm.mp hp
    rw [start_list] at this
    split at this
    · exact this.trans (List.reverse_perm _)
    · exact this
  have p2 : (xs.toList.map Prod.snd).Perm vs := by
    have := p1.map Prod.snd
    rwa [List.map_snd_zip (by lia)] at this
  have s1 : xs.toList.Pairwise (RR (cmpK cv) (bfK before b)) := by
    rw [List.pairwise_iff_getElem]
    intro i j hi hj hij
    have hi' : i < xs.size := by simpa using hi
    have hj' : j < xs.size := by simpa using hj
    have := hu i j hij hj'
    unfold E at this
    rw [Array.getElem?_eq_getElem hi', Array.getElem?_eq_getElem hj'] at this
    simpa using this
  cases b with
  | false =>
    simp only [Bool.false_eq_true, if_false, Array.toList_map]
    exact ⟨p2, List.pairwise_map.mpr s1⟩
  | true =>
    simp only [if_true, Array.toList_reverse, Array.toList_map]
    refine ⟨(List.reverse_perm _).trans p2, ?_⟩
    rw [List.pairwise_reverse]
    exact List.pairwise_map.mpr s1
theorem slt_asymm {a b : Str} : slt a b = true → slt b a = false := by
  unfold slt
  simp only [decide_eq_true_eq, decide_eq_false_iff_not]
  exact fun h h2 => List.lt_irrefl _ (List.lt_trans h h2)
theorem slt_ntrans {a b c : Str} : slt a b = false → slt b c = false → slt a c = false := by
  unfold slt
  simp only [decide_eq_false_iff_not, List.not_lt]
  exact fun h1 h2 => List.le_trans h2 h1
/-! ## with a key -/
theorem kind_of_strs {ks : List Value} {ss : List Str} (hk : StrsAre ks ss) (h2 : 2 ≤ ks.length) : keyKind' ks.toArray = Pure.pure oneType' := by
  match ks, h2, hk with
  | v₁ :: v₂ :: r, _, hk => exact keyKind_strs hk
noncomputable def KsAre (kf : Value → Str) : List Value → List Value → Prop
  | [], [] => True
  | k :: ks, v :: vs => (∃ t, k = .str (kf v) t) ∧ KsAre kf ks vs
  | _, _ => False
theorem KsAre.len {kf : Value → Str} : ∀ {ks vs : List Value}, KsAre kf ks vs → ks.length = vs.length
  | [], [], _ => rfl
  | k :: ks, v :: vs, h => by simp [KsAre.len h.2]
theorem KsAre.snoc {kf : Value → Str} {x : Value} {t : Tok} : ∀ {ks vs : List Value}, KsAre kf ks vs → KsAre kf (ks ++ [.str (kf x) t]) (vs ++ [x])
  | [], [], _ => ⟨⟨t, rfl⟩, trivial⟩
  | k :: ks, v :: vs, h => ⟨h.1, KsAre.snoc h.2⟩
theorem KsAre.strs {kf : Value → Str} : ∀ {ks vs : List Value}, KsAre kf ks vs → StrsAre ks (vs.map kf)
  | [], [], _ => .nil
  | k :: ks, v :: vs, h => by obtain ⟨⟨t, rfl⟩, h2⟩ := h; exact .cons _ t (KsAre.strs h2)
theorem KsAre.mem {kf : Value → Str} : ∀ {ks vs : List Value}, KsAre kf ks vs → ∀ p ∈ ks.zip vs, ∃ t, p.1 = .str (kf p.2) t
  | [], [], _, p, hp => by cases hp
  | k :: ks, v :: vs, h, p, hp => by
    rcases List.mem_cons.mp hp with rfl | hp
    · exact h.1
    · exact KsAre.mem h.2 p hp
theorem ltOk_strs {kf : Value → Str} {b : Bool} {ks vs : List Value} {s : Shared} (h : KsAre kf ks vs) : LtOk prog w A s (startA b ks vs) oneType' (cmpK fun x y => slt (kf x) (kf y)) := fun x hx y hy Q Ex hq => by
  obtain ⟨t, e1⟩ := h.mem _ (start_mem hx)
  obtain ⟨u, e2⟩ := h.mem _ (start_mem hy)
  rw [keyLt'_oneType, e1, e2]
  exact oneLt_str hq
theorem WP.fold {body : Value → PUnit → Sem (ForInStep PUnit)} {Q : PUnit → St → Prop} (I : List Value → St → Prop) : ∀ (vs done : List Value) (σ : St), I done σ →
    (∀ pre x σ', pre ++ [x] <+: done ++ vs → done <+: pre → I pre σ' → WP prog w c A (body x ⟨⟩) (fun r σ'' => r = .yield ⟨⟩ ∧ I (pre ++ [x]) σ'') σ') →
    (∀ σ', I (done ++ vs) σ' → Q ⟨⟩ σ') → WP prog w c A (forIn vs PUnit.unit body) Q σ
  | [], done, σ, hI, _, fin => by
    rw [List.forIn_nil]
    exact WP.pure (fin σ (by simpa using hI))
  | x :: vs, done, σ, hI, step, fin => by
    rw [List.forIn_cons]
    refine WP.bind ((step done x σ ⟨vs, by simp⟩ ⟨[], by simp⟩ hI).mono fun r σ' ⟨e, hI'⟩ => ?_)
    subst e
    refine WP.fold I vs (done ++ [x]) σ' hI' (fun pre y σ'' hp hd hJ => ?_) fun σ'' hq => fin σ'' (by simpa using hq)
    exact step pre y σ'' (by simpa using hp) (List.IsPrefix.trans ⟨[x], rfl⟩ hd) hJ
set_option maxRecDepth 100000 in
theorem sort_key {kv : Value} {a : Addr} {b : Bool} {vs : List Value} {kf : Value → Str} {P : Value → Prop} {D₀ : Addr → Option AO} {du dd : Nat} {before : Value → Value → Prop} {Q : PySem.Fin → St → Prop} (hK : KeyOk prog w c.hb kv D₀ kf P du dd)
    (hh : A.handled = none) (hg : A.guards = some []) (hu : A.units + du < cLine) (hd : A.depth + dd < recursionLimit) (hP : ∀ v ∈ vs, P v)
    (hD : ∀ a x, D₀ a = some x → σ.D a = some x) (ha : D₀ a = none) (hl : σ.D a = some (.list vs)) (hbf : vs.Pairwise before) (h64 : vs.length < 64)
    (h : ∀ out D', Sorted (fun x y => slt (kf x) (kf y)) before b vs out → (∀ a x, D₀ a = some x → D' a = some x) → D' a = some (.list out) → Q (.done (.ret .none)) ⟨σ.v, D'⟩) :
    WP prog w c A (ksk_tree a kv b) Q σ := by
  refine WP.exact hl fun n => ?_
  unfold ksk_tree
  refine WP.bind (WP.itemsX upd_self ?_)
  refine WP.bind (WP.updX (ws := []) upd_self rfl (by lia) (by simp) fun n1 => ?_)
  refine WP.bind (WP.epoch upd_self ?_)
  refine WP.bind (WP.newTuple (by simp; lia) fun T hT => ?_)
  refine WP.bind (WP.newList (by simp) fun kS hS => ?_)
  refine WP.holding ?_
  unfold ksk_rest
  refine WP.bind (WP.rule ?_)
  rw [List.forIn_toArray]
  dsimp only [St.put] at hT hS ⊢
  have haT : a ≠ T := hT.ne upd_self
  have haS : a ≠ kS := hS.ne ((upd_ne haT).trans upd_self)
  have nS : D₀ kS = none := by
    cases q : D₀ kS with
    | none => rfl
    | some x =>
      have e1 := hD _ _ q
      have : upd (upd (upd σ.D a (lstX vs n)) a (lstX [] n1)) T (.tuple vs.toArray.toList) kS = none := hS.d
      have hTS : kS ≠ T := fun e => by rw [e, upd_self] at this; cases this
      rw [upd_ne hTS, upd_ne haS.symm, upd_ne haS.symm, e1] at this
      cases this
  have nT : D₀ T = none := by
    cases q : D₀ T with
    | none => rfl
    | some x =>
      have e1 := hD _ _ q
      have : upd (upd σ.D a (lstX vs n)) a (lstX [] n1) T = none := hT.d
      rw [upd_ne haT.symm, upd_ne haT.symm, e1] at this
      cases this
  refine WP.bind (WP.fold (fun pre σ' => ∃ ks, σ'.v = σ.v ∧ KsAre kf ks pre ∧ σ'.D kS = some (.list ks) ∧ σ'.D a = some (lstX [] n1) ∧ ∀ b x, D₀ b = some x → σ'.D b = some x) vs [] _ ⟨[], rfl, trivial, upd_self, (upd_ne haS).trans ((upd_ne haT).trans upd_self), fun b x e => ?_⟩ ?step ?fin)
  · have h1 : b ≠ kS := fun q => by rw [q, nS] at e; cases e
    have h2 : b ≠ T := fun q => by rw [q, nT] at e; cases e
    have h3 : b ≠ a := fun q => by rw [q, ha] at e; cases e
    dsimp only
    rw [upd_ne h1, upd_ne h2, upd_ne h3, upd_ne h3]
    exact hD _ _ e
  case step =>
    rintro pre x σ' hpre _ ⟨ks, hv, hks, hS', hA', hD'⟩
    have hx : x ∈ vs := by
      have : pre ++ [x] <+: vs := by simpa using hpre
      exact this.subset (by simp)
    have hlen : pre.length ≤ vs.length := by
      have : pre ++ [x] <+: vs := by simpa using hpre
      have := this.length_le
      simp at this; lia
    refine WP.bind (WP.attempt (hK _ _ _ _ _ rfl hD' (hP _ hx) hu hd hg hh fun t => ?_))
    dsimp only
    refine WP.bind (WP.updL (ws := ks ++ [.str (kf x) t]) hS' (by simp) (by rw [hks.len]; lia) (by simp; rw [hks.len]; lia) (WP.pure ⟨rfl, _, hv, hks.snoc, upd_self, (upd_ne haS).trans hA', fun b y e => (upd_ne fun q => by rw [q, nS] at e; cases e).trans (hD' b y e)⟩))
  case fin =>
    rintro σ' ⟨ks, hv, hks, hS', hA', hD'⟩
    rw [List.nil_append] at hks
    have hkl := hks.len
    refine WP.bind (WP.items hS' ?_)
    unfold ksk_end
    dsimp only
    have step : ∀ t : Sem PySem.Fin, WP prog w c A t Q σ' → WP prog w c A (if b = true then (do let _ ← PySem.rule "list.sort.reverse"; t) else t) Q σ' := by
      intro t ht
      split
      · exact WP.bind (WP.rule ht)
      · exact ht
    refine step _ ?_
    have last : ∀ (st : SortSt), (arrOf st).Perm (startA b ks vs) → failedOf st = none → Up (cmpK fun x y => slt (kf x) (kf y)) (bfK before b) (arrOf st) (arrOf st).size → WP prog w c A (ksk_tail a b n1 (.ref kS) st) Q σ' := by
      intro st hp hf hup
      have hsz : (arrOf st).size = vs.length := by rw [hp.size_eq, start_size hkl]
      unfold ksk_tail
      dsimp only
      refine WP.bind (WP.updL (ws := []) hS' rfl (by lia) (by simp) ?_)
      refine WP.bind (WP.letGo ?_)
      refine WP.bind (WP.epoch ((upd_ne haS).trans hA') ?_)
      refine WP.bind (WP.updX (ws := (if b then ((arrOf st).map (·.2)).reverse else (arrOf st).map (·.2)).toList) ((upd_ne haS).trans hA') (by simp) (by simp) (by split <;> simp <;> lia) fun n2 => ?_)
      rw [hf]
      simp only [bne_self_eq_false, Bool.false_eq_true, if_false]
      refine WP.inexact upd_self (WP.pure ?_)
      have := h _ (upd (upd (upd σ'.D kS (.list [])) a (lstX (if b then ((arrOf st).map (·.2)).reverse else (arrOf st).map (·.2)).toList n2)) a (.list (if b then ((arrOf st).map (·.2)).reverse else (arrOf st).map (·.2)).toList)) (sort_out hkl hp hup) (fun d x e => by
        rw [upd_ne (fun q => by rw [q, ha] at e; cases e), upd_ne (fun q => by rw [q, ha] at e; cases e), upd_ne (fun q => by rw [q, nS] at e; cases e)]
        exact hD' _ _ e) upd_self
      rw [← hv] at this
      exact this
    by_cases h2 : vs.toArray.size < 2
    · rw [if_pos h2, if_pos h2]
      refine WP.bind (WP.pure ?_)
      rw [StateT.run_pure]
      refine WP.bind (WP.pure (last _ (Array.Perm.refl _) rfl fun i j hij hj => ?_))
      have : (startA b ks vs).size < 2 := by rw [start_size hkl]; simpa using h2
      have hj' : j < (startA b ks vs).size := hj
      lia
    · rw [if_neg h2, if_neg h2]
      have h2' : 2 ≤ vs.length := by simp at h2; lia
      rw [kind_of_strs hks.strs (by lia)]
      refine WP.bind (WP.pure ?_)
      refine WP.bind (WP.runs (a₀ := startA b ks vs) (cmp := cmpK fun x y => slt (kf x) (kf y)) (bf := bfK before b) (start_cmp ⟨fun x _ y _ => ?_, fun x _ y _ z _ => ?_⟩) (fun s _ => ltOk_strs hks) ⟨Array.Perm.refl _, rfl, rfl, rfl⟩ (start_rest hbf hkl) (by rw [start_size hkl]; lia) (by rw [start_size hkl]; lia) fun st' hp hf hup => ?_)
      · exact slt_asymm
      · exact slt_ntrans
      · rw [← hp.size_eq] at hup
        exact last st' hp hf hup
end Mine
end
section
open PySem PyProof.Rows
namespace Mine
set_option compiler.extract_closed false
local macro_rules | `(tactic| walk_at "ix") => `(tactic| repeat (first | with_reducible exact IxAt.here | with_reducible apply IxAt.there))
local macro_rules | `(tactic| walk_at "py") => `(tactic| first
  | with_reducible (first
    | refine WP.execs_cons ?_
    | refine WP.execs_nil ?_
    | refine WP.assign (by walk_at "ix") ?_
    | refine WP.ifs ?_
    | refine WP.ret ?_
    | refine WP.assignSub ?_
    | refine WP.expr ?_
    | refine WP.fors ?_
    | refine WP.brk ?_
    | refine WP.cont ?_
    | refine WP.tryElse ?_
    | refine WP.name (by walk_at "ix") (by with_unfolding_all rfl) ?_
    | (refine WP.int ?_; intro _)
    | refine WP.cnone ?_
    | refine WP.cbool ?_
    | refine WP.ifexp ?_
    | refine WP.sub ?_
    | refine WP.binop ?_
    | refine WP.call0 ?_
    | refine WP.listD ?_
    | refine WP.tupleD ?_
    | refine ⟨CallOk.b, ?_⟩
    | refine ⟨CallOk.t, ?_⟩
    | refine EvL.cons ?_
    | refine EvL.nil ?_
    | refine WP.tcmp ?_
    | refine WP.tnot ?_
    | refine WP.tand ?_
    | refine WP.tor ?_
    | (refine WP.cstr ?_; intro _)
    | refine WP.truthy ?_
    | refine WP.lt ?_
    | refine WP.gt ?_
    | refine WP.cmp ?_
    | refine WP.ne ?_
    | refine WP.le ?_
    | refine WP.eq ?_
    | refine WP.ge ?_
    | refine WP.isNone ?_
    | refine WP.isNotSelf ?_
    | (refine WP.subI ?_; intro _)
    | (refine WP.addI ?_; intro _)
    | refine WP.lotName ?_
    | refine WP.asgName (by walk_at "ix") ?_
    | refine ifF ?_
    | refine ifT ?_
    | refine ifNF ?_
    | refine ifNT ?_)
  | (show WP _ _ _ _ _ _ _; dsimp only [seqK, St.set, St.put, List.set])
  | (show WP _ _ _ _ _ _ _; dsimp only [St.set, St.put, List.set]))
local macro_rules | `(tactic| walk_at "go") => `(tactic| repeat (walk_at "py"))
section
open PySem PyProof.Rows
section
noncomputable def sdown (lt : Ent → Ent → Bool) (x : Ent) (start : Nat) : Nat → List Ent → Nat → List Ent
  | 0, es, pos => es.set pos x
  | n + 1, es, pos => if start < pos then (match es[(pos - 1) / 2]? with
      | some p => if lt p x then sdown lt x start n (es.set pos p) ((pos - 1) / 2) else es.set pos x
      | none => es.set pos x) else es.set pos x
theorem sdown_succ {lt : Ent → Ent → Bool} {x : Ent} {st n : Nat} {es : List Ent} {pos : Nat} : sdown lt x st (n + 1) es pos = if st < pos then (match es[(pos - 1) / 2]? with
      | some p => if lt p x then sdown lt x st n (es.set pos p) ((pos - 1) / 2) else es.set pos x
      | none => es.set pos x) else es.set pos x := rfl
/-- of two entries with one order there is one -/
noncomputable def Inj (es : List Ent) : Prop := ∀ x ∈ es, ∀ y ∈ es, x.i = y.i → x = y
@[reducible] noncomputable def nmSD : List Str := ["heap", "startpos", "pos", "newitem", "parentpos", "parent"]
theorem sd_body {w : World} {c : Cf} {A : Around} {l : Addr} {es : List Ent} {st ps : Nat} {t u : Tok} {D : Addr → Option AO} {Q : Flow → St → Prop}
   (hl : D l = some (.list (es.map Ent.ref))) (he : Ents D es) (hps : ps < es.length) (hsz : es.length < 1000) (hj : Inj es) (hu : A.units < cLine)
   (h : ∀ v, Q .next ⟨v, upd D l (.list ((sdown elt (es[ps]'hps) st es.length es ps).map Ent.ref))⟩)
   : WP prg w (c.nm nmSD) A (execs (bodyAt 10) c.env) Q ⟨[some (.ref l), some (.int st t), some (.int ps u), none, none, none], D⟩ := by
  refine WP.execs_cons ?_
  walk_at "go"
  refine WP.itemN hl (ent_at hps) (by lia) ?_
  walk_at "go"
  generalize hx : es[ps]'hps = x at h ⊢
  have hxm : x ∈ es := hx ▸ List.getElem_mem hps
  have hne : ∀ e ∈ es, e.a ≠ l := fun e hm q => by have := he e hm; rw [q, hl] at this; cases this
  let I : Nat → St → Prop := fun n σ => ∃ es' u' pp par k, σ = ⟨[some (.ref l), some (.int st t), some (.int (n : Nat) u'), some x.ref, pp, par], upd D l (.list (es'.map Ent.ref))⟩ ∧ es'.length = es.length ∧ n < es.length ∧ (∀ e ∈ es', e ∈ es) ∧
    n ≤ k ∧ sdown elt x st k es' n = sdown elt x st es.length es ps
  refine WP.whiles I ?turn ps ⟨es, u, none, none, es.length, ?_, rfl, hps, fun _ h => h, by lia, rfl⟩
  case turn =>
    rintro n σ ⟨es', u', pp, par, k, rfl, hle, hpl, hsub, hk, hfin⟩
    have tail : sdown elt x st k es' n = es'.set n x → ∀ pp par, seqK prg w (c.nm nmSD) A ((bodyAt 10).drop 2) Q .next ⟨[some (.ref l), some (.int st t), some (.int (n : Nat) u'), some x.ref, pp, par], upd D l (.list (es'.map Ent.ref))⟩ := fun e pp par => by
      refine WP.execs_cons ?_
      walk_at "go"
      refine WP.setItem upd_self (by simp; lia) (by lia) ?_
      try (refine WP.execs_nil ?_)
      show Q .next ⟨_, upd (upd D l (.list (es'.map Ent.ref))) l (.list ((es'.map Ent.ref).set n x.ref))⟩
      rw [upd_upd, ← List.map_set, ← e, hfin]; exact h _
    walk_at "go"
    by_cases hlt : st < n
    · rw [decide_eq_true (by lia), if_pos rfl]
      obtain ⟨k', rfl⟩ : ∃ k', k = k' + 1 := ⟨k - 1, by lia⟩
      have hp2 : (n - 1) / 2 < es'.length := by lia
      rw [sdown_succ, if_pos hlt, List.getElem?_eq_getElem hp2] at hfin tail
      dsimp only at hfin tail
      walk_at "go"
      refine WP.shr1 (by lia) fun _ => ?_
      walk_at "go"
      have hpp : ((n : Int) - 1) / 2 = (((n - 1) / 2 : Nat) : Int) := by lia
      rw [hpp]
      refine WP.itemN upd_self (ent_at hp2) (by lia) ?_
      walk_at "go"
      generalize hp : es'[(n - 1) / 2]'hp2 = p at hfin tail ⊢
      have hpm : p ∈ es := hsub _ (hp ▸ List.getElem_mem hp2)
      refine WP.tlt hu ((upd_ne (hne _ hpm)).trans (he _ hpm)) ((upd_ne (hne _ hxm)).trans (he _ hxm)) (fun _ q => by rw [hj _ hpm _ hxm q]) ?_
      walk_at "go"
      cases hc : elt p x with
      | true =>
        rw [hc] at hfin tail
        rw [if_pos rfl] at hfin ⊢
        walk_at "go"
        refine WP.setItem upd_self (by simp; lia) (by lia) ?_
        walk_at "go"
        refine ⟨(n - 1) / 2, by lia, es'.set n p, _, _, _, k', by rw [upd_upd, ← List.map_set], by simp [hle], by lia, ?_, by lia, hfin⟩
        intro e hm
        rcases List.mem_or_eq_of_mem_set hm with hm | rfl
        · exact hsub _ hm
        · exact hpm
      | false =>
        rw [hc] at hfin tail
        rw [if_neg (by decide)]
        try (refine WP.execs_nil ?_)
        walk_at "go"
        exact tail (by simp) _ _
    · rw [decide_eq_false (by lia), if_neg (by decide)]
      refine tail ?_ _ _
      cases k with
      | zero => rfl
      | succ k => rw [sdown_succ, if_neg hlt]
  · rw [upd_same hl]
end
section
theorem shSD : Shape 10 ["heap", "startpos", "pos"] ["newitem", "parentpos", "parent"] := ⟨by decide +kernel, by decide +kernel, by decide +kernel, by decide +kernel, rfl, rfl, rfl⟩
theorem sd_call {w : World} {c : Cf} {A : Around} {σ : St} {f l : Addr} {es : List Ent} {st ps : Nat} {t u : Tok} {Q : Value → St → Prop} (hf : FnOk c.hb 10 "_siftdown_max" f .none) (hlim : c.hb.NoLimit)
   (hl : σ.D l = some (.list (es.map Ent.ref))) (he : Ents σ.D es) (hps : ps < es.length) (hsz : es.length < 1000) (hj : Inj es) (hu : A.units + 3 < cLine) (hroom : A.depth < recursionLimit)
   (h : Q .none ⟨σ.v, upd σ.D l (.list ((sdown elt (es[ps]'hps) st es.length es ps).map Ent.ref))⟩) :
   WP prg w c A (call (.ref f) [.ref l, .int st t, .int ps u]) Q σ := by
  refine hf.go hlim hroom shSD (vals' := [.ref l, .int st t, .int ps u]) rfl (fun _ _ _ => by with_unfolding_all rfl) fun c' _ _ => ?_
  exact sd_body hl he hps hsz hj hu fun v => h
end
end
section
open PySem PyProof.Rows
section
open Srt
variable {prog : Program} {w : World} {c : Cf} {A : Around} {σ : St}
theorem WP.collect {l : Addr} {vs : List Value} {Q : List Value → St → Prop} (hl : σ.D l = some (.list vs)) (hz : vs.length ≤ 100000) (h : Q vs σ) : WP prog w c A (collect (.ref l)) Q σ := fun s hs =>
  collect_list (hs.isList hl) ⟨σ, hs.grown fun b o e => by
    have hlt : b < s.heap.objs.size := Heap.lt_size e
    rw [Heap.get?_update_other _ _ (Nat.ne_of_gt hlt)]
    exact Heap.get?_push_of_some _ e, h⟩ (by rw [sizeLine_eq]; lia)
theorem WP.callSlotKw {T : String} {name : Str} {id : String} {b : Builtin} {self : Value} {rest : List Value} {kw : List (Str × Value)} {Q : Value → St → Prop} (sl : Slot T name id) (hT : ∀ s, Abs c σ s → s.TypeIs self T) (hb : entryFor table id = some b)
    (ha : argsOk id ⟨self :: rest, kw⟩) (h : WP prog w c A.in1 (b ⟨self :: rest, kw⟩) (fun fin σ' => ∃ v, fin = .done (.ret v) ∧ Q v σ') σ) : WP prog w c A (call (.builtin id) (self :: rest) kw) Q σ := fun s hs =>
  wpAny_call_entry_kw sl (hT s hs) hb (wpAny_mono (h s hs) (fun fin s' ⟨σ', a', v, e, q⟩ => ⟨v, e, σ', a', q⟩) fun _ _ e => e) ha
/-- sorted(xs, key=f) and sorted(xs, key=f, reverse=True) -/
theorem WP.sortedKey {kv : Value} {l : Addr} {b : Bool} {kw : List (Str × Value)} {vs : List Value} {kf : Value → Str} {P : Value → Prop} {D₀ : Addr → Option AO} {du dd : Nat} {before : Value → Value → Prop} {Q : Value → St → Prop} (hK : KeyOk prog w c.hb kv D₀ kf P du dd)
    (ha1 : argsOk "sorted" ⟨[.ref l], kw⟩) (ha2 : ∀ x, argsOk "list.sort" ⟨[.ref x], kw⟩) (ht : ∀ x, Builtin.«list.sort» ⟨[.ref x], kw⟩ = ksk_tree x kv b)
    (hh : A.handled = none) (hg : A.guards = some []) (hu : A.units + 2 + du < cLine) (hd : A.depth + dd < recursionLimit) (hP : ∀ v ∈ vs, P v)
    (hD : ∀ a x, D₀ a = some x → σ.D a = some x) (hl : σ.D l = some (.list vs)) (hbf : vs.Pairwise before) (h64 : vs.length < 64)
    (h : ∀ a out D', New c σ a → Sorted (fun x y => slt (kf x) (kf y)) before b vs out → (∀ a x, D₀ a = some x → D' a = some x) → D' a = some (.list out) → D₀ a = none → Q (.ref a) ⟨σ.v, D'⟩) :
    WP prog w c A (call (.builtin "sorted") [.ref l] kw) Q σ := by
  refine WP.callB kind_sorted plain_sorted entry_sorted ha1 ?_
  unfold Builtin.«sorted»
  refine WP.bind (m := checkCount "sorted" 1 1 _) (WP.pure ?_)
  refine WP.bind (WP.collect hl (by lia) ?_)
  refine WP.bind (WP.newList (by lia) fun a ha => ?_)
  have na : D₀ a = none := by
    cases q : D₀ a with
    | none => rfl
    | some x => have := hD _ _ q; rw [ha.d] at this; cases this
  refine WP.bind (WP.holding (WP.callSlotKw slot_list_sort (fun s hs => (hs.isList upd_self).typeIs) entry_list_sort (ha2 _) ?_))
  show WP prog w c A.in1.in1 (Builtin.«list.sort» ⟨[.ref a], kw⟩) _ _
  rw [ht]
  refine sort_key (before := before) hK hh hg (by show A.units + 1 + 1 + du < cLine; lia) hd hP (fun b x e => (upd_ne fun q => by rw [q, na] at e; cases e).trans (hD b x e)) na upd_self hbf h64 fun out D' ho hD' ha' => ⟨_, rfl, ?_⟩
  exact WP.pure (h a out D' ha ho hD' ha' na)
/-! ## tuples -/
theorem elt_asymm {x y : Ent} : elt x y = true → elt y x = false := by
  unfold elt
  by_cases h : x.k = y.k
  · rw [if_pos h, if_pos h.symm]; simp; lia
  · rw [if_neg h, if_neg (Ne.symm h)]; exact slt_asymm
theorem slt_total {a b : Str} (h : a ≠ b) : slt a b = false → slt b a = true := by
  unfold slt
  simp only [decide_eq_true_eq, decide_eq_false_iff_not, List.not_lt]
  intro h1
  by_cases h2 : b.cps.toList < a.cps.toList
  · exact h2
  · have e := List.le_antisymm h1 (List.not_lt.mp h2)
    exact absurd (by cases a; cases b; simp at e; simp [e]) h
theorem elt_total {x y : Ent} (h : x.i ≠ y.i) : elt x y = false → elt y x = true := by
  unfold elt
  by_cases hk : x.k = y.k
  · rw [if_pos hk, if_pos hk.symm]; simp; lia
  · rw [if_neg hk, if_neg (Ne.symm hk)]; exact slt_total hk
theorem elt_trans {x y z : Ent} : elt x y = true → elt y z = true → elt x z = true := by
  unfold elt
  by_cases h1 : x.k = y.k <;> by_cases h2 : y.k = z.k
  · rw [if_pos h1, if_pos h2, if_pos (h1.trans h2)]; simp; lia
  · rw [if_pos h1, if_neg h2, if_neg (fun e => h2 (h1.symm.trans e)), h1]; exact fun _ h => h
  · rw [if_neg h1, if_pos h2, if_neg (fun e => h1 (e.trans h2.symm)), ← h2]; exact fun h _ => h
  · rw [if_neg h1, if_neg h2]
    intro a b
    have hlt : slt x.k z.k = true := by
      unfold slt at *
      simp only [decide_eq_true_eq] at *
      exact List.lt_trans a b
    have : x.k ≠ z.k := fun e => by rw [e] at hlt; have := slt_asymm hlt; rw [hlt] at this; cases this
    rw [if_neg this]; exact hlt
theorem elt_ntrans {x y z : Ent} (hy : x.i ≠ y.i ∨ x = y) (hz : y.i ≠ z.i ∨ y = z) : elt x y = false → elt y z = false → elt x z = false := by
  intro h1 h2
  rcases hy with hy | rfl
  · rcases hz with hz | rfl
    · exact elt_asymm (elt_trans (elt_total hz h2) (elt_total hy h1))
    · exact h1
  · exact h2
noncomputable def entOf (es : List Ent) (v : Value) : Ent := (es.find? fun e => decide (e.ref = v)).getD ⟨0, ⟨#[]⟩, 0, 0, 0, .none⟩
theorem Ents.inj {D : Addr → Option AO} {es : List Ent} (h : Ents D es) {x y : Ent} (hx : x ∈ es) (hy : y ∈ es) (e : x.a = y.a) : x = y := by
  have h1 := h x hx
  have h2 := h y hy
  rw [e, h2] at h1
  obtain ⟨a1, k1, t1, i1, u1, e1⟩ := x
  obtain ⟨a2, k2, t2, i2, u2, e2⟩ := y
  simp [Ent.tup] at h1 e
  obtain ⟨⟨r1, r2⟩, ⟨r3, r4⟩, r5⟩ := h1
  subst r1; subst r2; subst r3; subst r4; subst r5; subst e
  rfl
theorem entOf_ref {D : Addr → Option AO} {es : List Ent} (h : Ents D es) {x : Ent} (hx : x ∈ es) : entOf es x.ref = x := by
  unfold entOf
  cases q : es.find? fun e => decide (e.ref = x.ref) with
  | none => exact absurd (List.find?_eq_none.mp q x hx) (by simp)
  | some y =>
    have h1 := List.find?_some q
    have h2 := List.mem_of_find?_eq_some q
    simp at h1
    exact h.inj h2 hx h1
theorem ents_tups {es : List Ent} {s : Shared} (hs : Abs c σ s) (he : Ents σ.D es) : PySem.W.KatTups s.heap (es.map Ent.ref) (es.map fun e => .str e.k e.t) := by
  induction es with
  | nil => exact .nil
  | cons e r ih =>
    obtain ⟨o, n, e1, c1, d1⟩ := hs.tup (he e (.head _))
    exact .cons e1 c1 d1 rfl (ih fun x hx => he x (.tail _ hx))
abbrev tupK : SortKind := tuples' (Value.type "str" != Value.type "tuple")
theorem ltOk_tups {es : List Ent} {b : Bool} {s : Shared} (hs : Abs c σ s) (he : Ents σ.D es) (hj : Inj es) : LtOk prog w A s (startA b (es.map Ent.ref) (es.map Ent.ref)) tupK (cmpK fun x y => elt (entOf es x) (entOf es y)) := fun p hp q hq Q Ex hQ => by
  obtain ⟨p1, p2⟩ := mem_zip_self (start_mem hp)
  obtain ⟨q1, q2⟩ := mem_zip_self (start_mem hq)
  obtain ⟨x, hx, ex⟩ := List.mem_map.mp p2
  obtain ⟨y, hy, ey⟩ := List.mem_map.mp q2
  have hQ' : Q (elt x y) s := by
    have : cmpK (fun x y => elt (entOf es x) (entOf es y)) p q = elt x y := by
      show elt (entOf es p.2) (entOf es q.2) = _
      rw [← p1, ← q1, ← ex, ← ey, entOf_ref he hx, entOf_ref he hy]
    rw [this] at hQ
    exact hQ
  rw [← ex, ← ey]
  obtain ⟨ox, n, e1, c1, d1⟩ := hs.tup (he x hx)
  obtain ⟨oy, m, e2, c2, d2⟩ := hs.tup (he y hy)
  refine PySem.W.kat_lt e1 d1 e2 d2 ?_
  show PySem.W.KatLex prog w A _ _ Q [(.str x.k x.t, .str y.k y.t), (.int x.i x.u, .int y.i y.u), (x.e, y.e)] 0 s
  refine PySem.W.kat_cons (wpAny_eqBool_str ?_)
  by_cases hk : x.k = y.k
  · rw [decide_eq_true hk]
    refine PySem.W.kat_yes (PySem.W.kat_cons (wpAny_eqBool_int ?_))
    by_cases hi : x.i = y.i
    · rw [show (x.i == y.i) = true from beq_iff_eq.mpr hi]
      have exy := hj _ hx _ hy hi
      subst exy
      refine PySem.W.kat_yes (PySem.W.kat_cons (eqBool_self (PySem.W.kat_yes (PySem.W.kat_nil ?_))))
      have e : elt x x = false := by unfold elt; simp
      rw [e] at hQ'
      simpa using hQ'
    · rw [show (x.i == y.i) = false from beq_false_of_ne hi]
      refine PySem.W.kat_no (PySem.W.kat_one _ _ (lt_int ?_))
      have e : elt x y = decide (x.i < y.i) := by unfold elt; rw [if_pos hk]
      rw [e] at hQ'
      exact hQ'
  · rw [decide_eq_false hk]
    refine PySem.W.kat_no (oneLt_str ?_)
    have e : elt x y = slt x.k y.k := by unfold elt; rw [if_neg hk]
    rw [e] at hQ'
    exact hQ'
noncomputable def ESorted (b : Bool) (es es' : List Ent) : Prop := es'.Perm es ∧ es'.Pairwise fun x y => if b then elt y x = true else elt x y = true
theorem ent_sorted {D : Addr → Option AO} {es : List Ent} {b : Bool} {out : List Value} (he : Ents D es) (hj : Inj es) (hn : es.Nodup) (h : Sorted (fun x y => elt (entOf es x) (entOf es y)) (fun x y => x ≠ y) b (es.map Ent.ref) out) :
    ∃ es', ESorted b es es' ∧ out = es'.map Ent.ref := by
  have hm : ∀ v ∈ out, v ∈ es.map Ent.ref := fun v hv => h.1.mem_iff.mp hv
  refine ⟨out.map (entOf es), ⟨?_, ?_⟩, ?_⟩
  · have := h.1.map (entOf es)
    rw [List.map_map] at this
    have e2 : es.map (entOf es ∘ Ent.ref) = es := by
      conv => rhs; rw [← List.map_id es]
      exact List.map_congr_left fun e hm => entOf_ref he hm
    rwa [e2] at this
  · rw [List.pairwise_map]
    refine List.Pairwise.imp_of_mem ?_ h.2
    intro x y hx hy hxy
    obtain ⟨ex, mx, rfl⟩ := List.mem_map.mp (hm x hx)
    obtain ⟨ey, my, rfl⟩ := List.mem_map.mp (hm y hy)
    unfold SL at hxy
    dsimp only at hxy
    rw [entOf_ref he mx, entOf_ref he my] at hxy ⊢
    have ne : ex.ref ≠ ey.ref → ex.i ≠ ey.i := fun q q2 => q (by rw [hj _ mx _ my q2])
    cases b with
    | false =>
      simp only [Bool.false_eq_true, if_false] at hxy ⊢
      rcases hxy with q | ⟨q1, q2⟩
      · exact q
      · exact elt_total (ne q2).symm q1
    | true =>
      simp only [if_true] at hxy ⊢
      rcases hxy with q | ⟨q1, q2⟩
      · exact q
      · exact elt_total (ne q2) q1
  · rw [List.map_map]
    conv => lhs; rw [← List.map_id out]
    refine List.map_congr_left fun v hv => ?_
    obtain ⟨e, me, rfl⟩ := List.mem_map.mp (hm v hv)
    show e.ref = (entOf es e.ref).ref
    rw [entOf_ref he me]
noncomputable def tupTree (a : Addr) (b : Bool) : Sem PySem.Fin := do
  let items ← Builtin.List.listItems (.ref a)
  Builtin.List.listUpdate (.ref a) fun _ => #[]
  let before ← seqEpoch a
  let held ← newTuple items.toList
  let keyStore ← newList []
  holding [held, keyStore] do
    if b then rule "list.sort.reverse"
    let kind ← if items.size < 2 then pure general' else keyKind' items
    let ((), s) ← (if items.size < 2 then pure () else sortRuns').run (SortSt.mk' kind (if b then (items.zip items).reverse else items.zip items) #[] 7 none)
    let sorted := (arrOf s).map (·.2)
    let touched := (← seqEpoch a) != before
    Builtin.List.listUpdate (.ref a) fun _ => if b then sorted.reverse else sorted
    if let some e := failedOf s then rule "list.sort.comparison-raised"; throw e
    if touched then rule "list.sort.modified"; raiseError "ValueError" "list modified during sort"
    ret .none
theorem tupTree_rev (a : Addr) (b : Bool) : Builtin.«list.sort» ⟨[.ref a], [(Str.ofString "reverse", .bool b)]⟩ = tupTree a b := list_sort_rev a b
theorem tupTree_plain (a : Addr) : Builtin.«list.sort» ⟨[.ref a], []⟩ = tupTree a false := list_sort_plain a
set_option maxRecDepth 100000 in
theorem sort_tups {a : Addr} {b : Bool} {es : List Ent} {Q : PySem.Fin → St → Prop} (hl : σ.D a = some (.list (es.map Ent.ref))) (he : Ents σ.D es) (hj : Inj es) (hn : es.Nodup) (h64 : es.length < 64)
    (h : ∀ es', ESorted b es es' → Q (.done (.ret .none)) ⟨σ.v, upd σ.D a (.list (es'.map Ent.ref))⟩) : WP prog w c A (tupTree a b) Q σ := by
  refine WP.weaken ?_
  have hlen : (es.map Ent.ref).length = es.length := List.length_map ..
  have hne : ∀ e ∈ es, e.a ≠ a := fun e hm q => by have := he e hm; rw [q, hl] at this; cases this
  generalize hvs : es.map Ent.ref = vs at hl hlen
  refine WP.exact hl fun n => ?_
  unfold tupTree
  refine WP.bind (WP.itemsX upd_self ?_)
  refine WP.bind (WP.updX (ws := []) upd_self rfl (by lia) (by simp) fun n1 => ?_)
  refine WP.bind (WP.epoch upd_self ?_)
  refine WP.bind (WP.newTuple (by simp; lia) fun T hT => ?_)
  refine WP.bind (WP.newList (by simp) fun kS hS => ?_)
  refine WP.holding ?_
  dsimp only [St.put] at hT hS ⊢
  have haT : a ≠ T := hT.ne upd_self
  have haS : a ≠ kS := hS.ne ((upd_ne haT).trans upd_self)
  have dT : σ.D T = none := by have := hT.d; dsimp only at this; rwa [upd_ne haT.symm, upd_ne haT.symm] at this
  have hTS : kS ≠ T := fun e => by have := hS.d; dsimp only at this; rw [e, upd_self] at this; cases this
  have dS : σ.D kS = none := by have := hS.d; dsimp only at this; rwa [upd_ne hTS, upd_ne haS.symm, upd_ne haS.symm] at this
  have keep : ∀ d x, d ≠ a → σ.D d = some x → upd (upd (upd (upd σ.D a (lstX vs n)) a (lstX [] n1)) T (.tuple vs)) kS (.list []) d = some x := fun d x hd e => by
    rw [upd_ne (fun q => by rw [q, dS] at e; cases e), upd_ne (fun q => by rw [q, dT] at e; cases e), upd_ne hd, upd_ne hd]; exact e
  have he' : Ents (upd (upd (upd (upd σ.D a (lstX vs n)) a (lstX [] n1)) T (.tuple vs)) kS (.list [])) es := fun e hm => keep _ _ (hne _ hm) (he e hm)
  have hA : upd (upd (upd (upd σ.D a (lstX vs n)) a (lstX [] n1)) T (.tuple vs)) kS (.list []) a = some (lstX [] n1) := (upd_ne haS).trans ((upd_ne haT).trans upd_self)
  have step : ∀ (t : Sem PySem.Fin) (Q' : PySem.Fin → St → Prop) (σ' : St), WP prog w c A t Q' σ' → WP prog w c A (if b = true then (do let _ ← PySem.rule "list.sort.reverse"; t) else t) Q' σ' := by
    intro t Q' σ' ht
    split
    · exact WP.bind (WP.rule ht)
    · exact ht
  refine step _ _ _ ?_
  have nd : vs.Pairwise (fun x y => x ≠ y) := by
    rw [← hvs, List.pairwise_map]
    exact List.Pairwise.imp_of_mem (fun {x y} hx hy hxy q => hxy (he.inj hx hy (by simpa using q))) hn
  have cvok : CvOk (fun x y => elt (entOf es x) (entOf es y)) vs := by
    have mem : ∀ v ∈ vs, entOf es v ∈ es := fun v hv => by
      rw [← hvs] at hv
      obtain ⟨e, me, rfl⟩ := List.mem_map.mp hv
      rw [entOf_ref he me]; exact me
    refine ⟨fun x _ y _ => elt_asymm, fun x hx y hy z hz => elt_ntrans ?_ ?_⟩
    · by_cases q : (entOf es x).i = (entOf es y).i
      · exact .inr (hj _ (mem _ hx) _ (mem _ hy) q)
      · exact .inl q
    · by_cases q : (entOf es y).i = (entOf es z).i
      · exact .inr (hj _ (mem _ hy) _ (mem _ hz) q)
      · exact .inl q
  have last : ∀ (st : SortSt), (arrOf st).Perm (startA b vs vs) → failedOf st = none → Up (cmpK fun x y => elt (entOf es x) (entOf es y)) (bfK (fun x y => x ≠ y) b) (arrOf st) (arrOf st).size →
      WP prog w c A (do
        let sorted := (arrOf st).map (·.2)
        let touched := (← seqEpoch a) != n1
        Builtin.List.listUpdate (.ref a) fun _ => if b then sorted.reverse else sorted
        if let some e := failedOf st then PySem.rule "list.sort.comparison-raised"; throw e
        if touched then PySem.rule "list.sort.modified"; raiseError "ValueError" "list modified during sort"
        PySem.ret .none) (fun v σ' => ∃ D', (∀ a x, D' a = some x → σ'.D a = some x) ∧ Q v ⟨σ'.v, D'⟩) ⟨σ.v, upd (upd (upd (upd σ.D a (lstX vs n)) a (lstX [] n1)) T (.tuple vs)) kS (.list [])⟩ := by
    intro st hp hf hup
    have hsz : (arrOf st).size = vs.length := by rw [hp.size_eq, start_size rfl]
    dsimp only
    refine WP.bind (WP.epoch hA ?_)
    refine WP.bind (WP.updX (ws := (if b then ((arrOf st).map (·.2)).reverse else (arrOf st).map (·.2)).toList) hA (by simp) (by simp) (by split <;> simp <;> lia) fun n2 => ?_)
    rw [hf]
    simp only [bne_self_eq_false, Bool.false_eq_true, if_false]
    have so := sort_out (cv := fun x y => elt (entOf es x) (entOf es y)) (before := fun x y => x ≠ y) (b := b) (ks := vs) (vs := vs) rfl hp hup
    obtain ⟨es', hes', eo⟩ := ent_sorted he hj hn (hvs ▸ so)
    refine WP.inexact upd_self (WP.pure ⟨_, ?_, h es' hes'⟩)
    intro d x e
    show upd (upd (upd (upd (upd (upd σ.D a (lstX vs n)) a (lstX [] n1)) T (.tuple vs)) kS (.list [])) a _) a _ d = some x
    by_cases hda : d = a
    · subst hda
      rw [upd_self] at e ⊢
      rw [eo]; exact e
    · rw [upd_ne hda] at e
      rw [upd_ne hda, upd_ne hda]
      exact keep d x hda e
  by_cases h2 : vs.toArray.size < 2
  · rw [if_pos h2, if_pos h2]
    refine WP.bind (WP.pure ?_)
    rw [StateT.run_pure]
    refine WP.bind (WP.pure (last (SortSt.mk' general' (startA b vs vs) #[] 7 none) (Array.Perm.refl _) rfl fun i j hij hj => ?_))
    have : (startA b vs vs).size < 2 := by rw [start_size rfl]; simpa using h2
    have hj' : j < (startA b vs vs).size := hj
    lia
  · rw [if_neg h2, if_neg h2]
    have h2' : 2 ≤ vs.length := by simp at h2; lia
    have kd : ∀ {Q' : SortKind → St → Prop} {σ' : St}, Ents σ'.D es → Q' tupK σ' → WP prog w c A (keyKind' vs.toArray) Q' σ' := fun {Q' σ'} hE hq s hs => by
      rw [← hvs]
      exact PySem.W.kat_kind (T := .type "str") (ents_tups hs hE) (by rw [List.length_map]; rw [← hvs] at h2'; simp at h2'; lia) (fun v hv => by
        obtain ⟨e, _, rfl⟩ := List.mem_map.mp hv
        exact PySem.W.Looks.of_pure rfl) rfl ⟨σ', hs, hq⟩
    refine WP.bind (kd he' ?_)
    refine WP.bind (WP.runs (a₀ := startA b vs vs) (κ := tupK) (cmp := cmpK fun x y => elt (entOf es x) (entOf es y)) (bf := bfK (fun x y => x ≠ y) b) (start_cmp cvok) (fun s hs => hvs ▸ ltOk_tups hs he' hj) ⟨Array.Perm.refl _, rfl, rfl, rfl⟩ (start_rest nd rfl) (by rw [start_size rfl]; lia) (by rw [start_size rfl]; lia) fun st' hp hf hup => ?_)
    rw [← hp.size_eq] at hup
    exact last st' hp hf hup
end
end
section
open PySem PyProof.Rows
section
noncomputable def sup (lt : Ent → Ent → Bool) : Nat → List Ent → Nat → List Ent × Nat
  | 0, es, pos => (es, pos)
  | n + 1, es, pos => match es[2 * pos + 1]? with
    | none => (es, pos)
    | some c => match es[2 * pos + 2]? with
      | none => sup lt n (es.set pos c) (2 * pos + 1)
      | some r => if lt r c then sup lt n (es.set pos c) (2 * pos + 1) else sup lt n (es.set pos r) (2 * pos + 2)
noncomputable def siftup (lt : Ent → Ent → Bool) (es : List Ent) (pos : Nat) : List Ent := match es[pos]? with
  | none => es
  | some x => sdown lt x pos es.length ((sup lt es.length es pos).1.set (sup lt es.length es pos).2 x) (sup lt es.length es pos).2
theorem sup_none {lt : Ent → Ent → Bool} {es : List Ent} {pos : Nat} (h : es.length ≤ 2 * pos + 1) : ∀ {n}, sup lt n es pos = (es, pos)
  | 0 => rfl
  | n + 1 => by
    show (match es[2 * pos + 1]? with | none => (es, pos) | some c => _) = _
    rw [List.getElem?_eq_none h]
theorem sup_one {lt : Ent → Ent → Bool} {es : List Ent} {pos n : Nat} {c : Ent} (h1 : es[2 * pos + 1]? = some c) (h2 : es.length ≤ 2 * pos + 2) : sup lt (n + 1) es pos = sup lt n (es.set pos c) (2 * pos + 1) := by
  show (match es[2 * pos + 1]? with | none => (es, pos) | some c => _) = _
  rw [h1]
  dsimp only
  rw [List.getElem?_eq_none h2]
theorem sup_two {lt : Ent → Ent → Bool} {es : List Ent} {pos n : Nat} {c r : Ent} (h1 : es[2 * pos + 1]? = some c) (h2 : es[2 * pos + 2]? = some r) :
    sup lt (n + 1) es pos = if lt r c then sup lt n (es.set pos c) (2 * pos + 1) else sup lt n (es.set pos r) (2 * pos + 2) := by
  show (match es[2 * pos + 1]? with | none => (es, pos) | some c => _) = _
  rw [h1]
  dsimp only
  rw [h2]
theorem Ents.upd {D : Addr → Option AO} {es es' : List Ent} {l : Addr} {y : AO} (h : Ents D es) (hs : ∀ e ∈ es', e ∈ es) (hne : ∀ e ∈ es, e.a ≠ l) : Ents (upd D l y) es' :=
  fun e hm => (upd_ne (hne _ (hs _ hm))).trans (h _ (hs _ hm))
theorem sub_set {es es' : List Ent} {n : Nat} {x : Ent} (h : ∀ e ∈ es', e ∈ es) (hx : x ∈ es) : ∀ e ∈ es'.set n x, e ∈ es := fun e hm => by
  rcases List.mem_or_eq_of_mem_set hm with hm | rfl
  · exact h _ hm
  · exact hx
@[reducible] noncomputable def nmSU : List Str := ["heap", "pos", "endpos", "startpos", "newitem", "childpos", "rightpos"]
theorem su_body {w : World} {c : Cf} {A : Around} {f l : Addr} {es : List Ent} {ps : Nat} {u : Tok} {D : Addr → Option AO} {Q : Flow → St → Prop}
   (hlen : GNm c.hb "len" (.builtin "len")) (hf : FnOk c.hb 10 "_siftdown_max" f .none) (hlim : c.hb.NoLimit) (hsc : c.env.scope = scopeAt 11)
   (hl : D l = some (.list (es.map Ent.ref))) (he : Ents D es) (hps : ps < es.length) (hsz : es.length < 1000) (hj : Inj es) (hu : A.units + 3 < cLine) (hroom : A.depth < recursionLimit)
   (h : ∀ v, Q .next ⟨v, upd D l (.list ((siftup elt es ps).map Ent.ref))⟩)
   : WP prg w (c.nm nmSU) A (execs (bodyAt 11) c.env) Q ⟨[some (.ref l), some (.int ps u), none, none, none, none, none], D⟩ := by
  refine WP.execs_cons ?_
  walk_at "go"
  refine WP.gname hlen (by show c.env.scope.names.lookup _ = _; rw [hsc]; rfl) (by decide) ?_
  walk_at "go"
  refine WP.len hl (by simp; lia) fun _ => ?_
  walk_at "go"
  refine WP.itemN hl (ent_at hps) (by lia) ?_
  walk_at "go"
  refine WP.mulI (fun _ => ?_) (by mul_fits)
  walk_at "go"
  have h' : ∀ v, Q .next ⟨v, upd D l (.list ((sdown elt (es[ps]'hps) ps es.length ((sup elt es.length es ps).1.set (sup elt es.length es ps).2 (es[ps]'hps)) (sup elt es.length es ps).2).map Ent.ref))⟩ := fun v => by
    have := h v
    unfold siftup at this
    rw [List.getElem?_eq_getElem hps] at this
    exact this
  generalize hx : es[ps]'hps = x at h' ⊢
  have hxm : x ∈ es := hx ▸ List.getElem_mem hps
  have hne : ∀ e ∈ es, e.a ≠ l := fun e hm q => by have := he e hm; rw [q, hl] at this; cases this
  rw [List.length_map]
  let I : Nat → St → Prop := fun n σ => ∃ es' pos u' uc ue rp k, σ = ⟨[some (.ref l), some (.int (pos : Nat) u'), some (.int (es.length : Nat) ue), some (.int ps u), some x.ref, some (.int (2 * (pos : Nat) + 1) uc), rp], upd D l (.list (es'.map Ent.ref))⟩ ∧
    es'.length = es.length ∧ pos < es.length ∧ (∀ e ∈ es', e ∈ es) ∧ n = es.length - pos ∧ n ≤ k ∧ sup elt k es' pos = sup elt es.length es ps
  refine WP.whiles I ?turn (es.length - ps)
    ⟨es, ps, u, _, _, none, es.length, by rw [upd_same hl], rfl, hps, fun _ h => h, rfl, by lia, rfl⟩
  rintro n σ ⟨es', pos, u', uc, ue, rp, k, rfl, hle, hpl, hsub, hn, hk, hfin⟩
  walk_at "go"
  by_cases hlt : 2 * pos + 1 < es.length
  · rw [decide_eq_true (by lia), if_pos rfl]
    obtain ⟨k', rfl⟩ : ∃ k', k = k' + 1 := ⟨k - 1, by lia⟩
    have hc1 : 2 * pos + 1 < es'.length := by lia
    have hcm : es'[2 * pos + 1] ∈ es := hsub _ (List.getElem_mem hc1)
    have e1 : (2 * (pos : Int) + 1) = ((2 * pos + 1 : Nat) : Int) := by lia
    have e2 : (((2 * pos + 1 : Nat) : Int) + 1) = ((2 * pos + 2 : Nat) : Int) := by lia
    rw [e1]
    walk_at "go"
    rw [e2]
    walk_at "go"
    have last : ∀ (q : Nat) (hq : q < es'.length) (hpq : pos < q) (tq : Tok) rp, sup elt k' (es'.set pos es'[q]) q = sup elt es.length es ps →
        WP prg w (c.nm nmSU) A (execs (((bodyAt 11).drop 4).head?.elim [] fun st => match st with | .While _ b _ _ => b.drop 2 | _ => []) c.env)
          (fun f σ₃ => match f with
            | .next | .cont => ∃ m, m < n ∧ ∃ es' pos u' uc ue rp k, σ₃ = ⟨[some (.ref l), some (.int (pos : Nat) u'), some (.int (es.length : Nat) ue), some (.int ps u), some x.ref, some (.int (2 * (pos : Nat) + 1) uc), rp], upd D l (.list (es'.map Ent.ref))⟩ ∧
                es'.length = es.length ∧ pos < es.length ∧ (∀ e ∈ es', e ∈ es) ∧ m = es.length - pos ∧ m ≤ k ∧ sup elt k es' pos = sup elt es.length es ps
            | .brk => seqK prg w (c.nm nmSU) A ((bodyAt 11).drop 5) Q .next σ₃
            | .ret v => seqK prg w (c.nm nmSU) A ((bodyAt 11).drop 5) Q (.ret v) σ₃)
          ⟨[some (.ref l), some (.int (pos : Nat) u'), some (.int (es.length : Nat) ue), some (.int ps u), some x.ref, some (.int (q : Nat) tq), rp], upd D l (.list (es'.map Ent.ref))⟩ := by
      intro q hq hpq tq rp hfin'
      refine WP.execs_cons ?_
      walk_at "go"
      refine WP.itemN upd_self (ent_at hq) (by lia) ?_
      walk_at "go"
      refine WP.setItem upd_self (by simp; lia) (by lia) ?_
      walk_at "go"
      refine WP.mulI (fun _ => ?_) (by mul_fits)
      walk_at "go"
      try (refine WP.execs_nil ?_)
      try dsimp only [St.set, St.put, List.set]
      refine ⟨es.length - q, by lia, es'.set pos es'[q], q, _, _, _, _, k', by rw [upd_upd, ← List.map_set], by simp [hle], by lia, sub_set hsub (hsub _ (List.getElem_mem hq)), rfl, by lia, hfin'⟩
    by_cases hr : 2 * pos + 2 < es.length
    · rw [decide_eq_true (by lia), if_pos rfl]
      have hr1 : 2 * pos + 2 < es'.length := by lia
      have hrm : es'[2 * pos + 2] ∈ es := hsub _ (List.getElem_mem hr1)
      rw [sup_two (List.getElem?_eq_getElem hc1) (List.getElem?_eq_getElem hr1)] at hfin
      walk_at "go"
      refine WP.itemN upd_self (ent_at hr1) (by lia) ?_
      walk_at "go"
      refine WP.itemN upd_self (ent_at hc1) (by lia) ?_
      refine WP.tlt (by lia) ((upd_ne (hne _ hrm)).trans (he _ hrm)) ((upd_ne (hne _ hcm)).trans (he _ hcm)) (fun _ q => by rw [hj _ hrm _ hcm q]) ?_
      walk_at "go"
      cases hc : elt es'[2 * pos + 2] es'[2 * pos + 1] with
      | true =>
        rw [hc] at hfin
        rw [if_neg (by decide)]
        try (refine WP.execs_nil ?_)
        exact last _ hc1 (by lia) _ _ hfin
      | false =>
        rw [hc] at hfin
        rw [if_pos (by decide)]
        refine WP.execs_cons ?_
        refine WP.assign (by walk_at "ix") ?_
        refine WP.name (by walk_at "ix") (by with_unfolding_all rfl) ?_
        dsimp only [seqK, St.set, List.set]
        try (refine WP.execs_nil ?_)
        exact last _ hr1 (by lia) _ _ hfin
    · rw [decide_eq_false (by lia), if_neg (by decide), if_neg (by decide)]
      try (refine WP.execs_nil ?_)
      rw [sup_one (List.getElem?_eq_getElem hc1) (by lia)] at hfin
      exact last _ hc1 (by lia) _ _ hfin
  · rw [decide_eq_false (by lia), if_neg (by decide)]
    rw [sup_none (by lia)] at hfin
    rw [← hfin] at h'
    refine WP.execs_cons ?_
    walk_at "go"
    refine WP.setItem upd_self (by simp; lia) (by lia) ?_
    walk_at "go"
    refine WP.gname hf.1 (by show c.env.scope.names.lookup _ = _; rw [hsc]; rfl) (by decide) ?_
    walk_at "go"
    refine ⟨FnOk.callOk (c := c.nm nmSU) hf, ?_⟩
    have hsub' := sub_set (n := pos) hsub hxm
    have hxp : pos < (es'.set pos x).length := by simp; lia
    refine sd_call (es := es'.set pos x) hf hlim (by rw [List.map_set]; exact upd_self) ?_ hxp (by simp; lia) (fun a ha b hb => hj a (hsub' _ ha) b (hsub' _ hb)) hu hroom ?_
    · show Ents (upd (upd D l _) l _) _
      rw [upd_upd]; exact he.upd hsub' hne
    · refine WP.execs_nil ?_
      dsimp only
      rw [upd_upd, upd_upd]
      have e3 : (es'.set pos x)[pos]'hxp = x := by simp
      have e4 : (es'.set pos x).length = es.length := by simp [hle]
      rw [e3, e4]
      exact h' _
theorem shSU : Shape 11 ["heap", "pos"] ["endpos", "startpos", "newitem", "childpos", "rightpos"] := ⟨by decide +kernel, by decide +kernel, by decide +kernel, by decide +kernel, rfl, rfl, rfl⟩
theorem su_call {w : World} {c : Cf} {A : Around} {σ : St} {f g l : Addr} {es : List Ent} {ps : Nat} {u : Tok} {Q : Value → St → Prop} (hlen : GNm c.hb "len" (.builtin "len")) (hg : FnOk c.hb 10 "_siftdown_max" g .none)
   (hf : FnOk c.hb 11 "_siftup_max" f .none) (hlim : c.hb.NoLimit)
   (hl : σ.D l = some (.list (es.map Ent.ref))) (he : Ents σ.D es) (hps : ps < es.length) (hsz : es.length < 1000) (hj : Inj es) (hu : A.units + 6 < cLine) (hroom : A.depth + 1 < recursionLimit)
   (h : Q .none ⟨σ.v, upd σ.D l (.list ((siftup elt es ps).map Ent.ref))⟩) :
   WP prg w c A (call (.ref f) [.ref l, .int ps u]) Q σ := by
  refine hf.go hlim (by lia) shSU (vals' := [.ref l, .int ps u]) rfl (fun _ _ _ => by with_unfolding_all rfl) fun c' h1 h2 => ?_
  rw [← h2] at hlen hg hlim
  exact su_body hlen hg hlim h1 hl he hps hsz hj hu hroom fun v => h
end
section
theorem sdown_len {lt : Ent → Ent → Bool} {x : Ent} {st : Nat} : ∀ {n : Nat} {es : List Ent} {pos : Nat}, (sdown lt x st n es pos).length = es.length
  | 0, es, pos => by simp [sdown]
  | n + 1, es, pos => by
    rw [sdown_succ]
    split
    · split
      · split
        · rw [sdown_len]; simp
        · simp
      · simp
    · simp
theorem sdown_mem {lt : Ent → Ent → Bool} {x : Ent} {st : Nat} {all : List Ent} (hx : x ∈ all) : ∀ {n : Nat} {es : List Ent} {pos : Nat}, (∀ e ∈ es, e ∈ all) → ∀ e ∈ sdown lt x st n es pos, e ∈ all
  | 0, es, pos, h => sub_set h hx
  | n + 1, es, pos, h => by
    rw [sdown_succ]
    split
    · split
      · rename_i p hp
        split
        · exact sdown_mem hx (sub_set h (h _ (List.mem_of_getElem? hp)))
        · exact sub_set h hx
      · exact sub_set h hx
    · exact sub_set h hx
theorem sup_len {lt : Ent → Ent → Bool} : ∀ {n : Nat} {es : List Ent} {pos : Nat}, (sup lt n es pos).1.length = es.length
  | 0, es, pos => rfl
  | n + 1, es, pos => by
    unfold sup
    split
    · rfl
    · split
      · rw [sup_len]; simp
      · split <;> (rw [sup_len]; simp)
theorem sup_mem {lt : Ent → Ent → Bool} {all : List Ent} : ∀ {n : Nat} {es : List Ent} {pos : Nat}, (∀ e ∈ es, e ∈ all) → ∀ e ∈ (sup lt n es pos).1, e ∈ all
  | 0, es, pos, h => h
  | n + 1, es, pos, h => by
    unfold sup
    split
    · exact h
    · rename_i c hc
      split
      · exact sup_mem (sub_set h (h _ (List.mem_of_getElem? hc)))
      · rename_i r hr
        split
        · exact sup_mem (sub_set h (h _ (List.mem_of_getElem? hc)))
        · exact sup_mem (sub_set h (h _ (List.mem_of_getElem? hr)))
theorem siftup_len {lt : Ent → Ent → Bool} {es : List Ent} {pos : Nat} : (siftup lt es pos).length = es.length := by
  unfold siftup
  split
  · rfl
  · rw [sdown_len, List.length_set, sup_len]
theorem siftup_mem {lt : Ent → Ent → Bool} {es : List Ent} {pos : Nat} : ∀ e ∈ siftup lt es pos, e ∈ es := by
  unfold siftup
  split
  · exact fun _ h => h
  · rename_i x hx
    have hxm := List.mem_of_getElem? hx
    exact sdown_mem hxm (sub_set (sup_mem fun _ h => h) hxm)
noncomputable def heapifyF (lt : Ent → Ent → Bool) : Nat → List Ent → List Ent
  | 0, es => es
  | n + 1, es => heapifyF lt n (siftup lt es n)
end
end
section
open PySem PyProof.Rows
section
/-- what the heap's functions want of the top -/
structure TopH (hb : Heap) : Prop where
  lim : hb.NoLimit
  len : GNm hb "len" (.builtin "len")
  range : GNm hb "range" (.type "range")
  reversed : GNm hb "reversed" (.type "reversed")
  sdmax : ∃ f, FnOk hb 10 "_siftdown_max" f .none
  sumax : ∃ f, FnOk hb 11 "_siftup_max" f .none
  hymax : ∃ f, FnOk hb 7 "_heapify_max" f .none
  hrmax : ∃ f, FnOk hb 6 "_heapreplace_max" f .none
theorem WP.fdiv2 {prog : Program} {w : World} {c : Cf} {A : Around} {σ : St} {a : Nat} {t u : Tok} {Q : Value → St → Prop} (ha : a < 10000) (h : ∀ t', Q (.int ((a / 2 : Nat) : Int) t') σ) : WP prog w c A (binaryOp .FloorDiv (.int (a : Int) t) (.int 2 u)) Q σ := fun s hs => by
  refine AutoIntOps.floordiv_1 (by decide) (by rw [PyProof.noPylong_small (by lia)]; decide) ?_
  have e : (a : Int).fdiv 2 = ((a / 2 : Nat) : Int) := by
    rw [Int.fdiv_eq_ediv_of_nonneg _ (by decide)]; lia
  rw [e]
  exact ⟨σ, hs.tok _, h _⟩
@[reducible] noncomputable def nmHY : List Str := ["x", "n", "i"]
theorem hy_body {w : World} {c : Cf} {A : Around} {l : Addr} {es : List Ent} {D : Addr → Option AO} {Q : Flow → St → Prop}
   (T : TopH c.hb) (hsc : c.env.scope = scopeAt 7)
   (hl : D l = some (.list (es.map Ent.ref))) (he : Ents D es) (hsz : es.length < 1000) (hj : Inj es) (hu : A.units + 6 < cLine) (hroom : A.depth + 1 < recursionLimit) (hh : A.handled = none)
   (h : ∀ v, Q .next ⟨v, upd D l (.list ((heapifyF elt (es.length / 2) es).map Ent.ref))⟩)
   : WP prg w (c.nm nmHY) A (execs (bodyAt 7) c.env) Q ⟨[some (.ref l), none, none], D⟩ := by
  obtain ⟨f1, hf1⟩ := T.sdmax
  obtain ⟨f2, hf2⟩ := T.sumax
  refine WP.weaken ?_
  refine WP.execs_cons ?_
  walk_at "go"
  refine WP.gname T.len (by show c.env.scope.names.lookup _ = _; rw [hsc]; rfl) (by decide) ?_
  walk_at "go"
  refine WP.len hl (by simp; lia) fun _ => ?_
  walk_at "go"
  refine WP.gname T.reversed (by show c.env.scope.names.lookup _ = _; rw [hsc]; rfl) (by decide) ?_
  walk_at "go"
  refine WP.gname T.range (by show c.env.scope.names.lookup _ = _; rw [hsc]; rfl) (by decide) ?_
  walk_at "go"
  rw [List.length_map]
  refine WP.fdiv2 (by lia) fun _ => ?_
  walk_at "go"
  refine WP.range1 fun r _ _ hr => ?_
  walk_at "go"
  refine WP.reversedRange upd_self (revOk (by lia)) fun i hi => ?_
  walk_at "go"
  refine WP.iterRit upd_self ?_
  have hsize : Builtin.Range.rangeSize 0 ((es.length / 2 : Nat) : Int) 1 = ((es.length / 2 : Nat) : Int) := by rw [rangeSize_one]; split <;> lia
  rw [hsize]
  have hri : r ≠ i := hi.ne upd_self
  have hlr : l ≠ r := hr.ne hl
  have hli : l ≠ i := hi.ne ((upd_ne hlr).trans hl)
  have hDi : D i = none := (upd_ne hri.symm).symm.trans hi.d
  have hne : ∀ e ∈ es, e.a ≠ l := fun e hm q => by have := he e hm; rw [q, hl] at this; cases this
  have hnei : ∀ e ∈ es, e.a ≠ i := fun e hm q => by have := he e hm; rw [q, hDi] at this; cases this
  refine WC.less (D' := upd (upd D l (.list (es.map Ent.ref))) i (ritO (((es.length / 2 : Nat) : Int) - 1) ((es.length / 2 : Nat) : Int) (-1))) ?_ (by
    rw [upd_same hl, Int.zero_add, Int.mul_one]
    exact le_upd (le_upd_new le_refl hr.d))
  refine WC.forLoop (fun n σ => ∃ es' iv, σ = ⟨[some (.ref l), some (.int (es.length : Nat) _), iv], upd (upd D l (.list (es'.map Ent.ref))) i (ritO ((n : Int) - 1) (n : Int) (-1))⟩ ∧ es'.length = es.length ∧ n ≤ es.length / 2 ∧ (∀ e ∈ es', e ∈ es) ∧
    heapifyF elt n es' = heapifyF elt (es.length / 2) es) ?turn (es.length / 2) ⟨es, none, rfl, rfl, by lia, fun _ h => h, rfl⟩
  rintro n σ ⟨es', iv, rfl, hle, hn, hsub, hfin⟩
  cases n with
  | zero =>
    refine WP.nextRangeEnd hh upd_self (by lia) ?_
    try (refine WP.execs_nil ?_)
    refine ⟨_, ?_, h _⟩
    dsimp only
    rw [← hfin, del_upd, del_none]
    · exact le_refl
    · rw [upd_ne hli.symm]; exact hDi
  | succ n =>
    refine WP.nextRange upd_self (by lia) fun _ => ?_
    walk_at "go"
    refine WP.gname hf2.1 (by show c.env.scope.names.lookup _ = _; rw [hsc]; rfl) (by decide) ?_
    walk_at "go"
    refine ⟨FnOk.callOk (c := c.nm nmHY) hf2, ?_⟩
    rw [upd_upd, show ((n + 1 : Nat) : Int) - 1 = ((n : Nat) : Int) by lia]
    refine su_call (es := es') T.len hf1 hf2 T.lim ((upd_ne hli).trans upd_self) (fun e hm => (upd_ne (hnei _ (hsub _ hm))).trans ((upd_ne (hne _ (hsub _ hm))).trans (he _ (hsub _ hm)))) (by lia) (by lia) (fun a ha b hb => hj a (hsub _ ha) b (hsub _ hb)) hu hroom ?_
    try (refine WP.execs_nil ?_)
    refine ⟨n, by lia, siftup elt es' n, _, by dsimp only; rw [upd_comm hli.symm, upd_upd]; rfl, by rw [siftup_len, hle], by lia, fun e hm => hsub _ (siftup_mem _ hm), hfin⟩
theorem shHY : Shape 7 ["x"] ["n", "i"] := ⟨by decide +kernel, by decide +kernel, by decide +kernel, by decide +kernel, rfl, rfl, rfl⟩
theorem hy_call {w : World} {c : Cf} {A : Around} {σ : St} {f l : Addr} {es : List Ent} {Q : Value → St → Prop} (T : TopH c.hb) (hf : FnOk c.hb 7 "_heapify_max" f .none)
   (hl : σ.D l = some (.list (es.map Ent.ref))) (he : Ents σ.D es) (hsz : es.length < 1000) (hj : Inj es) (hu : A.units + 9 < cLine) (hroom : A.depth + 2 < recursionLimit) (hh : A.handled = none)
   (h : Q .none ⟨σ.v, upd σ.D l (.list ((heapifyF elt (es.length / 2) es).map Ent.ref))⟩) :
   WP prg w c A (call (.ref f) [.ref l]) Q σ := by
  refine hf.go T.lim (by lia) shHY (vals' := [.ref l]) rfl (fun _ _ _ => by with_unfolding_all rfl) fun c' h1 h2 => ?_
  rw [← h2] at T
  exact hy_body T h1 hl he hsz hj hu hroom hh fun v => h
@[reducible] noncomputable def nmHR : List Str := ["heap", "item", "returnitem"]
theorem hr_body {w : World} {c : Cf} {A : Around} {l : Addr} {es : List Ent} {x : Ent} {D : Addr → Option AO} {Q : Flow → St → Prop}
   (T : TopH c.hb) (hsc : c.env.scope = scopeAt 6)
   (hl : D l = some (.list (es.map Ent.ref))) (he : Ents D es) (hx : D x.a = some x.tup) (h0 : 0 < es.length) (hsz : es.length < 1000) (hj : Inj (x :: es)) (hu : A.units + 6 < cLine) (hroom : A.depth + 1 < recursionLimit)
   (h : ∀ v r, Q (.ret r) ⟨v, upd D l (.list ((siftup elt (es.set 0 x) 0).map Ent.ref))⟩)
   : WP prg w (c.nm nmHR) A (execs (bodyAt 6) c.env) Q ⟨[some (.ref l), some x.ref, none], D⟩ := by
  obtain ⟨f1, hf1⟩ := T.sdmax
  obtain ⟨f2, hf2⟩ := T.sumax
  refine WP.execs_cons ?_
  walk_at "go"
  refine WP.itemN (k := 0) hl (ent_at h0) (by lia) ?_
  walk_at "go"
  refine WP.setItem (k := 0) hl (by simp; lia) (by lia) ?_
  walk_at "go"
  refine WP.gname hf2.1 (by show c.env.scope.names.lookup _ = _; rw [hsc]; rfl) (by decide) ?_
  walk_at "go"
  refine ⟨FnOk.callOk (c := c.nm nmHR) hf2, ?_⟩
  have hxl : x.a ≠ l := fun q => by rw [q, hl] at hx; cases hx
  have hne : ∀ e ∈ x :: es, e.a ≠ l := fun e hm q => by
    rcases List.mem_cons.mp hm with rfl | hm
    · exact hxl q
    · have := he e hm; rw [q, hl] at this; cases this
  have hsub : ∀ e ∈ es.set 0 x, e ∈ x :: es := sub_set (fun _ h => .tail _ h) (.head _)
  have he' : Ents D (x :: es) := fun e hm => by
    rcases List.mem_cons.mp hm with rfl | hm
    · exact hx
    · exact he e hm
  rw [← List.map_set]
  refine su_call (es := es.set 0 x) (ps := 0) T.len hf1 hf2 T.lim upd_self (he'.upd hsub hne) (by simp; lia) (by simp; lia) (fun a ha b hb => hj a (hsub _ ha) b (hsub _ hb)) hu hroom ?_
  dsimp only
  rw [upd_upd]
  walk_at "go"
  exact h _ _
theorem shHR : Shape 6 ["heap", "item"] ["returnitem"] := ⟨by decide +kernel, by decide +kernel, by decide +kernel, by decide +kernel, rfl, rfl, rfl⟩
theorem hr_call {w : World} {c : Cf} {A : Around} {σ : St} {f l : Addr} {es : List Ent} {x : Ent} {Q : Value → St → Prop} (T : TopH c.hb) (hf : FnOk c.hb 6 "_heapreplace_max" f .none)
   (hl : σ.D l = some (.list (es.map Ent.ref))) (he : Ents σ.D es) (hx : σ.D x.a = some x.tup) (h0 : 0 < es.length) (hsz : es.length < 1000) (hj : Inj (x :: es)) (hu : A.units + 9 < cLine) (hroom : A.depth + 2 < recursionLimit)
   (h : ∀ r, Q r ⟨σ.v, upd σ.D l (.list ((siftup elt (es.set 0 x) 0).map Ent.ref))⟩) :
   WP prg w c A (call (.ref f) [.ref l, x.ref]) Q σ := by
  refine hf.go T.lim (by lia) shHR (vals' := [.ref l, x.ref]) rfl (fun _ _ _ => by with_unfolding_all rfl) fun c' h1 h2 => ?_
  rw [← h2] at T
  exact hr_body T h1 hl he hx h0 hsz hj hu hroom fun v r => h r
end
end
section
open PySem PyProof.Rows
section
/-- the other way about -/
noncomputable def flt (x y : Ent) : Bool := elt y x
structure TopN (hb : Heap) : Prop where
  lim : hb.NoLimit
  len : GNm hb "len" (.builtin "len")
  range : GNm hb "range" (.type "range")
  reversed : GNm hb "reversed" (.type "reversed")
  sdmin : ∃ f, FnOk hb 8 "_siftdown" f .none
  sumin : ∃ f, FnOk hb 9 "_siftup" f .none
  hymin : ∃ f, FnOk hb 5 "heapify" f .none
  hrmin : ∃ f, FnOk hb 4 "heapreplace" f .none
theorem sd_bodyN {w : World} {c : Cf} {A : Around} {l : Addr} {es : List Ent} {st ps : Nat} {t u : Tok} {D : Addr → Option AO} {Q : Flow → St → Prop}
   (hl : D l = some (.list (es.map Ent.ref))) (he : Ents D es) (hps : ps < es.length) (hsz : es.length < 1000) (hj : Inj es) (hu : A.units < cLine)
   (h : ∀ v, Q .next ⟨v, upd D l (.list ((sdown flt (es[ps]'hps) st es.length es ps).map Ent.ref))⟩)
   : WP prg w (c.nm nmSD) A (execs (bodyAt 8) c.env) Q ⟨[some (.ref l), some (.int st t), some (.int ps u), none, none, none], D⟩ := by
  refine WP.execs_cons ?_
  walk_at "go"
  refine WP.itemN hl (ent_at hps) (by lia) ?_
  walk_at "go"
  generalize hx : es[ps]'hps = x at h ⊢
  have hxm : x ∈ es := hx ▸ List.getElem_mem hps
  have hne : ∀ e ∈ es, e.a ≠ l := fun e hm q => by have := he e hm; rw [q, hl] at this; cases this
  let I : Nat → St → Prop := fun n σ => ∃ es' u' pp par k, σ = ⟨[some (.ref l), some (.int st t), some (.int (n : Nat) u'), some x.ref, pp, par], upd D l (.list (es'.map Ent.ref))⟩ ∧ es'.length = es.length ∧ n < es.length ∧ (∀ e ∈ es', e ∈ es) ∧
    n ≤ k ∧ sdown flt x st k es' n = sdown flt x st es.length es ps
  refine WP.whiles I ?turn ps ⟨es, u, none, none, es.length, ?_, rfl, hps, fun _ h => h, by lia, rfl⟩
  case turn =>
    rintro n σ ⟨es', u', pp, par, k, rfl, hle, hpl, hsub, hk, hfin⟩
    have tail : sdown flt x st k es' n = es'.set n x → ∀ pp par, seqK prg w (c.nm nmSD) A ((bodyAt 8).drop 2) Q .next ⟨[some (.ref l), some (.int st t), some (.int (n : Nat) u'), some x.ref, pp, par], upd D l (.list (es'.map Ent.ref))⟩ := fun e pp par => by
      refine WP.execs_cons ?_
      walk_at "go"
      refine WP.setItem upd_self (by simp; lia) (by lia) ?_
      try (refine WP.execs_nil ?_)
      show Q .next ⟨_, upd (upd D l (.list (es'.map Ent.ref))) l (.list ((es'.map Ent.ref).set n x.ref))⟩
      rw [upd_upd, ← List.map_set, ← e, hfin]; exact h _
    walk_at "go"
    by_cases hlt : st < n
    · rw [decide_eq_true (by lia), if_pos rfl]
      obtain ⟨k', rfl⟩ : ∃ k', k = k' + 1 := ⟨k - 1, by lia⟩
      have hp2 : (n - 1) / 2 < es'.length := by lia
      rw [sdown_succ, if_pos hlt, List.getElem?_eq_getElem hp2] at hfin tail
      dsimp only at hfin tail
      walk_at "go"
      refine WP.shr1 (by lia) fun _ => ?_
      walk_at "go"
      have hpp : ((n : Int) - 1) / 2 = (((n - 1) / 2 : Nat) : Int) := by lia
      rw [hpp]
      refine WP.itemN upd_self (ent_at hp2) (by lia) ?_
      walk_at "go"
      generalize hp : es'[(n - 1) / 2]'hp2 = p at hfin tail ⊢
      have hpm : p ∈ es := hsub _ (hp ▸ List.getElem_mem hp2)
      refine WP.tlt hu ((upd_ne (hne _ hxm)).trans (he _ hxm)) ((upd_ne (hne _ hpm)).trans (he _ hpm)) (fun _ q => by rw [hj _ hxm _ hpm q]) ?_
      rw [show elt x p = flt p x from rfl]
      walk_at "go"
      cases hc : flt p x with
      | true =>
        rw [hc] at hfin tail
        rw [if_pos rfl] at hfin ⊢
        walk_at "go"
        refine WP.setItem upd_self (by simp; lia) (by lia) ?_
        walk_at "go"
        refine ⟨(n - 1) / 2, by lia, es'.set n p, _, _, _, k', by rw [upd_upd, ← List.map_set], by simp [hle], by lia, ?_, by lia, hfin⟩
        intro e hm
        rcases List.mem_or_eq_of_mem_set hm with hm | rfl
        · exact hsub _ hm
        · exact hpm
      | false =>
        rw [hc] at hfin tail
        rw [if_neg (by decide)]
        try (refine WP.execs_nil ?_)
        walk_at "go"
        exact tail (by simp) _ _
    · rw [decide_eq_false (by lia), if_neg (by decide)]
      refine tail ?_ _ _
      cases k with
      | zero => rfl
      | succ k => rw [sdown_succ, if_neg hlt]
  · rw [upd_same hl]
theorem shSDN : Shape 8 ["heap", "startpos", "pos"] ["newitem", "parentpos", "parent"] := ⟨by decide +kernel, by decide +kernel, by decide +kernel, by decide +kernel, rfl, rfl, rfl⟩
theorem sd_callN {w : World} {c : Cf} {A : Around} {σ : St} {f l : Addr} {es : List Ent} {st ps : Nat} {t u : Tok} {Q : Value → St → Prop} (hf : FnOk c.hb 8 "_siftdown" f .none) (hlim : c.hb.NoLimit)
   (hl : σ.D l = some (.list (es.map Ent.ref))) (he : Ents σ.D es) (hps : ps < es.length) (hsz : es.length < 1000) (hj : Inj es) (hu : A.units + 3 < cLine) (hroom : A.depth < recursionLimit)
   (h : Q .none ⟨σ.v, upd σ.D l (.list ((sdown flt (es[ps]'hps) st es.length es ps).map Ent.ref))⟩) :
   WP prg w c A (call (.ref f) [.ref l, .int st t, .int ps u]) Q σ := by
  refine hf.go hlim hroom shSDN (vals' := [.ref l, .int st t, .int ps u]) rfl (fun _ _ _ => by with_unfolding_all rfl) fun c' _ _ => ?_
  exact sd_bodyN hl he hps hsz hj hu fun v => h
theorem su_bodyN {w : World} {c : Cf} {A : Around} {f l : Addr} {es : List Ent} {ps : Nat} {u : Tok} {D : Addr → Option AO} {Q : Flow → St → Prop}
   (hlen : GNm c.hb "len" (.builtin "len")) (hf : FnOk c.hb 8 "_siftdown" f .none) (hlim : c.hb.NoLimit) (hsc : c.env.scope = scopeAt 9)
   (hl : D l = some (.list (es.map Ent.ref))) (he : Ents D es) (hps : ps < es.length) (hsz : es.length < 1000) (hj : Inj es) (hu : A.units + 3 < cLine) (hroom : A.depth < recursionLimit)
   (h : ∀ v, Q .next ⟨v, upd D l (.list ((siftup flt es ps).map Ent.ref))⟩)
   : WP prg w (c.nm nmSU) A (execs (bodyAt 9) c.env) Q ⟨[some (.ref l), some (.int ps u), none, none, none, none, none], D⟩ := by
  refine WP.execs_cons ?_
  walk_at "go"
  refine WP.gname hlen (by show c.env.scope.names.lookup _ = _; rw [hsc]; rfl) (by decide) ?_
  walk_at "go"
  refine WP.len hl (by simp; lia) fun _ => ?_
  walk_at "go"
  refine WP.itemN hl (ent_at hps) (by lia) ?_
  walk_at "go"
  refine WP.mulI (fun _ => ?_) (by mul_fits)
  walk_at "go"
  have h' : ∀ v, Q .next ⟨v, upd D l (.list ((sdown flt (es[ps]'hps) ps es.length ((sup flt es.length es ps).1.set (sup flt es.length es ps).2 (es[ps]'hps)) (sup flt es.length es ps).2).map Ent.ref))⟩ := fun v => by
    have := h v
    unfold siftup at this
    rw [List.getElem?_eq_getElem hps] at this
    exact this
  generalize hx : es[ps]'hps = x at h' ⊢
  have hxm : x ∈ es := hx ▸ List.getElem_mem hps
  have hne : ∀ e ∈ es, e.a ≠ l := fun e hm q => by have := he e hm; rw [q, hl] at this; cases this
  rw [List.length_map]
  let I : Nat → St → Prop := fun n σ => ∃ es' pos u' uc ue rp k, σ = ⟨[some (.ref l), some (.int (pos : Nat) u'), some (.int (es.length : Nat) ue), some (.int ps u), some x.ref, some (.int (2 * (pos : Nat) + 1) uc), rp], upd D l (.list (es'.map Ent.ref))⟩ ∧
    es'.length = es.length ∧ pos < es.length ∧ (∀ e ∈ es', e ∈ es) ∧ n = es.length - pos ∧ n ≤ k ∧ sup flt k es' pos = sup flt es.length es ps
  refine WP.whiles I ?turn (es.length - ps)
    ⟨es, ps, u, _, _, none, es.length, by rw [upd_same hl], rfl, hps, fun _ h => h, rfl, by lia, rfl⟩
  rintro n σ ⟨es', pos, u', uc, ue, rp, k, rfl, hle, hpl, hsub, hn, hk, hfin⟩
  walk_at "go"
  by_cases hlt : 2 * pos + 1 < es.length
  · rw [decide_eq_true (by lia), if_pos rfl]
    obtain ⟨k', rfl⟩ : ∃ k', k = k' + 1 := ⟨k - 1, by lia⟩
    have hc1 : 2 * pos + 1 < es'.length := by lia
    have hcm : es'[2 * pos + 1] ∈ es := hsub _ (List.getElem_mem hc1)
    have e1 : (2 * (pos : Int) + 1) = ((2 * pos + 1 : Nat) : Int) := by lia
    have e2 : (((2 * pos + 1 : Nat) : Int) + 1) = ((2 * pos + 2 : Nat) : Int) := by lia
    rw [e1]
    walk_at "go"
    rw [e2]
    walk_at "go"
    have last : ∀ (q : Nat) (hq : q < es'.length) (hpq : pos < q) (tq : Tok) rp, sup flt k' (es'.set pos es'[q]) q = sup flt es.length es ps →
        WP prg w (c.nm nmSU) A (execs (((bodyAt 9).drop 4).head?.elim [] fun st => match st with | .While _ b _ _ => b.drop 2 | _ => []) c.env)
          (fun f σ₃ => match f with
            | .next | .cont => ∃ m, m < n ∧ ∃ es' pos u' uc ue rp k, σ₃ = ⟨[some (.ref l), some (.int (pos : Nat) u'), some (.int (es.length : Nat) ue), some (.int ps u), some x.ref, some (.int (2 * (pos : Nat) + 1) uc), rp], upd D l (.list (es'.map Ent.ref))⟩ ∧
                es'.length = es.length ∧ pos < es.length ∧ (∀ e ∈ es', e ∈ es) ∧ m = es.length - pos ∧ m ≤ k ∧ sup flt k es' pos = sup flt es.length es ps
            | .brk => seqK prg w (c.nm nmSU) A ((bodyAt 9).drop 5) Q .next σ₃
            | .ret v => seqK prg w (c.nm nmSU) A ((bodyAt 9).drop 5) Q (.ret v) σ₃)
          ⟨[some (.ref l), some (.int (pos : Nat) u'), some (.int (es.length : Nat) ue), some (.int ps u), some x.ref, some (.int (q : Nat) tq), rp], upd D l (.list (es'.map Ent.ref))⟩ := by
      intro q hq hpq tq rp hfin'
      refine WP.execs_cons ?_
      walk_at "go"
      refine WP.itemN upd_self (ent_at hq) (by lia) ?_
      walk_at "go"
      refine WP.setItem upd_self (by simp; lia) (by lia) ?_
      walk_at "go"
      refine WP.mulI (fun _ => ?_) (by mul_fits)
      walk_at "go"
      try (refine WP.execs_nil ?_)
      try dsimp only [St.set, St.put, List.set]
      refine ⟨es.length - q, by lia, es'.set pos es'[q], q, _, _, _, _, k', by rw [upd_upd, ← List.map_set], by simp [hle], by lia, sub_set hsub (hsub _ (List.getElem_mem hq)), rfl, by lia, hfin'⟩
    by_cases hr : 2 * pos + 2 < es.length
    · rw [decide_eq_true (by lia), if_pos rfl]
      have hr1 : 2 * pos + 2 < es'.length := by lia
      have hrm : es'[2 * pos + 2] ∈ es := hsub _ (List.getElem_mem hr1)
      rw [sup_two (List.getElem?_eq_getElem hc1) (List.getElem?_eq_getElem hr1)] at hfin
      walk_at "go"
      refine WP.itemN upd_self (ent_at hc1) (by lia) ?_
      walk_at "go"
      refine WP.itemN upd_self (ent_at hr1) (by lia) ?_
      refine WP.tlt (by lia) ((upd_ne (hne _ hcm)).trans (he _ hcm)) ((upd_ne (hne _ hrm)).trans (he _ hrm)) (fun _ q => by rw [hj _ hcm _ hrm q]) ?_
      rw [show elt es'[2 * pos + 1] es'[2 * pos + 2] = flt es'[2 * pos + 2] es'[2 * pos + 1] from rfl]
      walk_at "go"
      cases hc : flt es'[2 * pos + 2] es'[2 * pos + 1] with
      | true =>
        rw [hc] at hfin
        rw [if_neg (by decide)]
        try (refine WP.execs_nil ?_)
        exact last _ hc1 (by lia) _ _ hfin
      | false =>
        rw [hc] at hfin
        rw [if_pos (by decide)]
        refine WP.execs_cons ?_
        refine WP.assign (by walk_at "ix") ?_
        refine WP.name (by walk_at "ix") (by with_unfolding_all rfl) ?_
        dsimp only [seqK, St.set, List.set]
        try (refine WP.execs_nil ?_)
        exact last _ hr1 (by lia) _ _ hfin
    · rw [decide_eq_false (by lia), if_neg (by decide), if_neg (by decide)]
      try (refine WP.execs_nil ?_)
      rw [sup_one (List.getElem?_eq_getElem hc1) (by lia)] at hfin
      exact last _ hc1 (by lia) _ _ hfin
  · rw [decide_eq_false (by lia), if_neg (by decide)]
    rw [sup_none (by lia)] at hfin
    rw [← hfin] at h'
    refine WP.execs_cons ?_
    walk_at "go"
    refine WP.setItem upd_self (by simp; lia) (by lia) ?_
    walk_at "go"
    refine WP.gname hf.1 (by show c.env.scope.names.lookup _ = _; rw [hsc]; rfl) (by decide) ?_
    walk_at "go"
    refine ⟨FnOk.callOk (c := c.nm nmSU) hf, ?_⟩
    have hsub' := sub_set (n := pos) hsub hxm
    have hxp : pos < (es'.set pos x).length := by simp; lia
    refine sd_callN (es := es'.set pos x) hf hlim (by rw [List.map_set]; exact upd_self) ?_ hxp (by simp; lia) (fun a ha b hb => hj a (hsub' _ ha) b (hsub' _ hb)) hu hroom ?_
    · show Ents (upd (upd D l _) l _) _
      rw [upd_upd]; exact he.upd hsub' hne
    · refine WP.execs_nil ?_
      dsimp only
      rw [upd_upd, upd_upd]
      have e3 : (es'.set pos x)[pos]'hxp = x := by simp
      have e4 : (es'.set pos x).length = es.length := by simp [hle]
      rw [e3, e4]
      exact h' _
theorem shSUN : Shape 9 ["heap", "pos"] ["endpos", "startpos", "newitem", "childpos", "rightpos"] := ⟨by decide +kernel, by decide +kernel, by decide +kernel, by decide +kernel, rfl, rfl, rfl⟩
theorem su_callN {w : World} {c : Cf} {A : Around} {σ : St} {f g l : Addr} {es : List Ent} {ps : Nat} {u : Tok} {Q : Value → St → Prop} (hlen : GNm c.hb "len" (.builtin "len")) (hg : FnOk c.hb 8 "_siftdown" g .none)
   (hf : FnOk c.hb 9 "_siftup" f .none) (hlim : c.hb.NoLimit)
   (hl : σ.D l = some (.list (es.map Ent.ref))) (he : Ents σ.D es) (hps : ps < es.length) (hsz : es.length < 1000) (hj : Inj es) (hu : A.units + 6 < cLine) (hroom : A.depth + 1 < recursionLimit)
   (h : Q .none ⟨σ.v, upd σ.D l (.list ((siftup flt es ps).map Ent.ref))⟩) :
   WP prg w c A (call (.ref f) [.ref l, .int ps u]) Q σ := by
  refine hf.go hlim (by lia) shSUN (vals' := [.ref l, .int ps u]) rfl (fun _ _ _ => by with_unfolding_all rfl) fun c' h1 h2 => ?_
  rw [← h2] at hlen hg hlim
  exact su_bodyN hlen hg hlim h1 hl he hps hsz hj hu hroom fun v => h
theorem hy_bodyN {w : World} {c : Cf} {A : Around} {l : Addr} {es : List Ent} {D : Addr → Option AO} {Q : Flow → St → Prop}
   (T : TopN c.hb) (hsc : c.env.scope = scopeAt 5)
   (hl : D l = some (.list (es.map Ent.ref))) (he : Ents D es) (hsz : es.length < 1000) (hj : Inj es) (hu : A.units + 6 < cLine) (hroom : A.depth + 1 < recursionLimit) (hh : A.handled = none)
   (h : ∀ v, Q .next ⟨v, upd D l (.list ((heapifyF flt (es.length / 2) es).map Ent.ref))⟩)
   : WP prg w (c.nm nmHY) A (execs (bodyAt 5) c.env) Q ⟨[some (.ref l), none, none], D⟩ := by
  obtain ⟨f1, hf1⟩ := T.sdmin
  obtain ⟨f2, hf2⟩ := T.sumin
  refine WP.weaken ?_
  refine WP.execs_cons ?_
  walk_at "go"
  refine WP.gname T.len (by show c.env.scope.names.lookup _ = _; rw [hsc]; rfl) (by decide) ?_
  walk_at "go"
  refine WP.len hl (by simp; lia) fun _ => ?_
  walk_at "go"
  refine WP.gname T.reversed (by show c.env.scope.names.lookup _ = _; rw [hsc]; rfl) (by decide) ?_
  walk_at "go"
  refine WP.gname T.range (by show c.env.scope.names.lookup _ = _; rw [hsc]; rfl) (by decide) ?_
  walk_at "go"
  rw [List.length_map]
  refine WP.fdiv2 (by lia) fun _ => ?_
  walk_at "go"
  refine WP.range1 fun r _ _ hr => ?_
  walk_at "go"
  refine WP.reversedRange upd_self (revOk (by lia)) fun i hi => ?_
  walk_at "go"
  refine WP.iterRit upd_self ?_
  have hsize : Builtin.Range.rangeSize 0 ((es.length / 2 : Nat) : Int) 1 = ((es.length / 2 : Nat) : Int) := by rw [rangeSize_one]; split <;> lia
  rw [hsize]
  have hri : r ≠ i := hi.ne upd_self
  have hlr : l ≠ r := hr.ne hl
  have hli : l ≠ i := hi.ne ((upd_ne hlr).trans hl)
  have hDi : D i = none := (upd_ne hri.symm).symm.trans hi.d
  have hne : ∀ e ∈ es, e.a ≠ l := fun e hm q => by have := he e hm; rw [q, hl] at this; cases this
  have hnei : ∀ e ∈ es, e.a ≠ i := fun e hm q => by have := he e hm; rw [q, hDi] at this; cases this
  refine WC.less (D' := upd (upd D l (.list (es.map Ent.ref))) i (ritO (((es.length / 2 : Nat) : Int) - 1) ((es.length / 2 : Nat) : Int) (-1))) ?_ (by
    rw [upd_same hl, Int.zero_add, Int.mul_one]
    exact le_upd (le_upd_new le_refl hr.d))
  refine WC.forLoop (fun n σ => ∃ es' iv, σ = ⟨[some (.ref l), some (.int (es.length : Nat) _), iv], upd (upd D l (.list (es'.map Ent.ref))) i (ritO ((n : Int) - 1) (n : Int) (-1))⟩ ∧ es'.length = es.length ∧ n ≤ es.length / 2 ∧ (∀ e ∈ es', e ∈ es) ∧
    heapifyF flt n es' = heapifyF flt (es.length / 2) es) ?turn (es.length / 2) ⟨es, none, rfl, rfl, by lia, fun _ h => h, rfl⟩
  rintro n σ ⟨es', iv, rfl, hle, hn, hsub, hfin⟩
  cases n with
  | zero =>
    refine WP.nextRangeEnd hh upd_self (by lia) ?_
    try (refine WP.execs_nil ?_)
    refine ⟨_, ?_, h _⟩
    dsimp only
    rw [← hfin, del_upd, del_none]
    · exact le_refl
    · rw [upd_ne hli.symm]; exact hDi
  | succ n =>
    refine WP.nextRange upd_self (by lia) fun _ => ?_
    walk_at "go"
    refine WP.gname hf2.1 (by show c.env.scope.names.lookup _ = _; rw [hsc]; rfl) (by decide) ?_
    walk_at "go"
    refine ⟨FnOk.callOk (c := c.nm nmHY) hf2, ?_⟩
    rw [upd_upd, show ((n + 1 : Nat) : Int) - 1 = ((n : Nat) : Int) by lia]
    refine su_callN (es := es') T.len hf1 hf2 T.lim ((upd_ne hli).trans upd_self) (fun e hm => (upd_ne (hnei _ (hsub _ hm))).trans ((upd_ne (hne _ (hsub _ hm))).trans (he _ (hsub _ hm)))) (by lia) (by lia) (fun a ha b hb => hj a (hsub _ ha) b (hsub _ hb)) hu hroom ?_
    try (refine WP.execs_nil ?_)
    refine ⟨n, by lia, siftup flt es' n, _, by dsimp only; rw [upd_comm hli.symm, upd_upd]; rfl, by rw [siftup_len, hle], by lia, fun e hm => hsub _ (siftup_mem _ hm), hfin⟩
theorem shHYN : Shape 5 ["x"] ["n", "i"] := ⟨by decide +kernel, by decide +kernel, by decide +kernel, by decide +kernel, rfl, rfl, rfl⟩
theorem hy_callN {w : World} {c : Cf} {A : Around} {σ : St} {f l : Addr} {es : List Ent} {Q : Value → St → Prop} (T : TopN c.hb) (hf : FnOk c.hb 5 "heapify" f .none)
   (hl : σ.D l = some (.list (es.map Ent.ref))) (he : Ents σ.D es) (hsz : es.length < 1000) (hj : Inj es) (hu : A.units + 9 < cLine) (hroom : A.depth + 2 < recursionLimit) (hh : A.handled = none)
   (h : Q .none ⟨σ.v, upd σ.D l (.list ((heapifyF flt (es.length / 2) es).map Ent.ref))⟩) :
   WP prg w c A (call (.ref f) [.ref l]) Q σ := by
  refine hf.go T.lim (by lia) shHYN (vals' := [.ref l]) rfl (fun _ _ _ => by with_unfolding_all rfl) fun c' h1 h2 => ?_
  rw [← h2] at T
  exact hy_bodyN T h1 hl he hsz hj hu hroom hh fun v => h
theorem hr_bodyN {w : World} {c : Cf} {A : Around} {l : Addr} {es : List Ent} {x : Ent} {D : Addr → Option AO} {Q : Flow → St → Prop}
   (T : TopN c.hb) (hsc : c.env.scope = scopeAt 4)
   (hl : D l = some (.list (es.map Ent.ref))) (he : Ents D es) (hx : D x.a = some x.tup) (h0 : 0 < es.length) (hsz : es.length < 1000) (hj : Inj (x :: es)) (hu : A.units + 6 < cLine) (hroom : A.depth + 1 < recursionLimit)
   (h : ∀ v r, Q (.ret r) ⟨v, upd D l (.list ((siftup flt (es.set 0 x) 0).map Ent.ref))⟩)
   : WP prg w (c.nm nmHR) A (execs (bodyAt 4) c.env) Q ⟨[some (.ref l), some x.ref, none], D⟩ := by
  obtain ⟨f1, hf1⟩ := T.sdmin
  obtain ⟨f2, hf2⟩ := T.sumin
  refine WP.execs_cons ?_
  walk_at "go"
  refine WP.itemN (k := 0) hl (ent_at h0) (by lia) ?_
  walk_at "go"
  refine WP.setItem (k := 0) hl (by simp; lia) (by lia) ?_
  walk_at "go"
  refine WP.gname hf2.1 (by show c.env.scope.names.lookup _ = _; rw [hsc]; rfl) (by decide) ?_
  walk_at "go"
  refine ⟨FnOk.callOk (c := c.nm nmHR) hf2, ?_⟩
  have hxl : x.a ≠ l := fun q => by rw [q, hl] at hx; cases hx
  have hne : ∀ e ∈ x :: es, e.a ≠ l := fun e hm q => by
    rcases List.mem_cons.mp hm with rfl | hm
    · exact hxl q
    · have := he e hm; rw [q, hl] at this; cases this
  have hsub : ∀ e ∈ es.set 0 x, e ∈ x :: es := sub_set (fun _ h => .tail _ h) (.head _)
  have he' : Ents D (x :: es) := fun e hm => by
    rcases List.mem_cons.mp hm with rfl | hm
    · exact hx
    · exact he e hm
  rw [← List.map_set]
  refine su_callN (es := es.set 0 x) (ps := 0) T.len hf1 hf2 T.lim upd_self (he'.upd hsub hne) (by simp; lia) (by simp; lia) (fun a ha b hb => hj a (hsub _ ha) b (hsub _ hb)) hu hroom ?_
  dsimp only
  rw [upd_upd]
  walk_at "go"
  exact h _ _
theorem shHRN : Shape 4 ["heap", "item"] ["returnitem"] := ⟨by decide +kernel, by decide +kernel, by decide +kernel, by decide +kernel, rfl, rfl, rfl⟩
theorem hr_callN {w : World} {c : Cf} {A : Around} {σ : St} {f l : Addr} {es : List Ent} {x : Ent} {Q : Value → St → Prop} (T : TopN c.hb) (hf : FnOk c.hb 4 "heapreplace" f .none)
   (hl : σ.D l = some (.list (es.map Ent.ref))) (he : Ents σ.D es) (hx : σ.D x.a = some x.tup) (h0 : 0 < es.length) (hsz : es.length < 1000) (hj : Inj (x :: es)) (hu : A.units + 9 < cLine) (hroom : A.depth + 2 < recursionLimit)
   (h : ∀ r, Q r ⟨σ.v, upd σ.D l (.list ((siftup flt (es.set 0 x) 0).map Ent.ref))⟩) :
   WP prg w c A (call (.ref f) [.ref l, x.ref]) Q σ := by
  refine hf.go T.lim (by lia) shHRN (vals' := [.ref l, x.ref]) rfl (fun _ _ _ => by with_unfolding_all rfl) fun c' h1 h2 => ?_
  rw [← h2] at T
  exact hr_bodyN T h1 hl he hx h0 hsz hj hu hroom fun v r => h r
end
end
section
open PySem PyProof.Rows
section
/-- a strict weak order on entries -/
structure Ord (lt : Ent → Ent → Bool) : Prop where
  asymm : ∀ x y, lt x y = true → lt y x = false
  ntrans : ∀ x y z, lt x y = false → lt y z = false → lt x z = false
noncomputable def d0 : Ent := ⟨0, ⟨#[]⟩, 0, 0, 0, .none⟩
noncomputable def at' (es : List Ent) (i : Nat) : Ent := es.getD i d0
theorem at_set {es : List Ent} {p : Nat} {x : Ent} (hp : p < es.length) (i : Nat) : at' (es.set p x) i = if i = p then x else at' es i := by
  unfold at'
  rw [List.getD_eq_getElem?_getD, List.getD_eq_getElem?_getD, List.getElem?_set]
  by_cases h : i = p
  · subst h; simp [hp]
  · rw [if_neg (Ne.symm h), if_neg h]
theorem at_some {es : List Ent} {i : Nat} {e : Ent} (h : es[i]? = some e) : at' es i = e := by unfold at'; rw [List.getD_eq_getElem?_getD, h]; rfl
theorem at_get {es : List Ent} {i : Nat} (h : i < es.length) : es[i]? = some (at' es i) := by
  unfold at'; rw [List.getD_eq_getElem?_getD, List.getElem?_eq_getElem h]; rfl
noncomputable def Kid (j c : Nat) : Prop := c = 2 * j + 1 ∨ c = 2 * j + 2
noncomputable def Hp (lt : Ent → Ent → Bool) (es : List Ent) (s : Nat) : Prop := ∀ j c, s ≤ j → Kid j c → c < es.length → lt (at' es j) (at' es c) = false
structure Hole (lt : Ent → Ent → Bool) (es : List Ent) (s h : Nat) : Prop where
  a : ∀ j c, s ≤ j → Kid j c → c < es.length → j ≠ h → c ≠ h → lt (at' es j) (at' es c) = false
  b : h ≠ s → ∀ c, Kid h c → c < es.length → lt (at' es ((h - 1) / 2)) (at' es c) = false
inductive Desc (s : Nat) : Nat → Prop
  | refl : Desc s s
  | kid {h c : Nat} : Desc s h → Kid h c → Desc s c
theorem Desc.le {s h : Nat} (d : Desc s h) : s ≤ h := by
  induction d with
  | refl => exact Nat.le_refl _
  | kid _ k ih => rcases k with k | k <;> lia
theorem Kid.par {j c : Nat} (k : Kid j c) : (c - 1) / 2 = j := by rcases k with k | k <;> lia
theorem Kid.lt {j c : Nat} (k : Kid j c) : j < c := by rcases k with k | k <;> lia
theorem Desc.up {s h : Nat} (d : Desc s h) (hn : h ≠ s) : Desc s ((h - 1) / 2) ∧ Kid ((h - 1) / 2) h := by
  cases d with
  | refl => exact absurd rfl hn
  | kid d k => rw [k.par]; exact ⟨d, k⟩
section
variable {lt : Ent → Ent → Bool} {x : Ent}
theorem Hole.step (O : Ord lt) {es : List Ent} {s h c : Nat} (H : Hole lt es s h) (d : Desc s h) (k : Kid h c) (hc : c < es.length) (ho : ∀ o, Kid h o → o < es.length → o ≠ c → lt (at' es c) (at' es o) = false) :
    Hole lt (es.set h (at' es c)) s c := by
  have hsh := d.le
  have hlt := k.lt
  have hh : h < es.length := by lia
  refine ⟨fun j e hj ke he n1 n2 => ?_, fun _ e ke he => ?_⟩
  · rw [List.length_set] at he
    rw [at_set hh, at_set hh]
    have kl := ke.lt
    by_cases hjh : j = h
    · subst hjh
      rw [if_pos rfl, if_neg (by lia)]
      exact ho e ke he n2
    · rw [if_neg hjh]
      by_cases heh : e = h
      · subst heh
        rw [if_pos rfl]
        have := H.b (by lia) c k hc
        rwa [ke.par] at this
      · rw [if_neg heh]
        exact H.a j e hj ke he hjh heh
  · rw [List.length_set] at he
    have kl := ke.lt
    rw [at_set hh, at_set hh, k.par, if_pos rfl, if_neg (by lia)]
    exact H.a c e (by lia) ke he (by lia) (by lia)
theorem set_perm {α : Type} (x : α) : ∀ (es : List α) (h : Nat), h < es.length → (es.set h x).Perm (x :: es.eraseIdx h)
  | [], h, hh => by simp at hh
  | e :: es, 0, _ => by simp
  | e :: es, h + 1, hh => by
    rw [List.set_cons_succ, List.eraseIdx_cons_succ]
    exact ((set_perm x es h (by simpa using hh)).cons e).trans (List.Perm.swap _ _ _)
theorem get_perm {α : Type} : ∀ (es : List α) (h : Nat) (hh : h < es.length), es.Perm (es[h] :: es.eraseIdx h)
  | [], h, hh => by simp at hh
  | e :: es, 0, _ => by simp
  | e :: es, h + 1, hh => by
    rw [List.getElem_cons_succ, List.eraseIdx_cons_succ]
    exact ((get_perm es h (by simpa using hh)).cons e).trans (List.Perm.swap _ _ _)
theorem perm_swap {es : List Ent} {h c : Nat} (hh : h < es.length) (hc : c < es.length) (hne : h ≠ c) : ((es.set h (at' es c)).set c x).Perm (es.set h x) := by
  have e1 : at' es c = es[c] := by rw [← Option.some_inj, ← at_get hc, List.getElem?_eq_getElem hc]
  rw [e1]
  have h1 : (es.set h x).Perm (x :: es.eraseIdx h) := set_perm x _ _ hh
  have hc' : c < (es.set h es[c]).length := by simpa using hc
  have h2 : ((es.set h es[c]).set c x).Perm (x :: (es.set h es[c]).eraseIdx c) := set_perm x _ _ hc'
  refine h2.trans ((List.Perm.cons _ ?_).trans h1.symm)
  -- (es with h := es[c]) less c is es less h
  have h3 : (es.set h es[c]).Perm (es[c] :: es.eraseIdx h) := set_perm _ _ _ hh
  have h4 : (es.set h es[c]).Perm ((es.set h es[c])[c]'hc' :: (es.set h es[c]).eraseIdx c) := get_perm _ _ hc'
  have e5 : (es.set h es[c])[c]'hc' = es[c] := by rw [List.getElem_set_ne hne]
  rw [e5] at h4
  exact List.perm_cons es[c] |>.mp (h4.symm.trans h3)
theorem sup_ok (O : Ord lt) : ∀ (n : Nat) {es : List Ent} {s h : Nat}, es.length - h ≤ n → h < es.length → Hole lt es s h → Desc s h →
    Hole lt (sup lt n es h).1 s (sup lt n es h).2 ∧ Desc s (sup lt n es h).2 ∧ es.length ≤ 2 * (sup lt n es h).2 + 1 ∧ (sup lt n es h).2 < es.length ∧ ((sup lt n es h).1.set (sup lt n es h).2 x).Perm (es.set h x)
  | 0, es, s, h, hn, hh, H, d => by lia
  | n + 1, es, s, h, hn, hh, H, d => by
    by_cases hc : 2 * h + 1 < es.length
    · have k1 : Kid h (2 * h + 1) := .inl rfl
      have k2 : Kid h (2 * h + 2) := .inr rfl
      have go : ∀ c, Kid h c → c < es.length → (∀ o, Kid h o → o < es.length → o ≠ c → lt (at' es c) (at' es o) = false) → sup lt (n + 1) es h = sup lt n (es.set h (at' es c)) c →
          Hole lt (sup lt (n + 1) es h).1 s (sup lt (n + 1) es h).2 ∧ Desc s (sup lt (n + 1) es h).2 ∧ es.length ≤ 2 * (sup lt (n + 1) es h).2 + 1 ∧ (sup lt (n + 1) es h).2 < es.length ∧ ((sup lt (n + 1) es h).1.set (sup lt (n + 1) es h).2 x).Perm (es.set h x) := by
        intro c kc hcl ho e
        rw [e]
        have hl := kc.lt
        have := sup_ok O n (es := es.set h (at' es c)) (s := s) (h := c) (by rw [List.length_set]; lia) (by rw [List.length_set]; exact hcl) (H.step O d kc hcl ho) (d.kid kc)
        rw [List.length_set] at this
        exact ⟨this.1, this.2.1, this.2.2.1, this.2.2.2.1, this.2.2.2.2.trans (perm_swap hh hcl (by lia))⟩
      by_cases hr : 2 * h + 2 < es.length
      · cases q : lt (at' es (2 * h + 2)) (at' es (2 * h + 1)) with
        | true =>
          refine go _ k1 hc (fun o ko ho hne => ?_) ?_
          · have : o = 2 * h + 2 := by rcases ko with ko | ko <;> lia
            subst this
            exact O.asymm _ _ q
          · rw [sup_two (at_get hc) (at_get hr), q]; rfl
        | false =>
          refine go _ k2 hr (fun o ko ho hne => ?_) ?_
          · have : o = 2 * h + 1 := by rcases ko with ko | ko <;> lia
            subst this
            exact q
          · rw [sup_two (at_get hc) (at_get hr), q]; rfl
      · refine go _ k1 hc (fun o ko ho hne => ?_) (sup_one (at_get hc) (by lia))
        rcases ko with ko | ko <;> lia
    · rw [sup_none (by lia)]
      exact ⟨H, d, by show es.length ≤ 2 * h + 1; lia, hh, List.Perm.refl _⟩
theorem sdown_ok (O : Ord lt) : ∀ (n : Nat) {es : List Ent} {s h : Nat}, h ≤ n → h < es.length → Hole lt es s h → Desc s h → (∀ c, Kid h c → c < es.length → lt x (at' es c) = false) →
    Hp lt (sdown lt x s n es h) s ∧ (sdown lt x s n es h).Perm (es.set h x) := by
  intro n
  induction n with
  | zero =>
    intro es s h hn hh H d hk
    have h0 : h = 0 := by lia
    have hsh := d.le
    refine ⟨fun j c hj kc hc => ?_, List.Perm.refl _⟩
    have hc' : c < es.length := by simpa [sdown] using hc
    have kl := kc.lt
    show lt (at' (es.set h x) j) (at' (es.set h x) c) = false
    rw [at_set hh, at_set hh, if_neg (show ¬ c = h by lia)]
    by_cases hjh : j = h
    · subst hjh; rw [if_pos rfl]; exact hk c kc hc'
    · rw [if_neg hjh]; exact H.a j c hj kc hc' hjh (by lia)
  | succ n ih =>
    intro es s h hn hh H d hk
    have hsh := d.le
    have place : (h = s ∨ lt (at' es ((h - 1) / 2)) x = false) → Hp lt (es.set h x) s ∧ (es.set h x).Perm (es.set h x) := by
      intro hp
      refine ⟨fun j c hj kc hc => ?_, List.Perm.refl _⟩
      rw [List.length_set] at hc
      have kl := kc.lt
      rw [at_set hh, at_set hh]
      by_cases hjh : j = h
      · subst hjh; rw [if_pos rfl, if_neg (by lia)]; exact hk c kc hc
      · rw [if_neg hjh]
        by_cases hch : c = h
        · subst hch
          rw [if_pos rfl]
          rcases hp with hp | hp
          · lia
          · rwa [kc.par] at hp
        · rw [if_neg hch]; exact H.a j c hj kc hc hjh hch
    rw [sdown_succ]
    by_cases hsl : s < h
    · rw [if_pos hsl]
      obtain ⟨dp, kp⟩ := d.up (by lia)
      have hpl : (h - 1) / 2 < es.length := by lia
      have hph := kp.lt
      have hsp := dp.le
      rw [at_get hpl]
      dsimp only
      cases q : lt (at' es ((h - 1) / 2)) x with
      | false => simp only [Bool.false_eq_true, if_false]; exact place (.inr q)
      | true =>
        simp only [if_true]
        have sib : ∀ c, Kid ((h - 1) / 2) c → c < es.length → c ≠ h → lt (at' es ((h - 1) / 2)) (at' es c) = false := fun c kc hc hne => H.a _ c hsp kc hc (by lia) hne
        have := ih (es := es.set h (at' es ((h - 1) / 2))) (s := s) (h := (h - 1) / 2) (by lia) (by rw [List.length_set]; exact hpl) ⟨fun j c hj kc hc n1 n2 => ?_, fun hne c kc hc => ?_⟩ dp (fun c kc hc => ?_)
        · exact ⟨this.1, this.2.trans (perm_swap hh hpl (by lia))⟩
        · rw [List.length_set] at hc
          have kl := kc.lt
          rw [at_set hh, at_set hh]
          by_cases hjh : j = h
          · subst hjh; rw [if_pos rfl, if_neg (by lia)]; exact H.b (by lia) c kc hc
          · rw [if_neg hjh]
            by_cases hch : c = h
            · subst hch; exact absurd kc.par.symm n1
            · rw [if_neg hch]; exact H.a j c hj kc hc hjh hch
        · rw [List.length_set] at hc
          obtain ⟨dq, kq⟩ := dp.up hne
          have hql := kq.lt
          have hsq := dq.le
          have kl := kc.lt
          have pq : lt (at' es (((h - 1) / 2 - 1) / 2)) (at' es ((h - 1) / 2)) = false := H.a _ _ hsq kq hpl (by lia) (by lia)
          rw [at_set hh, at_set hh, if_neg (show ¬ ((h - 1) / 2 - 1) / 2 = h by lia)]
          by_cases hch : c = h
          · rw [if_pos hch]; exact pq
          · rw [if_neg hch]; exact O.ntrans _ _ _ pq (sib c kc hc hch)
        · rw [List.length_set] at hc
          rw [at_set hh]
          by_cases hch : c = h
          · rw [if_pos hch]; exact O.asymm _ _ q
          · rw [if_neg hch]; exact O.ntrans _ _ _ (O.asymm _ _ q) (sib c kc hc hch)
    · rw [if_neg hsl]
      exact place (.inl (by lia))
theorem siftup_ok (O : Ord lt) {es : List Ent} {s : Nat} (hs : s < es.length) (H : Hp lt es (s + 1)) : Hp lt (siftup lt es s) s ∧ (siftup lt es s).Perm es := by
  unfold siftup
  rw [at_get hs]
  dsimp only
  have H0 : Hole lt es s s := ⟨fun j c hj kc hc n1 n2 => H j c (by lia) kc hc, fun h => absurd rfl h⟩
  obtain ⟨h1, h2, h3, h4, h5⟩ := sup_ok (x := at' es s) O es.length (s := s) (h := s) (by lia) hs H0 .refl
  have hl : (sup lt es.length es s).1.length = es.length := sup_len
  have hp : (es.set s (at' es s)).Perm es := by
    have e : es.set s (at' es s) = es := by
      have e1 : at' es s = es[s] := by rw [← Option.some_inj, ← at_get hs, List.getElem?_eq_getElem hs]
      rw [e1]; exact List.set_getElem_self hs
    rw [e]
  have h4' : (sup lt es.length es s).2 < (sup lt es.length es s).1.length := by rw [hl]; exact h4
  have H1 : Hole lt ((sup lt es.length es s).1.set (sup lt es.length es s).2 (at' es s)) s (sup lt es.length es s).2 := by
    refine ⟨fun j c hj kc hc n1 n2 => ?_, fun hne c kc hc => ?_⟩
    · rw [List.length_set] at hc
      rw [at_set h4', at_set h4', if_neg n1, if_neg n2]
      exact h1.a j c hj kc hc n1 n2
    · rw [List.length_set, hl] at hc
      rcases kc with kc | kc <;> lia
  obtain ⟨r1, r2⟩ := sdown_ok (x := at' es s) O es.length (s := s) (h := (sup lt es.length es s).2) (by lia) (by rw [List.length_set]; exact h4') H1 h2 (fun c kc hc => by
    rw [List.length_set, hl] at hc
    rcases kc with kc | kc <;> lia)
  refine ⟨r1, r2.trans ?_⟩
  rw [List.set_set]
  exact h5.trans hp
theorem heapify_ok (O : Ord lt) : ∀ (n : Nat) {es : List Ent}, n ≤ es.length → Hp lt es n → Hp lt (heapifyF lt n es) 0 ∧ (heapifyF lt n es).Perm es
  | 0, es, _, H => ⟨H, List.Perm.refl _⟩
  | n + 1, es, hn, H => by
    obtain ⟨h1, h2⟩ := siftup_ok O (by lia) H
    obtain ⟨h3, h4⟩ := heapify_ok O n (es := siftup lt es n) (by rw [siftup_len]; lia) h1
    exact ⟨h3, h4.trans h2⟩
theorem hp_half {es : List Ent} : Hp lt es (es.length / 2) := fun j c hj kc hc => by rcases kc with kc | kc <;> lia
theorem top_max (O : Ord lt) {es : List Ent} (H : Hp lt es 0) : ∀ i, i < es.length → lt (at' es 0) (at' es i) = false := by
  intro i
  induction i using Nat.strongRecOn with
  | ind i ih =>
    intro hi
    by_cases h0 : i = 0
    · subst h0
      cases q : lt (at' es 0) (at' es 0) with
      | false => rfl
      | true => rw [O.asymm _ _ q] at q; cases q
    · have k : Kid ((i - 1) / 2) i := by unfold Kid; lia
      exact O.ntrans _ _ _ (ih ((i - 1) / 2) (by lia) (by lia)) (H _ _ (by lia) k hi)
end
end
end
section
open PySem PyProof.Rows
section
theorem perm_unique {α : Type} {R : α → α → Prop} (ha : ∀ x y, R x y → ¬ R y x) : ∀ {l₁ l₂ : List α}, l₁.Perm l₂ → l₁.Pairwise R → l₂.Pairwise R → l₁ = l₂
  | [], l₂, p, _, _ => by rw [List.nil_perm] at p; exact p.symm
  | x :: l₁, [], p, _, _ => by rw [List.perm_nil] at p; exact p
  | x :: l₁, y :: l₂, p, h1, h2 => by
    have h1' := List.pairwise_cons.mp h1
    have h2' := List.pairwise_cons.mp h2
    have e : x = y := by
      rcases List.mem_cons.mp (p.mem_iff.mp (.head _) : x ∈ y :: l₂) with e | hx
      · exact e
      · rcases List.mem_cons.mp (p.mem_iff.mpr (.head _) : y ∈ x :: l₁) with e | hy
        · exact e.symm
        · exact absurd (h1'.1 _ hy) (ha _ _ (h2'.1 _ hx))
    subst e
    rw [perm_unique ha (List.perm_cons x |>.mp p) h1'.2 h2'.2]
noncomputable def bef (vs : List Value) (x y : Value) : Prop := vs.idxOf x < vs.idxOf y
abbrev RR (vs : List Value) (kf : Value → Str) (b : Bool) : Value → Value → Prop := SL (fun x y => slt (kf x) (kf y)) (bef vs) b
noncomputable def klt (b : Bool) (k k' : Str) : Bool := if b then slt k' k else slt k k'
theorem RR_iff {vs : List Value} {kf : Value → Str} {b : Bool} {x y : Value} : RR vs kf b x y ↔ klt b (kf x) (kf y) = true ∨ (klt b (kf y) (kf x) = false ∧ bef vs x y) := by
  unfold RR SL klt
  cases b <;> simp
theorem klt_asymm {b : Bool} {k k' : Str} : klt b k k' = true → klt b k' k = false := by
  unfold klt; cases b <;> simp only [Bool.false_eq_true, if_false, if_true] <;> exact slt_asymm
theorem klt_ntrans {b : Bool} {k k' k'' : Str} : klt b k k' = false → klt b k' k'' = false → klt b k k'' = false := by
  unfold klt; cases b <;> simp only [Bool.false_eq_true, if_false, if_true]
  · exact slt_ntrans
  · exact fun h1 h2 => slt_ntrans h2 h1
theorem klt_lt {b : Bool} {k k' k'' : Str} (h1 : klt b k k' = true) (h2 : klt b k'' k' = false) : klt b k k'' = true := by
  cases h : klt b k k'' with
  | true => rfl
  | false => rw [klt_ntrans h h2] at h1; cases h1
theorem klt_lt' {b : Bool} {k k' k'' : Str} (h1 : klt b k' k = false) (h2 : klt b k' k'' = true) : klt b k k'' = true := by
  cases h : klt b k k'' with
  | true => rfl
  | false => rw [klt_ntrans h1 h] at h2; cases h2
theorem klt_eq {b : Bool} {k k' : Str} (h1 : klt b k k' = false) (h2 : klt b k' k = false) : k = k' := by
  by_cases h : k = k'
  · exact h
  · unfold klt at h1 h2
    cases b <;> simp only [Bool.false_eq_true, if_false, if_true] at h1 h2
    · rw [slt_total h h1] at h2; cases h2
    · rw [slt_total (Ne.symm h) h1] at h2; cases h2
theorem RR_asymm {vs : List Value} {kf : Value → Str} {b : Bool} : ∀ x y, RR vs kf b x y → ¬ RR vs kf b y x := by
  intro x y h1 h2
  rw [RR_iff] at h1 h2
  rcases h1 with h1 | ⟨h1, h1'⟩ <;> rcases h2 with h2 | ⟨h2, h2'⟩
  · rw [klt_asymm h1] at h2; cases h2
  · rw [h1] at h2; cases h2
  · rw [h2] at h1; cases h1
  · unfold bef at h1' h2'; lia
theorem RR_trans {vs : List Value} {kf : Value → Str} {b : Bool} {x y z : Value} (h1 : RR vs kf b x y) (h2 : RR vs kf b y z) : RR vs kf b x z := by
  rw [RR_iff] at h1 h2 ⊢
  rcases h1 with h1 | ⟨h1, h1'⟩ <;> rcases h2 with h2 | ⟨h2, h2'⟩
  · exact .inl (klt_lt h1 (klt_asymm h2))
  · exact .inl (klt_lt h1 h2)
  · exact .inl (klt_lt' h1 h2)
  · exact .inr ⟨klt_ntrans h2 h1, by unfold bef at *; lia⟩
structure Pick (vs : List Value) (kf : Value → Str) (b : Bool) (n : Nat) (out : List Value) : Prop where
  len : out.length = n
  pw : out.Pairwise (RR vs kf b)
  mem : ∀ x ∈ out, x ∈ vs
  rest : ∀ y ∈ vs, y ∉ out → ∀ x ∈ out, RR vs kf b x y
theorem RR_ne {vs : List Value} {kf : Value → Str} {b : Bool} {x y : Value} (h : RR vs kf b x y) : x ≠ y := fun e => by subst e; exact RR_asymm _ _ h h
theorem Pick.take {vs S out : List Value} {kf : Value → Str} {b : Bool} {n : Nat} (P : Pick vs kf b n out) (hn : vs.Nodup) (hp : S.Perm vs) (hs : S.Pairwise (RR vs kf b)) : out = S.take n := by
  have hS : S.Nodup := hp.nodup_iff.mpr hn
  have ho : out.Nodup := P.pw.imp fun h => RR_ne h
  have e : out ++ S.filter (fun y => decide (y ∉ out)) = S := by
    refine perm_unique RR_asymm ?_ ?_ hs
    · refine (List.perm_ext_iff_of_nodup ?_ hS).mpr fun x => ?_
      · refine List.nodup_append.mpr ⟨ho, hS.filter _, fun x hx y hy => ?_⟩
        rw [List.mem_filter] at hy
        rintro rfl
        simp [hx] at hy
      · rw [List.mem_append, List.mem_filter]
        constructor
        · rintro (h | h)
          · exact hp.mem_iff.mpr (P.mem x h)
          · exact h.1
        · intro h
          by_cases q : x ∈ out
          · exact .inl q
          · exact .inr ⟨h, by simpa using q⟩
    · refine List.pairwise_append.mpr ⟨P.pw, hs.filter _, fun x hx y hy => ?_⟩
      rw [List.mem_filter] at hy
      exact P.rest y (hp.mem_iff.mp hy.1) (by simpa using hy.2) x hx
  rw [← e, List.take_append_of_le_length (by rw [P.len]; exact Nat.le_refl _), List.take_of_length_le (by rw [P.len]; exact Nat.le_refl _)]
theorem pick_sorted {vs S : List Value} {kf : Value → Str} {b : Bool} {n : Nat} (h : Sorted (fun x y => slt (kf x) (kf y)) (bef vs) b vs S) (hl : n ≤ vs.length) : Pick vs kf b n (S.take n) where
  len := by rw [List.length_take, h.1.length_eq]; lia
  pw := h.2.sublist (List.take_sublist _ _)
  mem := fun x hx => h.1.mem_iff.mp (List.mem_of_mem_take hx)
  rest := fun y hy hn x hx => by
    have hy' := h.1.mem_iff.mpr hy
    rw [← List.take_append_drop n S, List.mem_append] at hy'
    have pw := h.2
    rw [← List.take_append_drop n S] at pw
    exact (List.pairwise_append.mp pw).2.2 x hx y (hy'.resolve_left hn)
theorem bef_pw {vs : List Value} (hn : vs.Nodup) : vs.Pairwise (bef vs) := by
  rw [List.pairwise_iff_getElem]
  intro i j hi hj hij
  unfold bef
  rw [List.Nodup.idxOf_getElem hn i hi, List.Nodup.idxOf_getElem hn j hj]
  exact hij
theorem bef_at {vs : List Value} (hn : vs.Nodup) {i j : Nat} {x y : Value} (hx : vs[i]? = some x) (hy : vs[j]? = some y) (h : i < j) : bef vs x y := by
  obtain ⟨hi, e1⟩ := List.getElem?_eq_some_iff.mp hx
  obtain ⟨hj, e2⟩ := List.getElem?_eq_some_iff.mp hy
  subst e1 e2
  exact List.pairwise_iff_getElem.mp (bef_pw hn) i j hi hj h
/-! ## min and max -/
theorem best_cons {lt : Str → Str → Bool} {kf : Value → Str} {m x : Value} {r : List Value} : best lt kf m (x :: r) = if lt (kf x) (kf m) then best lt kf x r else best lt kf m r := rfl
theorem best_ok {b : Bool} {kf : Value → Str} {vs : List Value} (hn : vs.Nodup) : ∀ (r : List Value) (m : Value) (i : Nat), r = vs.drop i → 1 ≤ i → m ∈ vs.take i → (∀ y ∈ vs.take i, y ≠ m → RR vs kf b m y) →
    best (fun k k' => klt b k k') kf m r ∈ vs ∧ ∀ y ∈ vs, y ≠ best (fun k k' => klt b k k') kf m r → RR vs kf b (best (fun k k' => klt b k k') kf m r) y
  | [], m, i, hr, hi, hm, h => by
    have e : vs.take i = vs := List.take_of_length_le (by have := congrArg List.length hr; rw [List.length_drop] at this; simp at this; lia)
    rw [e] at hm h
    exact ⟨hm, h⟩
  | x :: r, m, i, hr, hi, hm, h => by
    have hlt : i < vs.length := by have := congrArg List.length hr; rw [List.length_drop] at this; simp at this; lia
    have hd := List.drop_eq_getElem_cons hlt
    rw [← hr] at hd
    injection hd with e1 e2
    have hx : vs[i]? = some x := by rw [List.getElem?_eq_getElem hlt, e1]
    have ht : vs.take (i + 1) = vs.take i ++ [x] := by rw [List.take_add_one, hx]; rfl
    have bx : ∀ y ∈ vs.take i, bef vs y x := fun y hy => by
      obtain ⟨j, hj, e⟩ := List.mem_take_iff_getElem.mp hy
      exact bef_at hn (i := j) (j := i) (by rw [List.getElem?_eq_getElem (by lia), e]) hx (by lia)
    rw [best_cons]
    cases q : klt b (kf x) (kf m) with
    | true =>
      simp only [if_true]
      refine best_ok hn r x (i + 1) e2 (by lia) (by rw [ht]; simp) fun y hy hne => ?_
      rw [ht, List.mem_append] at hy
      have xm : RR vs kf b x m := RR_iff.mpr (.inl q)
      rcases hy with hy | hy
      · by_cases e : y = m
        · rw [e]; exact xm
        · exact RR_trans xm (h y hy e)
      · exact absurd (List.mem_singleton.mp hy) hne
    | false =>
      simp only [Bool.false_eq_true, if_false]
      refine best_ok hn r m (i + 1) e2 (by lia) (by rw [ht]; exact List.mem_append_left _ hm) fun y hy hne => ?_
      rw [ht, List.mem_append] at hy
      rcases hy with hy | hy
      · exact h y hy hne
      · rw [List.mem_singleton.mp hy]; exact RR_iff.mpr (.inr ⟨q, bx m hm⟩)
theorem pick_best {b : Bool} {kf : Value → Str} {v₀ : Value} {vs : List Value} (hn : (v₀ :: vs).Nodup) : Pick (v₀ :: vs) kf b 1 [best (fun k k' => klt b k k') kf v₀ vs] := by
  obtain ⟨h1, h2⟩ := best_ok (b := b) (kf := kf) hn vs v₀ 1 rfl (by lia) (by simp) (fun y hy hne => by simp at hy; exact absurd hy hne)
  exact ⟨rfl, by simp, fun x hx => by rw [List.mem_singleton.mp hx]; exact h1, fun y hy hne x hx => by rw [List.mem_singleton.mp hx]; exact h2 y hy (by simpa using hne)⟩
end
end
section
open PySem PyProof.Rows
section
noncomputable def ltb (b : Bool) (x y : Ent) : Bool := if b then elt y x else elt x y
noncomputable def ilt (b : Bool) (i j : Int) : Prop := if b then j < i else i < j
noncomputable def sg (b : Bool) (i : Int) : Int := if b then -i else i
theorem ltb_false : ltb false = elt := by funext x y; rfl
theorem ltb_true : ltb true = flt := by funext x y; rfl
theorem elt_iff {x y : Ent} : elt x y = true ↔ slt x.k y.k = true ∨ (x.k = y.k ∧ x.i < y.i) := by
  unfold elt
  by_cases h : x.k = y.k
  · rw [if_pos h, h]
    have : slt y.k y.k = false := by
      cases q : slt y.k y.k with
      | false => rfl
      | true => rw [slt_asymm q] at q; cases q
    simp [this]
  · rw [if_neg h]
    simp [h]
theorem ltb_iff {b : Bool} {x y : Ent} : ltb b x y = true ↔ klt b x.k y.k = true ∨ (x.k = y.k ∧ ilt b x.i y.i) := by
  unfold ltb klt ilt
  cases b <;> simp only [Bool.false_eq_true, if_false, if_true, elt_iff]
  rw [eq_comm (a := x.k)]
theorem elt_ntr {x y z : Ent} : elt x y = false → elt y z = false → elt x z = false := by
  intro h1 h2
  rw [← Bool.not_eq_true, elt_iff] at h1 h2 ⊢
  rw [not_or] at h1 h2
  obtain ⟨a1, a2⟩ := h1
  obtain ⟨b1, b2⟩ := h2
  rw [Bool.not_eq_true] at a1 b1
  rintro (h | ⟨h, hi⟩)
  · rw [slt_ntrans a1 b1] at h; cases h
  · have e1 : x.k = y.k := by
      by_cases q : x.k = y.k
      · exact q
      · have t1 := slt_total q a1
        have t2 : slt y.k x.k = false := by rw [h]; exact b1
        rw [t2] at t1; cases t1
    have := not_and.mp a2 e1
    have := not_and.mp b2 (e1.symm.trans h)
    lia
theorem ord_ltb {b : Bool} : Ord (ltb b) where
  asymm := fun x y h => by
    unfold ltb at h ⊢; cases b <;> simp only [Bool.false_eq_true, if_false, if_true] at h ⊢ <;> exact elt_asymm h
  ntrans := fun x y z h1 h2 => by
    unfold ltb at h1 h2 ⊢; cases b <;> simp only [Bool.false_eq_true, if_false, if_true] at h1 h2 ⊢
    · exact elt_ntr h1 h2
    · exact elt_ntr h2 h1
structure HInv (vs : List Value) (kf : Value → Str) (b : Bool) (n m : Nat) (es : List Ent) (ord : Int) : Prop where
  len : es.length = n
  key : ∀ e ∈ es, e.k = kf e.e
  mem : ∀ e ∈ es, e.e ∈ vs.take m
  ilt : ∀ e ∈ es, ilt b e.i ord
  mono : ∀ e ∈ es, ∀ e' ∈ es, Mine.ilt b e.i e'.i → bef vs e.e e'.e
  inj : Inj es
  nd : es.Nodup
  rest : ∀ y ∈ vs.take m, (∀ e ∈ es, e.e ≠ y) → ∀ e ∈ es, RR vs kf b e.e y
section
variable {vs : List Value} {kf : Value → Str} {b : Bool} {n m : Nat} {es es' : List Ent} {ord : Int}
theorem HInv.perm (H : HInv vs kf b n m es ord) (p : es'.Perm es) : HInv vs kf b n m es' ord where
  len := p.length_eq.trans H.len
  key := fun e h => H.key e (p.mem_iff.mp h)
  mem := fun e h => H.mem e (p.mem_iff.mp h)
  ilt := fun e h => H.ilt e (p.mem_iff.mp h)
  mono := fun e h e' h' => H.mono e (p.mem_iff.mp h) e' (p.mem_iff.mp h')
  inj := fun x hx y hy => H.inj x (p.mem_iff.mp hx) y (p.mem_iff.mp hy)
  nd := p.nodup_iff.mpr H.nd
  rest := fun y hy hn e he => H.rest y hy (fun e' h' => hn e' (p.mem_iff.mpr h')) e (p.mem_iff.mp he)
theorem HInv.rel (H : HInv vs kf b n m es ord) {x y : Ent} (hx : x ∈ es) (hy : y ∈ es) (h : ltb b x y = true) : RR vs kf b x.e y.e := by
  rw [ltb_iff, H.key x hx, H.key y hy] at h
  rw [RR_iff]
  rcases h with h | ⟨h, hi⟩
  · exact .inl h
  · refine .inr ⟨?_, H.mono x hx y hy hi⟩
    rw [h]
    cases q : klt b (kf y.e) (kf y.e) with
    | false => rfl
    | true => rw [klt_asymm q] at q; cases q
theorem ilt_total {b : Bool} {i j : Int} (h : i ≠ j) : ilt b i j ∨ ilt b j i := by
  unfold ilt; cases b <;> simp only [Bool.false_eq_true, if_false, if_true] <;> lia
theorem ltb_total {x y : Ent} (h : x.i ≠ y.i) (h1 : ltb b x y = false) : ltb b y x = true := by
  rw [ltb_iff]
  rw [← Bool.not_eq_true, ltb_iff, not_or, Bool.not_eq_true] at h1
  cases q : klt b y.k x.k with
  | true => exact .inl rfl
  | false =>
    have e := klt_eq h1.1 q
    exact .inr ⟨e.symm, (ilt_total h).resolve_left (not_and.mp h1.2 e)⟩
theorem HInv.top (H : HInv vs kf b n m es ord) (hp : Hp (ltb b) es 0) {t : Ent} (ht : es[0]? = some t) : ∀ e ∈ es, e = t ∨ ltb b e t = true := by
  intro e he
  by_cases q : e = t
  · exact .inl q
  · right
    obtain ⟨i, hi⟩ := List.mem_iff_getElem?.mp he
    have hlt : i < es.length := by
      rcases Nat.lt_or_ge i es.length with h | h
      · exact h
      · rw [List.getElem?_eq_none h] at hi; cases hi
    have := top_max ord_ltb hp i hlt
    rw [at_some ht, at_some hi] at this
    exact ltb_total (fun e' => q (H.inj e he t (List.mem_of_getElem? ht) e'.symm)) this
theorem HInv.skip (H : HInv vs kf b n m es ord) (hp : Hp (ltb b) es 0) {t : Ent} (ht : es[0]? = some t) (hn : vs.Nodup) {x : Value} (hx : vs[m]? = some x) (hk : klt b (kf x) t.k = false) : HInv vs kf b n (m + 1) es ord where
  len := H.len
  key := H.key
  mem := fun e he => by rw [List.take_add_one]; exact List.mem_append_left _ (H.mem e he)
  ilt := H.ilt
  mono := H.mono
  inj := H.inj
  nd := H.nd
  rest := fun y hy hno e he => by
    rw [List.take_add_one, hx, List.mem_append] at hy
    rcases hy with hy | hy
    · exact H.rest y hy hno e he
    · have : y = x := by simpa using hy
      subst this
      have hkt := H.key t (List.mem_of_getElem? ht)
      have bx : bef vs e.e y := by
        obtain ⟨j, hj, e1⟩ := List.mem_take_iff_getElem.mp (H.mem e he)
        exact bef_at hn (i := j) (j := m) (by rw [List.getElem?_eq_getElem (by lia), e1]) hx (by lia)
      rw [RR_iff]
      have ket : klt b (kf y) (kf e.e) = false := by
        rw [hkt] at hk
        rcases H.top hp ht e he with rfl | h
        · exact hk
        · rw [ltb_iff, H.key e he, hkt] at h
          rcases h with h | ⟨h, _⟩
          · exact klt_ntrans hk (klt_asymm h)
          · rw [h]; exact hk
      exact .inr ⟨ket, bx⟩
theorem mem_set0 {α : Type} {l : List α} {x y : α} (h : y ∈ l.set 0 x) : y = x ∨ y ∈ l := by
  rcases List.mem_or_eq_of_mem_set h with h | h
  · exact .inr h
  · exact .inl h
theorem HInv.swap (H : HInv vs kf b n m es ord) (hp : Hp (ltb b) es 0) {t X : Ent} (ht : es[0]? = some t) (hn : vs.Nodup) (hx : vs[m]? = some X.e) (hXk : X.k = kf X.e) (hXi : X.i = ord) (hk : klt b X.k t.k = true) {ord' : Int} (ho : Mine.ilt b ord ord') :
    HInv vs kf b n (m + 1) (es.set 0 X) ord' := by
  have ht0 : t ∈ es := List.mem_of_getElem? ht
  have hkt := H.key t ht0
  obtain ⟨es', rfl⟩ : ∃ es', es = t :: es' := by
    cases es with
    | nil => simp at ht
    | cons a r => simp at ht; exact ⟨r, by rw [ht]⟩
  rw [List.set_cons_zero]
  have bx : ∀ e ∈ t :: es', bef vs e.e X.e := fun e he => by
    obtain ⟨j, hj, e1⟩ := List.mem_take_iff_getElem.mp (H.mem e he)
    exact bef_at hn (i := j) (j := m) (by rw [List.getElem?_eq_getElem (by lia), e1]) hx (by lia)
  have hmX : vs.take (m + 1) = vs.take m ++ [X.e] := by rw [List.take_add_one, hx]; rfl
  have itr : ∀ {i j k : Int}, Mine.ilt b i j → Mine.ilt b j k → Mine.ilt b i k := fun h1 h2 => by
    unfold Mine.ilt at *; cases b <;> simp only [Bool.false_eq_true, if_false, if_true] at * <;> lia
  have iirr : ∀ {i : Int}, ¬ Mine.ilt b i i := fun h => by
    unfold Mine.ilt at h; cases b <;> simp only [Bool.false_eq_true, if_false, if_true] at h <;> lia
  have Xt : RR vs kf b X.e t.e := by rw [RR_iff, ← hXk, ← hkt]; exact .inl hk
  refine ⟨H.len, ?_, ?_, ?_, ?_, ?_, ?_, ?_⟩
  · intro e he
    rcases List.mem_cons.mp he with rfl | he
    · exact hXk
    · exact H.key e (.tail _ he)
  · intro e he
    rw [hmX]
    rcases List.mem_cons.mp he with rfl | he
    · simp
    · exact List.mem_append_left _ (H.mem e (.tail _ he))
  · intro e he
    rcases List.mem_cons.mp he with rfl | he
    · rw [hXi]; exact ho
    · exact itr (H.ilt e (.tail _ he)) ho
  · intro e he e' he' hi
    rcases List.mem_cons.mp he with rfl | he1
    · rcases List.mem_cons.mp he' with rfl | he'
      · exact absurd hi iirr
      · rw [hXi] at hi; exact absurd (itr hi (H.ilt e' (.tail _ he'))) iirr
    · rcases List.mem_cons.mp he' with q | he2
      · rw [q]; exact bx e (.tail _ he1)
      · exact H.mono e (.tail _ he1) e' (.tail _ he2) hi
  · intro x hx' y hy' hi
    rcases List.mem_cons.mp hx' with rfl | hx1
    · rcases List.mem_cons.mp hy' with rfl | hy'
      · rfl
      · have := H.ilt y (.tail _ hy'); rw [← hi, hXi] at this; exact absurd this iirr
    · rcases List.mem_cons.mp hy' with q | hy1
      · have := H.ilt x (.tail _ hx1); rw [hi, q, hXi] at this; exact absurd this iirr
      · exact H.inj x (.tail _ hx1) y (.tail _ hy1) hi
  · refine List.nodup_cons.mpr ⟨fun hX => ?_, (List.nodup_cons.mp H.nd).2⟩
    have := H.ilt X (.tail _ hX)
    rw [hXi] at this
    exact iirr this
  · intro y hy hno e he
    rw [hmX, List.mem_append] at hy
    have hyX : y ≠ X.e := fun q => hno X (.head _) q.symm
    rcases hy with hy | hy
    · by_cases q : y = t.e
      · subst q
        rcases List.mem_cons.mp he with rfl | he
        · exact Xt
        · rcases H.top hp ht e (.tail _ he) with rfl | h
          · exact absurd rfl (hno e (.tail _ he))
          · exact H.rel (.tail _ he) ht0 h
      · have hno' : ∀ e ∈ t :: es', e.e ≠ y := fun e he => by
          rcases List.mem_cons.mp he with rfl | he
          · exact fun h => q h.symm
          · exact hno e (.tail _ he)
        rcases List.mem_cons.mp he with rfl | he
        · exact RR_trans Xt (H.rest y hy hno' t ht0)
        · exact H.rest y hy hno' e (.tail _ he)
    · exact absurd (by simpa using hy) hyX
theorem HInv.done (H : HInv vs kf b n m es ord) (hm : vs.length ≤ m) (hs : ESorted b es es') : Pick vs kf b n (es'.map Ent.e) := by
  have H' := H.perm hs.1
  have ht : vs.take m = vs := List.take_of_length_le hm
  refine ⟨by rw [List.length_map, H'.len], ?_, ?_, ?_⟩
  · rw [List.pairwise_map]
    refine List.Pairwise.imp_of_mem (fun {x y} hx hy h => H'.rel hx hy ?_) hs.2
    unfold ltb
    exact (by cases b <;> simpa using h)
  · intro x hx
    obtain ⟨e, he, rfl⟩ := List.mem_map.mp hx
    exact List.mem_of_mem_take (H'.mem e he)
  · intro y hy hno x hx
    obtain ⟨e, he, rfl⟩ := List.mem_map.mp hx
    exact H'.rest y (by rw [ht]; exact hy) (fun e' he' q => hno (List.mem_map.mpr ⟨e', he', q⟩)) e he
/-- the entries of the first n -/
noncomputable def Init (vs : List Value) (kf : Value → Str) (b : Bool) (es : List Ent) : Prop := ∀ (j : Nat) (e : Ent), es[j]? = some e → e.k = kf e.e ∧ e.i = sg b j ∧ vs[j]? = some e.e
theorem Init.hinv (h : Init vs kf b es) (hl : es.length = n) (hv : vs.Nodup) (hn : n ≤ vs.length) : HInv vs kf b n n es (sg b n) := by
  have get : ∀ e ∈ es, ∃ j, j < n ∧ es[j]? = some e := fun e he => by
    obtain ⟨j, hj⟩ := List.mem_iff_getElem?.mp he
    refine ⟨j, ?_, hj⟩
    rcases Nat.lt_or_ge j es.length with h | h
    · lia
    · rw [List.getElem?_eq_none h] at hj; cases hj
  have isg : ∀ {i j : Nat}, ilt b (sg b i) (sg b j) ↔ i < j := fun {i j} => by unfold ilt sg; cases b <;> simp
  have inj : Inj es := fun x hx y hy e => by
    obtain ⟨i, hi, ex⟩ := get x hx
    obtain ⟨j, hj, ey⟩ := get y hy
    rw [(h i x ex).2.1, (h j y ey).2.1] at e
    have : i = j := by unfold sg at e; cases b <;> simp at e <;> lia
    subst this
    rw [ex] at ey; cases ey; rfl
  refine ⟨hl, fun e he => ?_, fun e he => ?_, fun e he => ?_, fun e he e' he' hi => ?_, inj, ?_, fun y hy hno e he => ?_⟩
  · obtain ⟨j, _, ej⟩ := get e he; exact (h j e ej).1
  · obtain ⟨j, hj, ej⟩ := get e he
    rw [List.mem_take_iff_getElem]
    obtain ⟨hl', e1⟩ := List.getElem?_eq_some_iff.mp (h j e ej).2.2
    exact ⟨j, by lia, e1⟩
  · obtain ⟨j, hj, ej⟩ := get e he
    rw [(h j e ej).2.1]; exact isg.mpr hj
  · obtain ⟨i, hi', ei⟩ := get e he
    obtain ⟨j, hj, ej⟩ := get e' he'
    rw [(h i e ei).2.1, (h j e' ej).2.1, isg] at hi
    exact bef_at hv (h i e ei).2.2 (h j e' ej).2.2 hi
  · rw [List.nodup_iff_pairwise_ne, List.pairwise_iff_getElem]
    intro i j hi hj hij e
    have a1 := (h i es[i] (List.getElem?_eq_getElem hi)).2.1
    have a2 := (h j es[j] (List.getElem?_eq_getElem hj)).2.1
    rw [e, a2] at a1
    unfold sg at a1; cases b <;> simp at a1 <;> lia
  · obtain ⟨j, hj, e1⟩ := List.mem_take_iff_getElem.mp hy
    have hjl : j < es.length := by lia
    have := (h j es[j] (List.getElem?_eq_getElem hjl)).2.2
    rw [List.getElem?_eq_getElem (by lia), e1] at this
    injection this with this
    exact absurd this.symm (hno _ (List.getElem_mem hjl))
end
end
end
section
open PySem PyProof.Rows
section
theorem KeyOk.mono {prog : Program} {w : World} {hb : Heap} {kv : Value} {D₀ D₁ : Addr → Option AO} {kf : Value → Str} {P : Value → Prop} {du dd : Nat} (h : KeyOk prog w hb kv D₀ kf P du dd) (hd : ∀ a x, D₀ a = some x → D₁ a = some x) : KeyOk prog w hb kv D₁ kf P du dd :=
  fun c A σ v Q h1 h2 => h c A σ v Q h1 fun a x e => h2 a x (hd a x e)
theorem New.off {c : Cf} {σ : St} {a : Addr} {D₀ : Addr → Option AO} (h : New c σ a) (hd : ∀ a x, D₀ a = some x → σ.D a = some x) : D₀ a = none := by
  cases q : D₀ a with
  | none => rfl
  | some x => have := hd _ _ q; rw [h.d] at this; cases this
theorem le_put {D D' : Addr → Option AO} {a : Addr} {x : AO} (h : ∀ b y, D b = some y → D' b = some y) (hn : D a = none) : ∀ b y, D b = some y → upd D' a x b = some y := le_upd_new h hn
theorem CallOk.fn {c : Cf} {σ : St} {D₀ : Addr → Option AO} {fn : Addr} (h : ∃ o fd, D₀ fn = some (.obj o) ∧ o.data = .func fd) (hd : ∀ a x, D₀ a = some x → σ.D a = some x) : CallOk c σ (.ref fn) :=
  let ⟨o, fd, e, d⟩ := h; ⟨fd, fun s hs => ⟨o, hs.obj (hd _ _ e), d⟩⟩
/-- what a call of nsmallest or nlargest finds -/
structure NSH (w : World) (c : Cf) (A : Around) (D₀ D : Addr → Option AO) (l ka fn : Addr) (vs : List Value) (kf : Value → Str) (P : Value → Prop) (du dd n : Nat) : Prop where
  hK : KeyOk prg w c.hb (.ref fn) D₀ kf P du dd
  hfn : ∃ o fd, D₀ fn = some (.obj o) ∧ o.data = .func fd
  hD : ∀ a x, D₀ a = some x → D a = some x
  hl : D₀ l = some (.list vs)
  hP : ∀ v ∈ vs, P v
  hV : ∀ v ∈ vs, ∃ a xs, v = .ref a ∧ D₀ a = some (.list xs)
  nd : vs.Nodup
  h64 : vs.length < 64
  n : n ≤ vs.length
  handled : A.handled = none
  guards : A.guards = some []
  units : A.units + 20 + du < cLine
  depth : A.depth + 5 + dd < recursionLimit
  hka : D ka = some (.cell (some (.ref fn)))
  nka : D₀ ka = none
  cells : c.env.cells = [(Str.ofString "key", ka)]
structure TopS (hb : Heap) : Prop where
  iter : GNm hb "iter" (.builtin "iter")
  object : GNm hb "object" (.type "object")
  min : GNm hb "min" (.builtin "min")
  max : GNm hb "max" (.builtin "max")
  sorted : GNm hb "sorted" (.builtin "sorted")
  zip : GNm hb "zip" (.type "zip")
@[reducible] noncomputable def nmNS : List Str := ["n", "iterable", "it", "sentinel", "result", "size", "elem", "top", "order", "_heapreplace", "_order", "k", "_elem"]
theorem ns_one {w : World} {c : Cf} {A : Around} {D₀ D : Addr → Option AO} {l ka fn : Addr} {vs : List Value} {kf : Value → Str} {P : Value → Prop} {du dd : Nat} {t : Tok} {Q : Flow → St → Prop}
   (T : TopH c.hb) (S : TopS c.hb) (hsc : c.env.scope = scopeAt 12) (H : NSH w c A D₀ D l ka fn vs kf P du dd 1)
   (h : ∀ r v D' out, (∀ a x, D₀ a = some x → D' a = some x) → D' r = some (.list out) → D₀ r = none → Pick vs kf false 1 out → Q (.ret (.ref r)) ⟨v, D'⟩)
   : WP prg w (c.nm nmNS) A (execs (bodyAt 12) c.env) Q ⟨[some (.int 1 t), some (.ref l), none, none, none, none, none, none, none, none, none, none, none], D⟩ := by
  obtain ⟨v₀, vs', rfl⟩ : ∃ v₀ vs', vs = v₀ :: vs' := by
    cases vs with
    | nil => have := H.n; simp at this
    | cons a r => exact ⟨a, r, rfl⟩
  have hkey : c.env.kindOf (Str.ofString "key") = some .cell := by show c.env.scope.names.lookup _ = _; rw [hsc]; rfl
  have hkc : c.env.cells.lookup (Str.ofString "key") = some ka := by rw [H.cells]; rfl
  refine WP.execs_cons ?_
  walk_at "go"
  refine WP.gname S.iter (by show c.env.scope.names.lookup _ = _; rw [hsc]; rfl) (by decide) ?_
  walk_at "go"
  refine WP.iter (H.hD _ _ H.hl) fun it hit => ?_
  walk_at "go"
  refine WP.gname S.object (by show c.env.scope.names.lookup _ = _; rw [hsc]; rfl) (by decide) ?_
  walk_at "go"
  refine WP.object fun se hse => ?_
  walk_at "go"
  have nit : D₀ it = none := hit.off H.hD
  have nse : D₀ se = none := hse.off (le_put H.hD nit)
  have it_se : it ≠ se := hse.ne upd_self
  have hka1 : ka ≠ it := hit.ne H.hka
  have hka2 : ka ≠ se := hse.ne ((upd_ne hka1).trans H.hka)
  refine WP.callN ?_
  refine WP.gname S.min (by show c.env.scope.names.lookup _ = _; rw [hsc]; rfl) (by decide) ?_
  walk_at "go"
  refine WP.cname hkey hkc (by dsimp only; rw [upd_ne hka2, upd_ne hka1]; exact H.hka) ?_
  refine EvL.nil ?_
  refine ⟨CallOk.b, ?_⟩
  show WP _ _ _ _ (call (.builtin "min") [.ref it] [(Str.ofString "default", .ref se), (Str.ofString "key", .ref fn)]) _ _
  refine WP.minKey (D₀ := upd D₀ se objO) (l := l) rfl (H.hK.mono (le_upd_new le_refl nse)) H.handled H.guards (by have := H.units; lia) (by have := H.depth; lia) H.hP ((upd_ne fun e => by rw [e] at H; have := H.hl; rw [nse] at this; cases this).trans H.hl) (le_upd fun a x e => (upd_ne fun q => by rw [q, nit] at e; cases e).trans (H.hD a x e)) ((upd_ne it_se).trans nit) ((upd_ne it_se).trans upd_self) fun D' hD' => ?_
  walk_at "go"
  obtain ⟨a, xs, ea, ha⟩ := H.hV (best slt kf v₀ vs') ((pick_best (b := false) (kf := kf) H.nd).mem _ (.head _))
  rw [ea]
  have hase : a ≠ se := fun e => by rw [e, nse] at ha; cases ha
  refine WP.isOther hase (hD' _ _ ((upd_ne hase).trans ha)) (hD' _ _ upd_self) ?_
  walk_at "go"
  intro r hr
  walk_at "go"
  have nr : D₀ r = none := hr.off fun p x e => hD' _ _ ((upd_ne fun q => by rw [q, nse] at e; cases e).trans e)
  refine h r _ _ _ (fun p x e => ?_) upd_self nr ?_
  · rw [upd_ne (fun q => by rw [q, nr] at e; cases e)]
    exact hD' _ _ ((upd_ne fun q => by rw [q, nse] at e; cases e).trans e)
  · have := pick_best (b := false) (kf := kf) H.nd
    rw [show (fun k k' => klt false k k') = slt from rfl, ea] at this
    exact this
theorem ns_all {w : World} {c : Cf} {A : Around} {D₀ D : Addr → Option AO} {l ka fn : Addr} {vs : List Value} {kf : Value → Str} {P : Value → Prop} {du dd n : Nat} {t : Tok} {Q : Flow → St → Prop}
   (T : TopH c.hb) (S : TopS c.hb) (hsc : c.env.scope = scopeAt 12) (H : NSH w c A D₀ D l ka fn vs kf P du dd n) (h1 : n ≠ 1) (hn : vs.length ≤ n)
   (h : ∀ r v D' out, (∀ a x, D₀ a = some x → D' a = some x) → D' r = some (.list out) → D₀ r = none → Pick vs kf false n out → Q (.ret (.ref r)) ⟨v, D'⟩)
   : WP prg w (c.nm nmNS) A (execs (bodyAt 12) c.env) Q ⟨[some (.int n t), some (.ref l), none, none, none, none, none, none, none, none, none, none, none], D⟩ := by
  have hkey : c.env.kindOf (Str.ofString "key") = some .cell := by show c.env.scope.names.lookup _ = _; rw [hsc]; rfl
  have hkc : c.env.cells.lookup (Str.ofString "key") = some ka := by rw [H.cells]; rfl
  have hv := H.h64
  refine WP.execs_cons ?_
  walk_at "go"
  rw [if_neg (by simp; lia)]
  try (refine WP.execs_nil ?_)
  walk_at "go"
  refine WP.gname T.len (by show c.env.scope.names.lookup _ = _; rw [hsc]; rfl) (by decide) ?_
  walk_at "go"
  refine WP.len (H.hD _ _ H.hl) (by lia) fun _ => ?_
  walk_at "go"
  try (refine WP.execs_nil ?_)
  walk_at "go"
  rw [if_pos (by simp; lia)]
  walk_at "go"
  refine WP.callN ?_
  refine WP.gname S.sorted (by show c.env.scope.names.lookup _ = _; rw [hsc]; rfl) (by decide) ?_
  walk_at "go"
  refine WP.cname hkey hkc H.hka ?_
  refine EvL.nil ?_
  refine ⟨CallOk.b, ?_⟩
  show WP _ _ _ _ (call (.builtin "sorted") [.ref l] [(Str.ofString "key", .ref fn)]) _ _
  refine WP.sortedKey (b := false) (D₀ := D₀) (before := bef vs) H.hK (ksk_s1 _ _) (fun _ => ksk_l1 _ _) (fun _ => ksk_t1 _ _) H.handled H.guards (by have := H.units; lia) (by have := H.depth; lia) H.hP H.hD (H.hD _ _ H.hl) (bef_pw H.nd) H.h64 fun a out D' ha ho hD' hout na => ?_
  walk_at "go"
  refine WP.slice ?_
  refine WP.pure ?_
  show WP _ _ _ _ (eval (.Name (Str.ofString "n") _) _) _ _
  walk_at "go"
  intro sl hsl
  walk_at "go"
  have hasl : a ≠ sl := hsl.ne hout
  refine WP.cut (vs := out) ((upd_ne hasl).trans hout) upd_self .none (.int _ _) (by rw [ho.1.length_eq]; lia) fun r hr => ?_
  have nsl : D₀ sl = none := hsl.off hD'
  have nr : D₀ r = none := hr.off (le_put hD' nsl)
  refine h r _ _ _ (le_put (le_put hD' nsl) nr) upd_self nr ?_
  rw [slicePick_upto']
  exact pick_sorted ho H.n
end
end
section
open PySem PyProof.Rows
section
variable {prog : Program} {w : World} {c : Cf} {A : Around} {σ : St}
theorem WP.assignT {es : List Expr} {k : Nat} {p' p : Pos} {e : Expr} {Q : Flow → St → Prop}
    (h : WP prog w c A (eval e c.env) (fun v σ' => WP prog w c A (PySem.assign (.Tuple es k p') c.env v) (fun _ σ'' => Q .next σ'') σ') σ)
    (hs : swapsWithSole [.Tuple es k p'] e p.line c.env = Pure.pure false := by with_unfolding_all rfl)
    (hw : swappedStores [.Tuple es k p'] e c.env = Pure.pure none := by with_unfolding_all rfl) :
    WP prog w c A (exec (.Assign [.Tuple es k p'] e p) c.env) Q σ := fun s ha =>
  Assign_Tuple (wpAny_mono (h s ha) (fun v s₁ xq => ex3 xq fun σ₁ a₁ q₁ => q₁ s₁ a₁) fun _ _ e => e) hs hw
theorem WP.asg2 {x1 x2 : Str} {p1 p2 p : Pos} {k i1 i2 : Nat} {t : Addr} {a b : Value} {Q : Unit → St → Prop} (hh : A.handled = none) (h1 : IxAt c.names x1 i1) (h2 : IxAt c.names x2 i2)
    (ht : σ.D t = some (.tuple [a, b])) (h : Q () ((σ.set i1 a).set i2 b)) : WP prog w c A (PySem.assign (.Tuple [.Name x1 p1, .Name x2 p2] k p) c.env (.ref t)) Q σ :=
  WP.asgTuple hh ht rfl rfl (show WP prog w c A (PySem.assign (.Name x1 p1) c.env a) (fun _ σ' => WP prog w c A (PySem.assign (.Name x2 p2) c.env b) (fun _ σ'' => Q () σ'') σ') σ from WP.asgName h1 (WP.asgName h2 h))
theorem WP.asg3 {x1 x2 x3 : Str} {p1 p2 p3 p : Pos} {k i1 i2 i3 : Nat} {t : Addr} {a b d : Value} {Q : Unit → St → Prop} (hh : A.handled = none) (h1 : IxAt c.names x1 i1) (h2 : IxAt c.names x2 i2) (h3 : IxAt c.names x3 i3)
    (ht : σ.D t = some (.tuple [a, b, d])) (h : Q () (((σ.set i1 a).set i2 b).set i3 d)) : WP prog w c A (PySem.assign (.Tuple [.Name x1 p1, .Name x2 p2, .Name x3 p3] k p) c.env (.ref t)) Q σ :=
  WP.asgTuple hh ht rfl rfl (show WP prog w c A (PySem.assign (.Name x1 p1) c.env a) (fun _ σ₁ => WP prog w c A (PySem.assign (.Name x2 p2) c.env b) (fun _ σ₂ => WP prog w c A (PySem.assign (.Name x3 p3) c.env d) (fun _ σ₃ => Q () σ₃) σ₂) σ₁) σ from WP.asgName h1 (WP.asgName h2 (WP.asgName h3 h)))
theorem len_two {α : Type} {v : List α} (h : v.length = 2) : ∃ a b, v = [a, b] := by
  cases v with
  | nil => cases h
  | cons a t => cases t with
    | nil => cases h
    | cons b t => cases t with
      | nil => exact ⟨a, b, rfl⟩
      | cons c t => simp at h
theorem len_three {α : Type} {v : List α} (h : v.length = 3) : ∃ a b c, v = [a, b, c] := by
  cases v with
  | nil => cases h
  | cons a t =>
    obtain ⟨b, c, rfl⟩ := len_two (v := t) (by simpa using h)
    exact ⟨a, b, c, rfl⟩
@[reducible] noncomputable def nmC1 : List Str := ["i", "elem"]
@[reducible] noncomputable def nmC2 : List Str := ["k", "order", "elem"]
theorem sg_succ {b : Bool} {j : Nat} : sg b j + sg b 1 = sg b ((j + 1 : Nat) : Int) := by unfold sg; cases b <;> simp <;> lia
/-- [(key(elem), i, elem) for i, elem in zip(range.., it)] -/
theorem comp_in1 {p1 p2 p3 p4 p5 p6 p7 p8 p9 pos : Pos} {k1 k2 : Nat} {iter : Expr} {scope : Scope} {D₀ : Addr → Option AO} {l ka fn z TI TO i1 it acc : Addr} {vs : List Value} {kf : Value → Str} {P : Value → Prop} {du dd n : Nat} {b : Bool} {D : Addr → Option AO} {Q : Flow → St → Prop}
    (hK : KeyOk prg w c.hb (.ref fn) D₀ kf P du dd) (hfn : ∃ o fd, D₀ fn = some (.obj o) ∧ o.data = .func fd) (hl : D₀ l = some (.list vs)) (hP : ∀ v ∈ vs, P v) (hn : n ≤ vs.length) (h64 : vs.length < 64)
    (hh : A.handled = none) (hg : A.guards = some []) (hu : A.units + du < cLine) (hd : A.depth + dd < recursionLimit)
    (hk : c.env.kindOf (Str.ofString "key") = some .cell) (hkc : c.env.cells.lookup (Str.ofString "key") = some ka)
    (nz : D₀ z = none) (nTO : D₀ TO = none) (ni1 : D₀ i1 = none) (nit : D₀ it = none) (nacc : D₀ acc = none)
    (hD : ∀ a x, D₀ a = some x → D a = some x) (hka : D ka = some (.cell (some (.ref fn)))) (hacc : D acc = some (.list []))
    (Z : ZipSt D z TI TO i1 it l 0 n (sg b 1) 0 .none)
    (h : ∀ v es D', (∀ a x, D₀ a = some x → D' a = some x) → D' ka = some (.cell (some (.ref fn))) → D' acc = some (.list (es.map Ent.ref)) → Ents D' es → es.length = n → Init vs kf b es → D' it = some (.lit l n) → Q .next ⟨v, D'⟩) :
    WC prg w (c.nm nmC1) A (.compLoop (.ListComp (.Tuple [.Call (.Name (Str.ofString "key") p1) [.Name (Str.ofString "elem") p2] [] p3, .Name (Str.ofString "i") p4, .Name (Str.ofString "elem") p5] k1 p6)
      [⟨.Tuple [.Name (Str.ofString "i") p7, .Name (Str.ofString "elem") p8] k2 p9, iter, [], 0⟩] scope pos) 0 (.ref z) (.ref acc) c.env) Q ⟨[none, none], D⟩ := by
  let I : Nat → St → Prop := fun r σ => ∃ j es v D', σ = ⟨v, D'⟩ ∧ v.length = 2 ∧ j + r = n ∧ (∀ a x, D₀ a = some x → D' a = some x) ∧ D' ka = some (.cell (some (.ref fn))) ∧ D' acc = some (.list (es.map Ent.ref)) ∧ Ents D' es ∧ es.length = j ∧ Init vs kf b es ∧
    ZipSt D' z TI TO i1 it l (sg b j) (n - j : Int) (sg b 1) j .none
  refine WC.compLoop I ?turn n ?start
  case start =>
    refine ⟨0, [], _, D, rfl, rfl, by lia, hD, hka, hacc, fun e he => (nomatch he), rfl, fun j e he => by simp at he, ?_⟩
    rw [show sg b ((0 : Nat) : Int) = 0 by unfold sg; cases b <;> rfl, show ((n : Int) - ((0 : Nat) : Int)) = (n : Int) by lia]; exact Z
  rintro r σ ⟨j, es, v, D', rfl, hv, hj, hD', hka', hacc', he, hlen, hin, Z'⟩
  obtain ⟨v1, v2, rfl⟩ := len_two hv
  cases r with
  | zero =>
    refine WP.nextZipEnd hh Z' (by lia) ?_
    have hz := Z'.z
    have h1 := Z'.i1
    have hit := Z'.it
    have d : ∀ p x, D' p = some x → p ≠ z → p ≠ i1 → del (del D' i1) z p = some x := fun p x e q1 q2 => by rw [del_ne q1, del_ne q2, e]
    refine h _ es _ (fun p x e => d p x (hD' p x e) (fun q => by rw [q, nz] at e; cases e) (fun q => by rw [q, ni1] at e; cases e)) (d _ _ hka' (fun q => by rw [q, hz] at hka'; cases hka') (fun q => by rw [q, h1] at hka'; cases hka'))
      (d _ _ hacc' (fun q => by rw [q, hz] at hacc'; cases hacc') (fun q => by rw [q, h1] at hacc'; cases hacc')) (fun e hm => d _ _ (he e hm) (fun q => by have := he e hm; rw [q, hz] at this; cases this) (fun q => by have := he e hm; rw [q, h1] at this; cases this))
      (by lia) hin ?_
    rw [show n = j by lia]
    exact d _ _ hit (fun q => by rw [q, hz] at hit; cases hit) (fun q => by rw [q, h1] at hit; cases hit)
  | succ r =>
    have hjl : j < vs.length := by lia
    have hy : vs[j]? = some vs[j] := List.getElem?_eq_getElem hjl
    have hPy := hP _ (List.getElem_mem hjl)
    generalize vs[j] = y at hy hPy
    refine WP.nextZip (vs := vs) (y := y) Z' (by lia) (hD' _ _ hl) hy fun T t D1 Z1 hT nT hfr => ?_
    refine WP.lotZip Z1 ?_
    have Tz : T ≠ z := fun q => by rw [q, Z1.z] at hT; cases hT
    obtain ⟨ta, tb, hTO'⟩ := Z'.to
    replace hfr : ∀ p, p ≠ z → p ≠ TO → p ≠ i1 → p ≠ it → p ≠ T → D1 p = D' p := hfr
    have fr : ∀ p x, D' p = some x → p ≠ z → p ≠ TO → p ≠ i1 → p ≠ it → upd D1 z (zipO .none TI TO) p = some x := fun p x e q1 q2 q3 q4 => by
      rw [upd_ne q1, hfr p q1 q2 q3 q4 (fun q => by rw [q] at e; have := nT.d; dsimp only at this; rw [this] at e; cases e), e]
    have hD2 : ∀ p x, D₀ p = some x → upd D1 z (zipO .none TI TO) p = some x := fun p x e => fr p x (hD' p x e) (fun q => by rw [q, nz] at e; cases e) (fun q => by rw [q, nTO] at e; cases e) (fun q => by rw [q, ni1] at e; cases e) (fun q => by rw [q, nit] at e; cases e)
    have hka2 := fr _ _ hka' (fun q => by rw [q, Z'.z] at hka'; cases hka') (fun q => by rw [q, hTO'] at hka'; cases hka') (fun q => by rw [q, Z'.i1] at hka'; cases hka') (fun q => by rw [q, Z'.it] at hka'; cases hka')
    have hacc2 := fr _ _ hacc' (fun q => by rw [q, Z'.z] at hacc'; cases hacc') (fun q => by rw [q, hTO'] at hacc'; cases hacc') (fun q => by rw [q, Z'.i1] at hacc'; cases hacc') (fun q => by rw [q, Z'.it] at hacc'; cases hacc')
    have he2 : Ents (upd D1 z (zipO .none TI TO)) es := fun e hm => by
      have h0 := he e hm
      exact fr _ _ h0 (fun q => by rw [q, Z'.z] at h0; cases h0) (fun q => by rw [q, hTO'] at h0; cases h0) (fun q => by rw [q, Z'.i1] at h0; cases h0) (fun q => by rw [q, Z'.it] at h0; cases h0)
    have Z2 : ZipSt (upd D1 z (zipO .none TI TO)) z TI TO i1 it l (sg b j + sg b 1) ((n : Int) - j - 1) (sg b 1) (j + 1) .none := by
      obtain ⟨za, zb, zc, zd, ze, zf⟩ := Z1
      obtain ⟨zc1, zc2, zc⟩ := zc
      exact ⟨upd_self, (upd_ne fun q => by rw [q, za] at zb; cases zb).trans zb, ⟨zc1, zc2, (upd_ne fun q => by rw [q, za] at zc; cases zc).trans zc⟩, (upd_ne fun q => by rw [q, za] at zd; simp at zd).trans zd, (upd_ne fun q => by rw [q, za] at ze; cases ze).trans ze, zf⟩
    refine WP.asg2 hh (by walk_at "ix") (by walk_at "ix") ((upd_ne Tz).trans hT) ?_
    dsimp only [St.set, St.put, List.set]
    generalize upd D1 z (zipO .none TI TO) = D2 at hD2 hka2 hacc2 he2 Z2 ⊢
    walk_at "go"
    refine WP.cname hk hkc (by exact hka2) ?_
    walk_at "go"
    refine ⟨CallOk.fn hfn hD2, ?_⟩
    refine hK _ _ _ _ _ rfl hD2 hPy hu hd hg hh fun tk => ?_
    walk_at "go"
    intro X hX
    walk_at "go"
    have nX : D₀ X = none := hX.off hD2
    have accX : acc ≠ X := hX.ne hacc2
    refine WP.append ((upd_ne accX).trans hacc2) (by simp; lia) ?_
    have hXacc : D2 X = none := hX.d
    dsimp only [St.put]
    refine ⟨r, by lia, j + 1, es ++ [⟨X, kf y, tk, sg b j, t, y⟩], _, _, rfl, rfl, by lia, ?_, ?_, ?_, ?_, ?_, ?_, ?_⟩
    · intro p x e
      rw [upd_ne (fun q => by rw [q, nacc] at e; cases e), upd_ne (fun q => by rw [q, nX] at e; cases e)]
      exact hD2 p x e
    · rw [upd_ne (fun q => by rw [q, hacc2] at hka2; cases hka2), upd_ne (fun q => by rw [q, hXacc] at hka2; cases hka2)]
      exact hka2
    · rw [upd_self, List.map_append]; rfl
    · intro e hm
      rcases List.mem_append.mp hm with hm | hm
      · have h0 := he2 e hm
        rw [upd_ne (fun q => by rw [q, hacc2] at h0; cases h0), upd_ne (fun q => by rw [q, hXacc] at h0; cases h0)]
        exact h0
      · rw [List.mem_singleton.mp hm, upd_ne accX.symm, upd_self]
    · simp [hlen]
    · intro i e hi
      rcases Nat.lt_or_ge i es.length with hlt | hge
      · rw [List.getElem?_append_left hlt] at hi
        exact hin i e hi
      · rw [List.getElem?_append_right hge] at hi
        have hi0 : i - es.length = 0 := by
          rcases Nat.eq_zero_or_pos (i - es.length) with h | h
          · exact h
          · rw [List.getElem?_eq_none (by simp; lia)] at hi; cases hi
        rw [hi0] at hi
        have hij : i = j := by lia
        simp at hi
        subst hi hij
        exact ⟨rfl, rfl, hy⟩
    · have q : ∀ p x, D2 p = some x → p ≠ acc → upd (upd D2 X (.tuple [.str (kf y) tk, .int (sg b j) t, y])) acc (.list ((es ++ [(⟨X, kf y, tk, sg b j, t, y⟩ : Ent)]).map Ent.ref)) p = some x := fun p x e q1 => by
        rw [upd_ne q1, upd_ne (fun q => by rw [q, hXacc] at e; cases e), e]
      obtain ⟨za, zb, ⟨zc1, zc2, zc⟩, zd, ze, zf⟩ := Z2
      rw [← sg_succ, show ((n : Int) - ((j + 1 : Nat) : Int)) = (n : Int) - j - 1 by lia]
      rw [List.map_append] at q
      exact ⟨q _ _ za fun q => (by rw [q, hacc2] at za; cases za), q _ _ zb fun q => (by rw [q, hacc2] at zb; cases zb), ⟨zc1, zc2, q _ _ zc fun q => (by rw [q, hacc2] at zc; cases zc)⟩, q _ _ zd fun q => (by rw [q, hacc2] at zd; cases zd), q _ _ ze fun q => (by rw [q, hacc2] at ze; cases ze), zf⟩
/-- [elem for k, order, elem in result] -/
theorem comp_out {p1 p2 p3 p4 p5 pos : Pos} {k2 : Nat} {iter : Expr} {scope : Scope} {D₀ D : Addr → Option AO} {l it acc : Addr} {es : List Ent} {Q : Flow → St → Prop}
    (hh : A.handled = none) (h64 : es.length < 1000) (nit : D₀ it = none) (nacc : D₀ acc = none) (hD : ∀ a x, D₀ a = some x → D a = some x)
    (hl : D l = some (.list (es.map Ent.ref))) (he : Ents D es) (hit : D it = some (.lit l 0)) (hacc : D acc = some (.list [])) (hla : l ≠ acc)
    (h : ∀ v D', (∀ a x, D₀ a = some x → D' a = some x) → D' acc = some (.list (es.map Ent.e)) → Q .next ⟨v, D'⟩) :
    WC prg w (c.nm nmC2) A (.compLoop (.ListComp (.Name (Str.ofString "elem") p1) [⟨.Tuple [.Name (Str.ofString "k") p2, .Name (Str.ofString "order") p3, .Name (Str.ofString "elem") p4] k2 p5, iter, [], 0⟩] scope pos) 0 (.ref it) (.ref acc) c.env) Q ⟨[none, none, none], D⟩ := by
  have li : l ≠ it := fun q => by rw [q, hit] at hl; cases hl
  have ai : acc ≠ it := fun q => by rw [q, hit] at hacc; cases hacc
  let I : Nat → St → Prop := fun r σ => ∃ j v, σ = ⟨v, upd (upd D it (.lit l j)) acc (.list ((es.take j).map Ent.e))⟩ ∧ v.length = 3 ∧ j + r = es.length
  refine WC.compLoop I ?turn es.length ?start
  case start =>
    refine ⟨0, [none, none, none], ?_, rfl, by lia⟩
    rw [upd_same hit]
    show _ = (⟨_, upd D acc (.list [])⟩ : St)
    rw [upd_same hacc]
  rintro r σ ⟨j, v, rfl, hv, hj⟩
  obtain ⟨v1, v2, v3, rfl⟩ := len_three hv
  have hl' : upd (upd D it (.lit l j)) acc (.list ((es.take j).map Ent.e)) l = some (.list (es.map Ent.ref)) := by rw [upd_ne hla, upd_ne li, hl]
  have hit' : upd (upd D it (.lit l j)) acc (.list ((es.take j).map Ent.e)) it = some (.lit l j) := by rw [upd_ne ai.symm, upd_self]
  cases r with
  | zero =>
    refine WP.nextListEnd hh hit' hl' (by simp; lia) ?_
    refine h _ _ (fun p x e => ?_) ?_
    · show del (upd (upd D it (.lit l j)) acc (.list ((es.take j).map Ent.e))) it p = _
      rw [del_ne (fun q => by rw [q, nit] at e; cases e), upd_ne (fun q => by rw [q, nacc] at e; cases e), upd_ne (fun q => by rw [q, nit] at e; cases e)]
      exact hD p x e
    · show del (upd (upd D it (.lit l j)) acc (.list ((es.take j).map Ent.e))) it acc = _
      rw [del_ne ai, upd_self, List.take_of_length_le (by lia)]
  | succ r =>
    have hjl : j < es.length := by lia
    have hx : (es.map Ent.ref)[j]? = some (es[j]'hjl).ref := ent_at hjl
    have hee := he _ (List.getElem_mem hjl)
    have ht : es.take (j + 1) = es.take j ++ [es[j]] := by rw [List.take_add_one, List.getElem?_eq_getElem hjl]; rfl
    generalize es[j] = e at hx hee ht
    refine WP.nextList hit' hl' hx ?_
    dsimp only [St.put]
    refine WP.lotList (l := l) (i := j + 1) upd_self ?_
    have ea : e.a ≠ acc := fun q => by rw [q, hacc] at hee; cases hee
    have ei : e.a ≠ it := fun q => by rw [q, hit] at hee; cases hee
    refine WP.asg3 hh (by walk_at "ix") (by walk_at "ix") (by walk_at "ix") (a := .str e.k e.t) (b := .int e.i e.u) (d := e.e) (by dsimp only; rw [upd_ne ei, upd_ne ea, upd_ne ei]; exact hee) ?_
    walk_at "go"
    refine WP.append (vs := (es.take j).map Ent.e) (by dsimp only; rw [upd_ne ai, upd_self]) (by simp; lia) ?_
    refine ⟨r, by lia, j + 1, [some (.str e.k e.t), some (.int e.i e.u), some e.e], ?_, rfl, by lia⟩
    dsimp only [St.put]
    rw [ht, List.map_append, upd_comm ai.symm, upd_upd, upd_comm ai, upd_upd]
    rfl
end
end
section
open PySem PyProof.Rows
section
theorem swaps_true {e : Expr} {g : List Comprehension} {s : Scope} {vp pos : Pos} {t : Str} {line : Nat} {env : Env} (hk : env.scope.kind = .function) (hl : env.kindOf t = some .local) (hp : (pos.line == vp.line) = true)
    (hs : (s.names.any fun (n, k) => n == t && (k == .local || k == .cell)) = false) : swapsWith (.ListComp e g s vp) (some (.Name t pos)) line env = Pure.pure true := by
  show (Pure.pure (env.blockKind == .function && env.kindOf t == some .local && pos.line == vp.line && !(s.names.any fun (n, k) => n == t && (k == .local || k == .cell))) : Sem Bool) = _
  unfold Env.blockKind
  rw [hk, hl, hp, hs]
  rfl
theorem fits_small {x : Int} (h1 : -1000 ≤ x) (h2 : x ≤ 1000) : Builtin.Range.rangeFitsLong x = true := by
  unfold Builtin.Range.rangeFitsLong
  simp only [Bool.and_eq_true, decide_eq_true_eq]
  lia
theorem range_small {n : Nat} (h : n < 900) : Builtin.Range.small 0 (n : Int) 1 = true := by
  have e : Builtin.Range.rangeSize 0 (n : Int) 1 = (n : Int) := by rw [rangeSize_one]; split <;> lia
  unfold Builtin.Range.small
  rw [e, fits_small (x := 0) (by decide) (by decide), fits_small (x := n) (by lia) (by lia), fits_small (x := 1) (by decide) (by decide), if_pos (by decide), fits_small (x := (n : Int) + (1 - 1)) (by lia) (by lia)]
  simp
theorem hp_set0 {lt : Ent → Ent → Bool} {es : List Ent} {X : Ent} (h : Hp lt es 0) : Hp lt (es.set 0 X) 1 := fun j c hj kc hc => by
  rw [List.length_set] at hc
  have := kc.lt
  rw [at_set (by lia), at_set (by lia), if_neg (by lia), if_neg (by lia)]
  exact h j c (by lia) kc hc
theorem ns_heap {w : World} {c : Cf} {A : Around} {D₀ D : Addr → Option AO} {l ka fn : Addr} {vs : List Value} {kf : Value → Str} {P : Value → Prop} {du dd n : Nat} {t : Tok} {Q : Flow → St → Prop}
   (T : TopH c.hb) (S : TopS c.hb) (hsc : c.env.scope = scopeAt 12) (H : NSH w c A D₀ D l ka fn vs kf P du dd n) (h1 : n ≠ 1) (hn : n < vs.length)
   (h : ∀ r v D' out, (∀ a x, D₀ a = some x → D' a = some x) → D' r = some (.list out) → D₀ r = none → Pick vs kf false n out → Q (.ret (.ref r)) ⟨v, D'⟩)
   : WP prg w (c.nm nmNS) A (execs (bodyAt 12) c.env) Q ⟨[some (.int n t), some (.ref l), none, none, none, none, none, none, none, none, none, none, none], D⟩ := by
  have hkey : c.env.kindOf (Str.ofString "key") = some .cell := by show c.env.scope.names.lookup _ = _; rw [hsc]; rfl
  have hkc : c.env.cells.lookup (Str.ofString "key") = some ka := by rw [H.cells]; rfl
  have hkf : c.env.scope.kind = .function := by rw [hsc]; rfl
  have hv := H.h64
  have hu := H.units
  have hdp := H.depth
  have hlD := H.hD _ _ H.hl
  refine WP.execs_cons ?_
  walk_at "go"
  rw [if_neg (by simp; lia)]
  walk_at "go"
  refine WP.gname T.len (by show c.env.scope.names.lookup _ = _; rw [hsc]; rfl) (by decide) ?_
  walk_at "go"
  refine WP.len hlD (by lia) fun _ => ?_
  walk_at "go"
  walk_at "go"
  rw [if_neg (by simp; lia)]
  walk_at "go"
  refine WP.cname hkey hkc H.hka ?_
  walk_at "go"
  walk_at "go"
  refine WP.gname S.iter (by show c.env.scope.names.lookup _ = _; rw [hsc]; rfl) (by decide) ?_
  walk_at "go"
  refine WP.iter hlD fun it hit => ?_
  walk_at "go"
  have nit : D₀ it = none := hit.off H.hD
  have hl1 : upd D it (.lit l 0) l = some (.list vs) := (upd_ne (hit.ne hlD)).trans hlD
  refine WP.assignComp (names := nmC1) (cl := [(Str.ofString "key", ka)]) ⟨rfl, by decide +kernel, by decide +kernel, by decide +kernel, by decide +kernel, by decide +kernel⟩ ?_ (by walk_at "ix") ?_ (swaps_true hkf (by show c.env.scope.names.lookup _ = _; rw [hsc]; rfl) rfl (by decide +kernel))
  · have hco : cellOf c.env (Str.ofString "key") = Pure.pure ka := by unfold cellOf; rw [hkc]
    unfold closureFor
    simp only [List.forIn_cons, List.forIn_nil]
    rw [show cellOf (c.nm nmNS).env (Str.ofString "key") = Pure.pure ka from hco]
    rfl
  walk_at "go"
  refine WP.gname S.zip (by show c.env.scope.names.lookup _ = _; rw [hsc]; rfl) (by decide) ?_
  walk_at "go"
  refine WP.gname T.range (by show c.env.scope.names.lookup _ = _; rw [hsc]; rfl) (by decide) ?_
  walk_at "go"
  refine WP.range1 fun rg _ _ hrg => ?_
  walk_at "go"
  have it_rg : it ≠ rg := hrg.ne upd_self
  have nrg : D₀ rg = none := hrg.off (le_put H.hD nit)
  refine WP.zip upd_self (range_small (by lia)) ((upd_ne it_rg).trans upd_self) fun z TI TO i1 D1 Z nz nTI nTO ni1 hD1 => ?_
  have hD01 : ∀ a x, D₀ a = some x → D1 a = some x := fun a x e => hD1 _ _ (le_put (le_put H.hD nit) nrg _ _ e)
  have hD1' : ∀ p x, upd (upd D it (.lit l 0)) rg (rngO 0 (n : Int) 1 _ t _) p = some x → D1 p = some x := hD1
  have nz0 : D₀ z = none := nz.off (le_put (le_put H.hD nit) nrg)
  have nTO0 : D₀ TO = none := nTO.off (le_put (le_put H.hD nit) nrg)
  have ni10 : D₀ i1 = none := ni1.off (le_put (le_put H.hD nit) nrg)
  have ka_it : ka ≠ it := hit.ne H.hka
  have ka_rg : ka ≠ rg := hrg.ne ((upd_ne ka_it).trans H.hka)
  have hka1 : D1 ka = some (.cell (some (.ref fn))) := hD1' _ _ (by rw [upd_ne ka_rg, upd_ne ka_it]; exact H.hka)
  have rsz : Builtin.Range.rangeSize 0 (n : Int) 1 = (n : Int) := by rw [rangeSize_one]; split <;> lia
  rw [rsz] at Z
  refine WP.iterZip Z ?_
  intro acc hacc c' C g1 g2
  have nacc : D₀ acc = none := hacc.off hD01
  have hkC : c'.env.kindOf (Str.ofString "key") = some .cell := by
    rw [g1]
    show List.lookup _ (List.map _ _) = _
    simp only [List.map]
    rw [hkf, hkey]
    rfl
  have hkcC : c'.env.cells.lookup (Str.ofString "key") = some ka := by rw [g1]; rfl
  have Z2 : ZipSt (upd D1 acc (.list [])) z TI TO i1 it l 0 n 1 0 .none := by
    have q : ∀ p x, D1 p = some x → upd D1 acc (.list []) p = some x := fun p x e => (upd_ne (hacc.ne e)).trans e
    obtain ⟨za, zb, ⟨zc1, zc2, zc⟩, zd, ze, zf⟩ := Z
    exact ⟨q _ _ za, q _ _ zb, ⟨zc1, zc2, q _ _ zc⟩, q _ _ zd, q _ _ ze, zf⟩
  refine WC.compStart (fun P hp => WP.iterZip Z2 hp) ?_
  refine comp_in1 (b := false) (by rw [g2]; exact H.hK) H.hfn H.hl H.hP H.n H.h64 H.handled H.guards (by lia) (by lia) hkC hkcC nz0 nTO0 ni10 nit nacc (le_put hD01 nacc) ((upd_ne (hacc.ne hka1)).trans hka1) upd_self Z2 fun v es D2 hD2 hka2 hacc2 he2 hlen hin hit2 => ?_
  clear hD1 hD1' Z Z2 hka1 hD01 nz nTI nTO ni1 hacc hrg hkC hkcC g1 g2
  walk_at "go"
  refine WP.tplain ?_
  walk_at "go"
  refine WP.truthyList hacc2 (by simp; lia) ?_
  by_cases hn0 : n = 0
  · have hes : es = [] := List.eq_nil_of_length_eq_zero (by lia)
    subst hes
    rw [if_pos (by simp)]
    walk_at "go"
    refine h acc _ _ [] hD2 hacc2 nacc ⟨by simp [hn0], by simp, fun x hx => (nomatch hx), fun y hy hno x hx => (nomatch hx)⟩
  rw [if_neg (by cases es with | nil => simp at hlen; lia | cons a r => simp)]
  walk_at "go"
  obtain ⟨f1, hf1⟩ := T.hymax
  refine WP.gname hf1.1 (by show c.env.scope.names.lookup _ = _; rw [hsc]; rfl) (by decide) ?_
  walk_at "go"
  refine ⟨FnOk.callOk (c := c.nm nmNS) hf1, ?_⟩
  have HI := hin.hinv hlen H.nd H.n
  refine hy_call (es := es) T hf1 hacc2 he2 (by lia) HI.inj (by lia) (by lia) H.handled ?_
  obtain ⟨hp1, pm1⟩ := heapify_ok (lt := elt) (ltb_false ▸ ord_ltb (b := false)) (es.length / 2) (es := es) (by lia) hp_half
  have HI1 := HI.perm pm1
  have he3 : Ents (upd D2 acc (.list ((heapifyF elt (es.length / 2) es).map Ent.ref))) (heapifyF elt (es.length / 2) es) := fun e hm => by
    have h0 := he2 e (pm1.mem_iff.mp hm)
    exact (upd_ne fun q => by rw [q, hacc2] at h0; cases h0).trans h0
  have hit3 : upd D2 acc (.list ((heapifyF elt (es.length / 2) es).map Ent.ref)) it = some (.lit l n) := (upd_ne fun q => by rw [q, hacc2] at hit2; cases hit2).trans hit2
  have hka3 : upd D2 acc (.list ((heapifyF elt (es.length / 2) es).map Ent.ref)) ka = some (.cell (some (.ref fn))) := (upd_ne fun q => by rw [q, hacc2] at hka2; cases hka2).trans hka2
  have hD3 : ∀ p x, D₀ p = some x → upd D2 acc (.list ((heapifyF elt (es.length / 2) es).map Ent.ref)) p = some x := le_put hD2 nacc
  have hacc3 : upd D2 acc (.list ((heapifyF elt (es.length / 2) es).map Ent.ref)) acc = some (.list ((heapifyF elt (es.length / 2) es).map Ent.ref)) := upd_self
  dsimp only
  generalize upd D2 acc (.list ((heapifyF elt (es.length / 2) es).map Ent.ref)) = D3 at he3 hit3 hka3 hD3 hacc3 ⊢
  generalize heapifyF elt (es.length / 2) es = es1 at hp1 pm1 HI1 he3 hacc3
  clear he2 hacc2 hit2 hka2 hD2 hin HI
  obtain ⟨t0, rs, rfl⟩ : ∃ t0 rs, es1 = t0 :: rs := by
    cases es1 with
    | nil => have := HI1.len; simp at this; lia
    | cons a r => exact ⟨a, r, rfl⟩
  walk_at "go"
  refine WP.itemN (k := 0) hacc3 rfl (by lia) ?_
  walk_at "go"
  refine WP.tupItem (k := 0) (he3 t0 (.head _)) rfl (by lia) ?_
  walk_at "go"
  obtain ⟨f2, hf2⟩ := T.hrmax
  refine WP.gname hf2.1 (by show c.env.scope.names.lookup _ = _; rw [hsc]; rfl) (by decide) ?_
  walk_at "go"
  refine WP.iterLit hit3 ?_
  refine WC.forLoop (fun r σ => ∃ m es tt ord e1 o1 k1 el1 to D', σ = ⟨[some (.int n t), some (.ref l), some (.ref it), none, some (.ref acc), some (.int vs.length _), e1, some (.str tt.k tt.t), some (.int ord to), some (.ref f2), o1, k1, el1], D'⟩ ∧ m + r = vs.length ∧
    (∀ a x, D₀ a = some x → D' a = some x) ∧ D' ka = some (.cell (some (.ref fn))) ∧ D' acc = some (.list (es.map Ent.ref)) ∧ Ents D' es ∧ HInv vs kf false n m es ord ∧ Hp elt es 0 ∧ es[0]? = some tt ∧ D' it = some (.lit l m)) ?turn (vs.length - n)
    ⟨n, t0 :: rs, t0, n, none, none, none, none, t, D3, rfl, by lia, hD3, hka3, hacc3, he3, HI1, hp1, rfl, hit3⟩
  rintro r σ ⟨m, es, tt, ord, e1, o1, k1, el1, to, D', rfl, hm, hD', hka', hacc', he, HI, hp, htt, hit'⟩
  cases r with
  | zero =>
    refine WP.nextListEnd H.handled hit' (hD' _ _ H.hl) (by lia) ?_
    have acc_it : acc ≠ it := fun q => by rw [q, hit'] at hacc'; cases hacc'
    have hacc4 : del D' it acc = some (.list (es.map Ent.ref)) := (del_ne acc_it).trans hacc'
    have he4 : Ents (del D' it) es := fun e hm => (del_ne fun q => by have := he e hm; rw [q, hit'] at this; cases this).trans (he e hm)
    have hD4 : ∀ p x, D₀ p = some x → del D' it p = some x := fun p x e => (del_ne fun q => by rw [q, nit] at e; cases e).trans (hD' p x e)
    dsimp only
    generalize del D' it = D4 at hacc4 he4 hD4 ⊢
    walk_at "go"
    refine WP.method PySem.F.slot_list_sort PySem.F.type_list_sort ?_
    walk_at "go"
    refine ⟨acc, _, rfl, hacc4, EvL.nil (EvL.nil ?_)⟩
    show WP _ _ _ _ (call (.builtin "list.sort") (.ref acc :: [])) _ _
    refine WP.callSlot PySem.F.slot_list_sort (fun s hs => (hs.isList hacc4).typeIs) PySem.F.entry_list_sort (PySem.F.args_list_sort_1 _) ?_
    rw [tupTree_plain]
    have hl4 := HI.len
    refine sort_tups hacc4 he4 HI.inj HI.nd (by lia) fun es' hs => ⟨_, rfl, ?_⟩
    have pick := HI.done (by lia) hs
    have he5 : Ents (upd D4 acc (.list (es'.map Ent.ref))) es' := fun e hm => by
      have h0 := he4 e (hs.1.mem_iff.mp hm)
      exact (upd_ne fun q => by rw [q, hacc4] at h0; cases h0).trans h0
    have hD5 : ∀ p x, D₀ p = some x → upd D4 acc (.list (es'.map Ent.ref)) p = some x := le_put hD4 nacc
    have hacc5 : upd D4 acc (.list (es'.map Ent.ref)) acc = some (.list (es'.map Ent.ref)) := upd_self
    generalize upd D4 acc (.list (es'.map Ent.ref)) = D5 at he5 hD5 hacc5 ⊢
    walk_at "go"
    refine WP.listComp (names := nmC2) (cl := []) ⟨rfl, by decide +kernel, by decide +kernel, by decide +kernel, by decide +kernel, by decide +kernel⟩ (closureFor_none (by decide +kernel)) ?_
    walk_at "go"
    refine WP.iterList hacc5 fun it2 hit2 => ?_
    intro acc2 hacc2 c' C g1 g2
    have nit2 : D₀ it2 = none := hit2.off hD5
    have nacc2 : D₀ acc2 = none := hacc2.off (le_put hD5 nit2)
    have a_i : acc ≠ it2 := hit2.ne hacc5
    have a_a : acc ≠ acc2 := hacc2.ne ((upd_ne a_i).trans hacc5)
    have i_a : it2 ≠ acc2 := hacc2.ne upd_self
    have e_i : ∀ e ∈ es', e.a ≠ it2 := fun e hm => hit2.ne (he5 e hm)
    have e_a : ∀ e ∈ es', e.a ≠ acc2 := fun e hm => hacc2.ne ((upd_ne (e_i e hm)).trans (he5 e hm))
    have hlen' := hs.1.length_eq
    refine WC.compStart (fun P hp => WP.iterLit (l := acc) (i := 0) ((upd_ne i_a).trans upd_self) hp) ?_
    refine comp_out (D₀ := D₀) (l := acc) (es := es') H.handled (by lia) nit2 nacc2 (le_put (le_put hD5 nit2) nacc2) (by dsimp only; rw [upd_ne a_a, upd_ne a_i, hacc5]) (fun e hm => by dsimp only; rw [upd_ne (e_a e hm), upd_ne (e_i e hm), he5 e hm]) ((upd_ne i_a).trans upd_self) upd_self a_a fun v D6 hD6 hacc6 => ?_
    exact h acc2 _ _ _ hD6 hacc6 nacc2 pick
  | succ r =>
    have hml : m < vs.length := by lia
    have hx : vs[m]? = some vs[m] := List.getElem?_eq_getElem hml
    have hPx := H.hP _ (List.getElem_mem hml)
    generalize vs[m] = x at hx hPx
    refine WP.nextList hit' (hD' _ _ H.hl) hx ?_
    have acc_it : acc ≠ it := fun q => by rw [q, hit'] at hacc'; cases hacc'
    have ka_it' : ka ≠ it := ka_it
    have hacc4 : upd D' it (.lit l (m + 1)) acc = some (.list (es.map Ent.ref)) := (upd_ne acc_it).trans hacc'
    have he4 : Ents (upd D' it (.lit l (m + 1))) es := fun e hm => (upd_ne fun q => by have := he e hm; rw [q, hit'] at this; cases this).trans (he e hm)
    have hD4 : ∀ p x, D₀ p = some x → upd D' it (.lit l (m + 1)) p = some x := le_put hD' nit
    have hka4 : upd D' it (.lit l (m + 1)) ka = some (.cell (some (.ref fn))) := (upd_ne ka_it).trans hka'
    have hit4 : upd D' it (.lit l (m + 1)) it = some (.lit l (m + 1)) := upd_self
    dsimp only [St.put]
    generalize upd D' it (.lit l (m + 1)) = D4 at hacc4 he4 hD4 hka4 hit4 ⊢
    walk_at "go"
    refine WP.cname hkey hkc hka4 ?_
    walk_at "go"
    refine ⟨CallOk.fn H.hfn hD4, ?_⟩
    refine H.hK _ _ _ _ _ rfl hD4 hPx (by lia) (by lia) H.guards H.handled fun tk => ?_
    walk_at "go"
    refine WP.sltI ?_
    walk_at "go"
    cases hc : slt (kf x) tt.k with
    | false =>
      simp only [Bool.false_eq_true, if_false]
      walk_at "go"
      exact ⟨r, by lia, m + 1, es, tt, ord, _, _, _, _, to, D4, rfl, by lia, hD4, hka4, hacc4, he4, HI.skip (ltb_false ▸ hp) htt H.nd hx hc, hp, htt, hit4⟩
    | true =>
      simp only [if_true]
      walk_at "go"
      intro X hX
      walk_at "go"
      refine ⟨FnOk.callOk (c := c.nm nmNS) hf2, ?_⟩
      have hX4 : D4 X = none := hX.d
      have e_X : ∀ e ∈ es, e.a ≠ X := fun e hm => hX.ne (he4 e hm)
      have a_X : acc ≠ X := hX.ne hacc4
      have nX : D₀ X = none := hX.off hD4
      have hj : Inj ((⟨X, kf x, tk, ord, to, x⟩ : Ent) :: es) := fun p hp' q hq e => by
        have lt : ∀ e ∈ es, e.i < ord := fun e he => by simpa [ilt] using HI.ilt e he
        rcases List.mem_cons.mp hp' with rfl | hp1
        · rcases List.mem_cons.mp hq with rfl | hq1
          · rfl
          · have := lt q hq1; dsimp only at e; lia
        · rcases List.mem_cons.mp hq with rfl | hq1
          · have := lt p hp1; dsimp only at e; lia
          · exact HI.inj p hp1 q hq1 e
      have hl0 := HI.len
      refine hr_call (es := es) (x := ⟨X, kf x, tk, ord, to, x⟩) T hf2 ((upd_ne a_X).trans hacc4) (fun e hm => (upd_ne (e_X e hm)).trans (he4 e hm)) upd_self (by lia) (by lia) hj (by lia) (by lia) fun rr => ?_
      have HS := HI.swap (X := ⟨X, kf x, tk, ord, to, x⟩) (ltb_false ▸ hp) htt H.nd hx rfl rfl hc (ord' := ord + 1) (by simp [ilt]; lia)
      obtain ⟨hp5, pm5⟩ := siftup_ok (lt := elt) (ltb_false ▸ ord_ltb (b := false)) (es := es.set 0 ⟨X, kf x, tk, ord, to, x⟩) (s := 0) (by simp; lia) (hp_set0 hp)
      have HI5 := HS.perm pm5
      have he5 : Ents (upd (upd D4 X (.tuple [.str (kf x) tk, .int ord to, x])) acc (.list ((siftup elt (es.set 0 ⟨X, kf x, tk, ord, to, x⟩) 0).map Ent.ref))) (siftup elt (es.set 0 ⟨X, kf x, tk, ord, to, x⟩) 0) := fun e hm => by
        rcases mem_set0 (pm5.mem_iff.mp hm) with rfl | hm'
        · rw [upd_ne a_X.symm, upd_self]
        · have h0 := he4 e hm'
          rw [upd_ne (fun q => by rw [q, hacc4] at h0; cases h0), upd_ne (e_X e hm'), h0]
      have hD5 : ∀ p y, D₀ p = some y → upd (upd D4 X (.tuple [.str (kf x) tk, .int ord to, x])) acc (.list ((siftup elt (es.set 0 ⟨X, kf x, tk, ord, to, x⟩) 0).map Ent.ref)) p = some y := le_put (le_put hD4 nX) nacc
      have hacc5 : upd (upd D4 X (.tuple [.str (kf x) tk, .int ord to, x])) acc (.list ((siftup elt (es.set 0 ⟨X, kf x, tk, ord, to, x⟩) 0).map Ent.ref)) acc = _ := upd_self
      have hka5 : upd (upd D4 X (.tuple [.str (kf x) tk, .int ord to, x])) acc (.list ((siftup elt (es.set 0 ⟨X, kf x, tk, ord, to, x⟩) 0).map Ent.ref)) ka = some (.cell (some (.ref fn))) := by
        rw [upd_ne (fun q => by rw [q, hacc4] at hka4; cases hka4), upd_ne (hX.ne hka4), hka4]
      have hit5 : upd (upd D4 X (.tuple [.str (kf x) tk, .int ord to, x])) acc (.list ((siftup elt (es.set 0 ⟨X, kf x, tk, ord, to, x⟩) 0).map Ent.ref)) it = some (.lit l (m + 1)) := by
        rw [upd_ne acc_it.symm, upd_ne (hX.ne hit4), hit4]
      dsimp only
      generalize upd (upd D4 X (.tuple [.str (kf x) tk, .int ord to, x])) acc (.list ((siftup elt (es.set 0 ⟨X, kf x, tk, ord, to, x⟩) 0).map Ent.ref)) = D5 at he5 hD5 hacc5 hka5 hit5 ⊢
      generalize siftup elt (es.set 0 ⟨X, kf x, tk, ord, to, x⟩) 0 = es5 at HI5 hp5 he5 hacc5
      obtain ⟨t5, rs5, rfl⟩ : ∃ t5 rs5, es5 = t5 :: rs5 := by
        cases es5 with
        | nil => have := HI5.len; simp at this; lia
        | cons a r => exact ⟨a, r, rfl⟩
      walk_at "go"
      refine WP.assignT ?_
      walk_at "go"
      refine WP.itemN (k := 0) hacc5 rfl (by lia) ?_
      refine WP.asg3 H.handled (by walk_at "ix") (by walk_at "ix") (by walk_at "ix") (he5 t5 (.head _)) ?_
      walk_at "go"
      refine WP.augAssign (by walk_at "ix") (by with_unfolding_all rfl) ?_
      walk_at "go"
      refine WP.iaddI fun to' => ?_
      walk_at "go"
      exact ⟨r, by lia, m + 1, t5 :: rs5, t5, ord + 1, _, _, _, _, to', D5, rfl, by lia, hD5, hka5, hacc5, he5, HI5, hp5, rfl, hit5⟩
end
end
section
open PySem PyProof.Rows
section
theorem lk_nones : ∀ (ns : List Str) (y : Str), lk ns (ns.map fun _ => none) y = none
  | [], _ => rfl
  | n :: ns, y => by
    show (if y = n then none else lk ns (ns.map fun _ => none) y) = none
    rw [lk_nones ns y]; split <;> rfl
theorem bind_two {n1 n2 n3 : Str} {v1 v2 v3 : Value} {rest : List Str} {k : Str → Option NameKind} (h12 : n1 ≠ n2) (k1 : k n1 = some .local) (k2 : k n2 = some .local) (k3 : k n3 = some .cell) :
    bindL k [(n1, v1), (n2, v2), (n3, v3)] (fun _ => none) = lk (n1 :: n2 :: rest) (some v1 :: some v2 :: rest.map fun _ => none) ∧ bindC k [(n1, v1), (n2, v2), (n3, v3)] (fun _ => none) = fun y => if y = n3 then some v3 else none := by
  constructor
  · simp only [bindL, k1, k2, k3, if_true]
    funext y
    show _ = if y = n1 then some v1 else if y = n2 then some v2 else lk rest (rest.map fun _ => none) y
    rw [lk_nones]
    by_cases h1 : y = n1
    · subst h1; simp [h12]
    · simp [h1]
  · simp only [bindC, k1, k2, k3, if_true]
    rw [if_neg (by simp)]
structure NSA (w : World) (c : Cf) (A : Around) (D₀ D : Addr → Option AO) (l fn : Addr) (vs : List Value) (kf : Value → Str) (P : Value → Prop) (du dd n : Nat) : Prop where
  hK : KeyOk prg w c.hb (.ref fn) D₀ kf P du dd
  hfn : ∃ o fd, D₀ fn = some (.obj o) ∧ o.data = .func fd
  hD : ∀ a x, D₀ a = some x → D a = some x
  hl : D₀ l = some (.list vs)
  hP : ∀ v ∈ vs, P v
  hV : ∀ v ∈ vs, ∃ a xs, v = .ref a ∧ D₀ a = some (.list xs)
  nd : vs.Nodup
  h64 : vs.length < 64
  n : n ≤ vs.length
  handled : A.handled = none
  guards : A.guards = some []
  units : A.units + 30 + du < cLine
  depth : A.depth + 6 + dd < recursionLimit
theorem ns_call {w : World} {c : Cf} {A : Around} {σ : St} {f : Addr} {dV : Value} {D₀ : Addr → Option AO} {l fn : Addr} {vs : List Value} {kf : Value → Str} {P : Value → Prop} {du dd n : Nat} {t : Tok} {Q : Value → St → Prop}
   (T : TopH c.hb) (S : TopS c.hb) (hf : FnOk c.hb 12 "nsmallest" f dV) (hdv : ∃ T o m, dV = .ref T ∧ c.hb.get? T = some o ∧ o.data = .seq #[.none] m) (H : NSA w c A D₀ σ.D l fn vs kf P du dd n)
   (h : ∀ r D' out, (∀ a x, D₀ a = some x → D' a = some x) → D' r = some (.list out) → D₀ r = none → Pick vs kf false n out → Q (.ref r) ⟨σ.v, D'⟩) :
   WP prg w c A (call (.ref f) [.int n t, .ref l, .ref fn]) Q σ := by
  obtain ⟨_, o, pm, cd, doc, e, d, cr⟩ := hf
  have hb2 := bind_two (n1 := "n") (n2 := "iterable") (n3 := "key") (v1 := .int n t) (v2 := .ref l) (v3 := .ref fn) (rest := nmNS.drop 2) (k := fun n => (scopeAt 12).names.lookup n) (by decide) (by decide +kernel) (by decide +kernel) (by decide +kernel)
  refine WP.enterC (names := nmNS) (vs := [some (.int n t), some (.ref l), none, none, none, none, none, none, none, none, none, none, none]) (cm := fun y => if y = "key" then some (.ref fn) else none) (binds := [("n", .int n t), ("iterable", .ref l), ("key", .ref fn)])
    (fun s hs => hs.hbk _ _ e) d T.lim (fun s hs => cr.keeps hs.hbk) rfl rfl (by have := H.depth; lia) ?_ ?_ hb2.1 hb2.2 rfl ?_ ?_ rfl rfl rfl
  · intro s hs
    obtain ⟨TT, oT, m, rfl, eT, dT⟩ := hdv
    exact BindsTo.of_defaults (T := TT) rfl (hs.hbk _ _ eT) dT (by with_unfolding_all rfl) (by with_unfolding_all rfl)
  · intro L x hx
    have hc : (cellsFrom L (scopeAt 12).names []).lookup (Str.ofString "key") = some L := by rfl
    rcases List.mem_cons.mp hx with rfl | hx
    · exact .inl (by show (scopeAt 12).names.lookup (Str.ofString "n") = _; decide +kernel)
    rcases List.mem_cons.mp hx with rfl | hx
    · exact .inl (by show (scopeAt 12).names.lookup (Str.ofString "iterable") = _; decide +kernel)
    rcases List.mem_cons.mp hx with rfl | hx
    · exact .inr ⟨by show (scopeAt 12).names.lookup (Str.ofString "key") = _; decide +kernel, by show ((cellsFrom L (scopeAt 12).names []).lookup (Str.ofString "key")).isSome = true; rw [hc]; rfl⟩
    · cases hx
  · intro L
    exact ⟨rfl, by show ∀ x ∈ nmNS, (scopeAt 12).names.lookup x = some .local; decide +kernel, by decide +kernel, by decide +kernel, rfl, rfl⟩
  · intro c' L D' g1 g2 hD1 hcl hinj hnew
    have hcell : (cellsFrom (L + 1) (scopeAt 12).names []).lookup (Str.ofString "key") = some (L + 1) := by rfl
    have hka := hcl "key" (L + 1) hcell
    have nka : D₀ (L + 1) = none := by
      cases q : D₀ (L + 1) with
      | none => rfl
      | some x => exact absurd (H.hD _ _ q) (hnew "key" _ _ hcell)
    have hu := H.units
    have hdp := H.depth
    have N : NSH w c' (A.deeper c'.env) D₀ D' l (L + 1) fn vs kf P du dd n := ⟨by rw [g2]; exact H.hK, H.hfn, fun a x q => hD1 _ _ (H.hD a x q), H.hl, H.hP, H.hV, H.nd, H.h64, H.n, H.handled, H.guards, by show A.units + 3 + 20 + du < cLine; lia, by show A.depth + 1 + 5 + dd < recursionLimit; lia, by rw [hka]; simp, nka, by rw [g1]; rfl⟩
    have hsc : c'.env.scope = scopeAt 12 := by rw [g1]; rfl
    rw [← g2] at T S
    have fin : ∀ r v D'' out, (∀ a x, D₀ a = some x → D'' a = some x) → D'' r = some (.list out) → D₀ r = none → Pick vs kf false n out → (fun (fl : Flow) (σ' : St) => Q (retv fl) ⟨σ.v, σ'.D⟩) (.ret (.ref r)) ⟨v, D''⟩ := fun r v D'' out a1 a2 a3 a4 => h r D'' out a1 a2 a3 a4
    by_cases h1 : n = 1
    · subst h1; exact ns_one T S hsc N fin
    · rcases Nat.lt_or_ge n vs.length with hlt | hge
      · exact ns_heap T S hsc N h1 hlt fin
      · exact ns_all T S hsc N h1 hge fin
end
end
section
open PySem PyProof.Rows
section
theorem rangeSize_neg {n : Nat} : Builtin.Range.rangeSize 0 (-(n : Int)) (-1) = (n : Int) := by
  unfold Builtin.Range.rangeSize
  simp only [show ¬ ((-1 : Int) > 0) by decide, if_false]
  rw [show (- -1 : Int) = 1 from rfl, Int.ediv_one]
  split <;> lia
theorem noPylong_neg {n : Nat} (h : n < 900) : Builtin.divisionGoesByPylong (-(n : Int) - 0) (-1) = false := by
  rw [PyProof.noPylong_small (by lia)]
theorem range_smallN {n : Nat} (h : n < 900) : Builtin.Range.small 0 (-(n : Int)) (-1) = true := by
  unfold Builtin.Range.small
  rw [rangeSize_neg, fits_small (x := 0) (by decide) (by decide), fits_small (x := n) (by lia) (by lia), fits_small (x := -1) (by decide) (by decide), fits_small (x := -(n : Int)) (by lia) (by lia), if_neg (by decide), fits_small (x := -(n : Int) + (-1 + 1)) (by lia) (by lia)]
  simp
theorem args_sort_rev (a u : Value) : argsOk "list.sort" ⟨[a], [(Str.ofString "reverse", u)]⟩ := by unfold argsOk; kernel_rfl
theorem nl_one {w : World} {c : Cf} {A : Around} {D₀ D : Addr → Option AO} {l ka fn : Addr} {vs : List Value} {kf : Value → Str} {P : Value → Prop} {du dd : Nat} {t : Tok} {Q : Flow → St → Prop}
   (T : TopN c.hb) (S : TopS c.hb) (hsc : c.env.scope = scopeAt 13) (H : NSH w c A D₀ D l ka fn vs kf P du dd 1)
   (h : ∀ r v D' out, (∀ a x, D₀ a = some x → D' a = some x) → D' r = some (.list out) → D₀ r = none → Pick vs kf true 1 out → Q (.ret (.ref r)) ⟨v, D'⟩)
   : WP prg w (c.nm nmNS) A (execs (bodyAt 13) c.env) Q ⟨[some (.int 1 t), some (.ref l), none, none, none, none, none, none, none, none, none, none, none], D⟩ := by
  obtain ⟨v₀, vs', rfl⟩ : ∃ v₀ vs', vs = v₀ :: vs' := by
    cases vs with
    | nil => have := H.n; simp at this
    | cons a r => exact ⟨a, r, rfl⟩
  have hkey : c.env.kindOf (Str.ofString "key") = some .cell := by show c.env.scope.names.lookup _ = _; rw [hsc]; rfl
  have hkc : c.env.cells.lookup (Str.ofString "key") = some ka := by rw [H.cells]; rfl
  refine WP.execs_cons ?_
  walk_at "go"
  refine WP.gname S.iter (by show c.env.scope.names.lookup _ = _; rw [hsc]; rfl) (by decide) ?_
  walk_at "go"
  refine WP.iter (H.hD _ _ H.hl) fun it hit => ?_
  walk_at "go"
  refine WP.gname S.object (by show c.env.scope.names.lookup _ = _; rw [hsc]; rfl) (by decide) ?_
  walk_at "go"
  refine WP.object fun se hse => ?_
  walk_at "go"
  have nit : D₀ it = none := hit.off H.hD
  have nse : D₀ se = none := hse.off (le_put H.hD nit)
  have it_se : it ≠ se := hse.ne upd_self
  have hka1 : ka ≠ it := hit.ne H.hka
  have hka2 : ka ≠ se := hse.ne ((upd_ne hka1).trans H.hka)
  refine WP.callN ?_
  refine WP.gname S.max (by show c.env.scope.names.lookup _ = _; rw [hsc]; rfl) (by decide) ?_
  walk_at "go"
  refine WP.cname hkey hkc (by dsimp only; rw [upd_ne hka2, upd_ne hka1]; exact H.hka) ?_
  refine EvL.nil ?_
  refine ⟨CallOk.b, ?_⟩
  show WP _ _ _ _ (call (.builtin "max") [.ref it] [(Str.ofString "default", .ref se), (Str.ofString "key", .ref fn)]) _ _
  refine WP.maxKey (D₀ := upd D₀ se objO) (l := l) rfl (H.hK.mono (le_upd_new le_refl nse)) H.handled H.guards (by have := H.units; lia) (by have := H.depth; lia) H.hP ((upd_ne fun e => by rw [e] at H; have := H.hl; rw [nse] at this; cases this).trans H.hl) (le_upd fun a x e => (upd_ne fun q => by rw [q, nit] at e; cases e).trans (H.hD a x e)) ((upd_ne it_se).trans nit) ((upd_ne it_se).trans upd_self) fun D' hD' => ?_
  walk_at "go"
  obtain ⟨a, xs, ea, ha⟩ := H.hV (best (fun a b => slt b a) kf v₀ vs') ((pick_best (b := true) (kf := kf) H.nd).mem _ (.head _))
  rw [ea]
  have hase : a ≠ se := fun e => by rw [e, nse] at ha; cases ha
  refine WP.isOther hase (hD' _ _ ((upd_ne hase).trans ha)) (hD' _ _ upd_self) ?_
  walk_at "go"
  intro r hr
  walk_at "go"
  have nr : D₀ r = none := hr.off fun p x e => hD' _ _ ((upd_ne fun q => by rw [q, nse] at e; cases e).trans e)
  refine h r _ _ _ (fun p x e => ?_) upd_self nr ?_
  · rw [upd_ne (fun q => by rw [q, nr] at e; cases e)]
    exact hD' _ _ ((upd_ne fun q => by rw [q, nse] at e; cases e).trans e)
  · have := pick_best (b := true) (kf := kf) H.nd
    rw [show (fun k k' => klt true k k') = (fun a b => slt b a) from rfl, ea] at this
    exact this
theorem nl_all {w : World} {c : Cf} {A : Around} {D₀ D : Addr → Option AO} {l ka fn : Addr} {vs : List Value} {kf : Value → Str} {P : Value → Prop} {du dd n : Nat} {t : Tok} {Q : Flow → St → Prop}
   (T : TopN c.hb) (S : TopS c.hb) (hsc : c.env.scope = scopeAt 13) (H : NSH w c A D₀ D l ka fn vs kf P du dd n) (h1 : n ≠ 1) (hn : vs.length ≤ n)
   (h : ∀ r v D' out, (∀ a x, D₀ a = some x → D' a = some x) → D' r = some (.list out) → D₀ r = none → Pick vs kf true n out → Q (.ret (.ref r)) ⟨v, D'⟩)
   : WP prg w (c.nm nmNS) A (execs (bodyAt 13) c.env) Q ⟨[some (.int n t), some (.ref l), none, none, none, none, none, none, none, none, none, none, none], D⟩ := by
  have hkey : c.env.kindOf (Str.ofString "key") = some .cell := by show c.env.scope.names.lookup _ = _; rw [hsc]; rfl
  have hkc : c.env.cells.lookup (Str.ofString "key") = some ka := by rw [H.cells]; rfl
  have hv := H.h64
  refine WP.execs_cons ?_
  walk_at "go"
  rw [if_neg (by simp; lia)]
  walk_at "go"
  refine WP.gname T.len (by show c.env.scope.names.lookup _ = _; rw [hsc]; rfl) (by decide) ?_
  walk_at "go"
  refine WP.len (H.hD _ _ H.hl) (by lia) fun _ => ?_
  walk_at "go"
  walk_at "go"
  rw [if_pos (by simp; lia)]
  walk_at "go"
  refine WP.callN ?_
  refine WP.gname S.sorted (by show c.env.scope.names.lookup _ = _; rw [hsc]; rfl) (by decide) ?_
  walk_at "go"
  refine WP.cname hkey hkc H.hka ?_
  refine EvL.cons ?_
  refine WP.cbool ?_
  refine EvL.nil ?_
  refine ⟨CallOk.b, ?_⟩
  show WP _ _ _ _ (call (.builtin "sorted") [.ref l] [(Str.ofString "key", .ref fn), (Str.ofString "reverse", .bool true)]) _ _
  refine WP.sortedKey (b := true) (D₀ := D₀) (before := bef vs) H.hK (ksk_s2 _ _ _) (fun _ => ksk_l2 _ _ _) (fun _ => ksk_t2 _ _ _) H.handled H.guards (by have := H.units; lia) (by have := H.depth; lia) H.hP H.hD (H.hD _ _ H.hl) (bef_pw H.nd) H.h64 fun a out D' ha ho hD' hout na => ?_
  walk_at "go"
  refine WP.slice ?_
  refine WP.pure ?_
  show WP _ _ _ _ (eval (.Name (Str.ofString "n") _) _) _ _
  walk_at "go"
  intro sl hsl
  walk_at "go"
  have hasl : a ≠ sl := hsl.ne hout
  refine WP.cut (vs := out) ((upd_ne hasl).trans hout) upd_self .none (.int _ _) (by rw [ho.1.length_eq]; lia) fun r hr => ?_
  have nsl : D₀ sl = none := hsl.off hD'
  have nr : D₀ r = none := hr.off (le_put hD' nsl)
  refine h r _ _ _ (le_put (le_put hD' nsl) nr) upd_self nr ?_
  rw [slicePick_upto']
  exact pick_sorted ho H.n
theorem nl_heap {w : World} {c : Cf} {A : Around} {D₀ D : Addr → Option AO} {l ka fn : Addr} {vs : List Value} {kf : Value → Str} {P : Value → Prop} {du dd n : Nat} {t : Tok} {Q : Flow → St → Prop}
   (T : TopN c.hb) (S : TopS c.hb) (hsc : c.env.scope = scopeAt 13) (H : NSH w c A D₀ D l ka fn vs kf P du dd n) (h1 : n ≠ 1) (hn : n < vs.length)
   (h : ∀ r v D' out, (∀ a x, D₀ a = some x → D' a = some x) → D' r = some (.list out) → D₀ r = none → Pick vs kf true n out → Q (.ret (.ref r)) ⟨v, D'⟩)
   : WP prg w (c.nm nmNS) A (execs (bodyAt 13) c.env) Q ⟨[some (.int n t), some (.ref l), none, none, none, none, none, none, none, none, none, none, none], D⟩ := by
  have hkey : c.env.kindOf (Str.ofString "key") = some .cell := by show c.env.scope.names.lookup _ = _; rw [hsc]; rfl
  have hkc : c.env.cells.lookup (Str.ofString "key") = some ka := by rw [H.cells]; rfl
  have hkf : c.env.scope.kind = .function := by rw [hsc]; rfl
  have hv := H.h64
  have hu := H.units
  have hdp := H.depth
  have hlD := H.hD _ _ H.hl
  refine WP.execs_cons ?_
  walk_at "go"
  rw [if_neg (by simp; lia)]
  walk_at "go"
  refine WP.gname T.len (by show c.env.scope.names.lookup _ = _; rw [hsc]; rfl) (by decide) ?_
  walk_at "go"
  refine WP.len hlD (by lia) fun _ => ?_
  walk_at "go"
  walk_at "go"
  rw [if_neg (by simp; lia)]
  walk_at "go"
  refine WP.cname hkey hkc H.hka ?_
  walk_at "go"
  walk_at "go"
  refine WP.gname S.iter (by show c.env.scope.names.lookup _ = _; rw [hsc]; rfl) (by decide) ?_
  walk_at "go"
  refine WP.iter hlD fun it hit => ?_
  walk_at "go"
  have nit : D₀ it = none := hit.off H.hD
  have hl1 : upd D it (.lit l 0) l = some (.list vs) := (upd_ne (hit.ne hlD)).trans hlD
  refine WP.assignComp (names := nmC1) (cl := [(Str.ofString "key", ka)]) ⟨rfl, by decide +kernel, by decide +kernel, by decide +kernel, by decide +kernel, by decide +kernel⟩ ?_ (by walk_at "ix") ?_ (swaps_true hkf (by show c.env.scope.names.lookup _ = _; rw [hsc]; rfl) rfl (by decide +kernel))
  · have hco : cellOf c.env (Str.ofString "key") = Pure.pure ka := by unfold cellOf; rw [hkc]
    unfold closureFor
    simp only [List.forIn_cons, List.forIn_nil]
    rw [show cellOf (c.nm nmNS).env (Str.ofString "key") = Pure.pure ka from hco]
    rfl
  walk_at "go"
  refine WP.gname S.zip (by show c.env.scope.names.lookup _ = _; rw [hsc]; rfl) (by decide) ?_
  walk_at "go"
  refine WP.gname T.range (by show c.env.scope.names.lookup _ = _; rw [hsc]; rfl) (by decide) ?_
  walk_at "go"
  refine WP.usub ?_
  walk_at "go"
  refine ⟨_, _, rfl, fun tn1 => ?_⟩
  walk_at "go"
  refine WP.usub ?_
  walk_at "go"
  refine ⟨_, _, rfl, fun tn2 => ?_⟩
  walk_at "go"
  refine WP.range3 (by decide) (noPylong_neg (by lia)) fun rg hrg => ?_
  walk_at "go"
  have it_rg : it ≠ rg := hrg.ne upd_self
  have nrg : D₀ rg = none := hrg.off (le_put H.hD nit)
  refine WP.zip upd_self (range_smallN (by lia)) ((upd_ne it_rg).trans upd_self) fun z TI TO i1 D1 Z nz nTI nTO ni1 hD1 => ?_
  have hD01 : ∀ a x, D₀ a = some x → D1 a = some x := fun a x e => hD1 _ _ (le_put (le_put H.hD nit) nrg _ _ e)
  have hD1' : ∀ p x, upd (upd D it (.lit l 0)) rg (rngO 0 (-(n : Int)) (-1) _ _ _) p = some x → D1 p = some x := hD1
  have nz0 : D₀ z = none := nz.off (le_put (le_put H.hD nit) nrg)
  have nTO0 : D₀ TO = none := nTO.off (le_put (le_put H.hD nit) nrg)
  have ni10 : D₀ i1 = none := ni1.off (le_put (le_put H.hD nit) nrg)
  have ka_it : ka ≠ it := hit.ne H.hka
  have ka_rg : ka ≠ rg := hrg.ne ((upd_ne ka_it).trans H.hka)
  have hka1 : D1 ka = some (.cell (some (.ref fn))) := hD1' _ _ (by rw [upd_ne ka_rg, upd_ne ka_it]; exact H.hka)
  have rsz : Builtin.Range.rangeSize 0 (-(n : Int)) (-1) = (n : Int) := rangeSize_neg
  rw [rsz] at Z
  refine WP.iterZip Z ?_
  intro acc hacc c' C g1 g2
  have nacc : D₀ acc = none := hacc.off hD01
  have hkC : c'.env.kindOf (Str.ofString "key") = some .cell := by
    rw [g1]
    show List.lookup _ (List.map _ _) = _
    simp only [List.map]
    rw [hkf, hkey]
    rfl
  have hkcC : c'.env.cells.lookup (Str.ofString "key") = some ka := by rw [g1]; rfl
  have Z2 : ZipSt (upd D1 acc (.list [])) z TI TO i1 it l 0 n (-1) 0 .none := by
    have q : ∀ p x, D1 p = some x → upd D1 acc (.list []) p = some x := fun p x e => (upd_ne (hacc.ne e)).trans e
    obtain ⟨za, zb, ⟨zc1, zc2, zc⟩, zd, ze, zf⟩ := Z
    exact ⟨q _ _ za, q _ _ zb, ⟨zc1, zc2, q _ _ zc⟩, q _ _ zd, q _ _ ze, zf⟩
  refine WC.compStart (fun P hp => WP.iterZip Z2 hp) ?_
  refine comp_in1 (b := true) (by rw [g2]; exact H.hK) H.hfn H.hl H.hP H.n H.h64 H.handled H.guards (by lia) (by lia) hkC hkcC nz0 nTO0 ni10 nit nacc (le_put hD01 nacc) ((upd_ne (hacc.ne hka1)).trans hka1) upd_self Z2 fun v es D2 hD2 hka2 hacc2 he2 hlen hin hit2 => ?_
  clear hD1 hD1' Z Z2 hka1 hD01 nz nTI nTO ni1 hacc hrg hkC hkcC g1 g2
  walk_at "go"
  refine WP.tplain ?_
  walk_at "go"
  refine WP.truthyList hacc2 (by simp; lia) ?_
  by_cases hn0 : n = 0
  · have hes : es = [] := List.eq_nil_of_length_eq_zero (by lia)
    subst hes
    rw [if_pos (by simp)]
    walk_at "go"
    refine h acc _ _ [] hD2 hacc2 nacc ⟨by simp [hn0], by simp, fun x hx => (nomatch hx), fun y hy hno x hx => (nomatch hx)⟩
  rw [if_neg (by cases es with | nil => simp at hlen; lia | cons a r => simp)]
  walk_at "go"
  obtain ⟨f1, hf1⟩ := T.hymin
  refine WP.gname hf1.1 (by show c.env.scope.names.lookup _ = _; rw [hsc]; rfl) (by decide) ?_
  walk_at "go"
  refine ⟨FnOk.callOk (c := c.nm nmNS) hf1, ?_⟩
  have HI := hin.hinv hlen H.nd H.n
  refine hy_callN (es := es) T hf1 hacc2 he2 (by lia) HI.inj (by lia) (by lia) H.handled ?_
  obtain ⟨hp1, pm1⟩ := heapify_ok (lt := flt) (ltb_true ▸ ord_ltb (b := true)) (es.length / 2) (es := es) (by lia) hp_half
  have HI1 := HI.perm pm1
  have he3 : Ents (upd D2 acc (.list ((heapifyF flt (es.length / 2) es).map Ent.ref))) (heapifyF flt (es.length / 2) es) := fun e hm => by
    have h0 := he2 e (pm1.mem_iff.mp hm)
    exact (upd_ne fun q => by rw [q, hacc2] at h0; cases h0).trans h0
  have hit3 : upd D2 acc (.list ((heapifyF flt (es.length / 2) es).map Ent.ref)) it = some (.lit l n) := (upd_ne fun q => by rw [q, hacc2] at hit2; cases hit2).trans hit2
  have hka3 : upd D2 acc (.list ((heapifyF flt (es.length / 2) es).map Ent.ref)) ka = some (.cell (some (.ref fn))) := (upd_ne fun q => by rw [q, hacc2] at hka2; cases hka2).trans hka2
  have hD3 : ∀ p x, D₀ p = some x → upd D2 acc (.list ((heapifyF flt (es.length / 2) es).map Ent.ref)) p = some x := le_put hD2 nacc
  have hacc3 : upd D2 acc (.list ((heapifyF flt (es.length / 2) es).map Ent.ref)) acc = some (.list ((heapifyF flt (es.length / 2) es).map Ent.ref)) := upd_self
  dsimp only
  generalize upd D2 acc (.list ((heapifyF flt (es.length / 2) es).map Ent.ref)) = D3 at he3 hit3 hka3 hD3 hacc3 ⊢
  generalize heapifyF flt (es.length / 2) es = es1 at hp1 pm1 HI1 he3 hacc3
  clear he2 hacc2 hit2 hka2 hD2 hin HI
  obtain ⟨t0, rs, rfl⟩ : ∃ t0 rs, es1 = t0 :: rs := by
    cases es1 with
    | nil => have := HI1.len; simp at this; lia
    | cons a r => exact ⟨a, r, rfl⟩
  walk_at "go"
  refine WP.itemN (k := 0) hacc3 rfl (by lia) ?_
  walk_at "go"
  refine WP.tupItem (k := 0) (he3 t0 (.head _)) rfl (by lia) ?_
  walk_at "go"
  refine WP.usub ?_
  walk_at "go"
  refine ⟨_, _, rfl, fun tn3 => ?_⟩
  walk_at "go"
  obtain ⟨f2, hf2⟩ := T.hrmin
  refine WP.gname hf2.1 (by show c.env.scope.names.lookup _ = _; rw [hsc]; rfl) (by decide) ?_
  walk_at "go"
  refine WP.iterLit hit3 ?_
  refine WC.forLoop (fun r σ => ∃ m es tt ord e1 o1 k1 el1 to D', σ = ⟨[some (.int n t), some (.ref l), some (.ref it), none, some (.ref acc), some (.int vs.length _), e1, some (.str tt.k tt.t), some (.int ord to), some (.ref f2), o1, k1, el1], D'⟩ ∧ m + r = vs.length ∧
    (∀ a x, D₀ a = some x → D' a = some x) ∧ D' ka = some (.cell (some (.ref fn))) ∧ D' acc = some (.list (es.map Ent.ref)) ∧ Ents D' es ∧ HInv vs kf true n m es ord ∧ Hp flt es 0 ∧ es[0]? = some tt ∧ D' it = some (.lit l m)) ?turn (vs.length - n)
    ⟨n, t0 :: rs, t0, -(n : Int), none, none, none, none, tn3, D3, rfl, by lia, hD3, hka3, hacc3, he3, HI1, hp1, rfl, hit3⟩
  rintro r σ ⟨m, es, tt, ord, e1, o1, k1, el1, to, D', rfl, hm, hD', hka', hacc', he, HI, hp, htt, hit'⟩
  cases r with
  | zero =>
    refine WP.nextListEnd H.handled hit' (hD' _ _ H.hl) (by lia) ?_
    have acc_it : acc ≠ it := fun q => by rw [q, hit'] at hacc'; cases hacc'
    have hacc4 : del D' it acc = some (.list (es.map Ent.ref)) := (del_ne acc_it).trans hacc'
    have he4 : Ents (del D' it) es := fun e hm => (del_ne fun q => by have := he e hm; rw [q, hit'] at this; cases this).trans (he e hm)
    have hD4 : ∀ p x, D₀ p = some x → del D' it p = some x := fun p x e => (del_ne fun q => by rw [q, nit] at e; cases e).trans (hD' p x e)
    dsimp only
    generalize del D' it = D4 at hacc4 he4 hD4 ⊢
    walk_at "go"
    refine WP.method PySem.F.slot_list_sort PySem.F.type_list_sort ?_
    walk_at "go"
    refine ⟨acc, _, rfl, hacc4, EvL.nil ?_⟩
    refine EvL.cons ?_
    refine WP.cbool ?_
    refine EvL.nil ?_
    show WP _ _ _ _ (call (.builtin "list.sort") (.ref acc :: []) [(Str.ofString "reverse", .bool true)]) _ _
    refine WP.callSlotKw PySem.F.slot_list_sort (fun s hs => (hs.isList hacc4).typeIs) PySem.F.entry_list_sort (args_sort_rev _ _) ?_
    rw [tupTree_rev]
    have hl4 := HI.len
    refine sort_tups hacc4 he4 HI.inj HI.nd (by lia) fun es' hs => ⟨_, rfl, ?_⟩
    have pick := HI.done (by lia) hs
    have he5 : Ents (upd D4 acc (.list (es'.map Ent.ref))) es' := fun e hm => by
      have h0 := he4 e (hs.1.mem_iff.mp hm)
      exact (upd_ne fun q => by rw [q, hacc4] at h0; cases h0).trans h0
    have hD5 : ∀ p x, D₀ p = some x → upd D4 acc (.list (es'.map Ent.ref)) p = some x := le_put hD4 nacc
    have hacc5 : upd D4 acc (.list (es'.map Ent.ref)) acc = some (.list (es'.map Ent.ref)) := upd_self
    generalize upd D4 acc (.list (es'.map Ent.ref)) = D5 at he5 hD5 hacc5 ⊢
    walk_at "go"
    refine WP.listComp (names := nmC2) (cl := []) ⟨rfl, by decide +kernel, by decide +kernel, by decide +kernel, by decide +kernel, by decide +kernel⟩ (closureFor_none (by decide +kernel)) ?_
    walk_at "go"
    refine WP.iterList hacc5 fun it2 hit2 => ?_
    intro acc2 hacc2 c' C g1 g2
    have nit2 : D₀ it2 = none := hit2.off hD5
    have nacc2 : D₀ acc2 = none := hacc2.off (le_put hD5 nit2)
    have a_i : acc ≠ it2 := hit2.ne hacc5
    have a_a : acc ≠ acc2 := hacc2.ne ((upd_ne a_i).trans hacc5)
    have i_a : it2 ≠ acc2 := hacc2.ne upd_self
    have e_i : ∀ e ∈ es', e.a ≠ it2 := fun e hm => hit2.ne (he5 e hm)
    have e_a : ∀ e ∈ es', e.a ≠ acc2 := fun e hm => hacc2.ne ((upd_ne (e_i e hm)).trans (he5 e hm))
    have hlen' := hs.1.length_eq
    refine WC.compStart (fun P hp => WP.iterLit (l := acc) (i := 0) ((upd_ne i_a).trans upd_self) hp) ?_
    refine comp_out (D₀ := D₀) (l := acc) (es := es') H.handled (by lia) nit2 nacc2 (le_put (le_put hD5 nit2) nacc2) (by dsimp only; rw [upd_ne a_a, upd_ne a_i, hacc5]) (fun e hm => by dsimp only; rw [upd_ne (e_a e hm), upd_ne (e_i e hm), he5 e hm]) ((upd_ne i_a).trans upd_self) upd_self a_a fun v D6 hD6 hacc6 => ?_
    exact h acc2 _ _ _ hD6 hacc6 nacc2 pick
  | succ r =>
    have hml : m < vs.length := by lia
    have hx : vs[m]? = some vs[m] := List.getElem?_eq_getElem hml
    have hPx := H.hP _ (List.getElem_mem hml)
    generalize vs[m] = x at hx hPx
    refine WP.nextList hit' (hD' _ _ H.hl) hx ?_
    have acc_it : acc ≠ it := fun q => by rw [q, hit'] at hacc'; cases hacc'
    have ka_it' : ka ≠ it := ka_it
    have hacc4 : upd D' it (.lit l (m + 1)) acc = some (.list (es.map Ent.ref)) := (upd_ne acc_it).trans hacc'
    have he4 : Ents (upd D' it (.lit l (m + 1))) es := fun e hm => (upd_ne fun q => by have := he e hm; rw [q, hit'] at this; cases this).trans (he e hm)
    have hD4 : ∀ p x, D₀ p = some x → upd D' it (.lit l (m + 1)) p = some x := le_put hD' nit
    have hka4 : upd D' it (.lit l (m + 1)) ka = some (.cell (some (.ref fn))) := (upd_ne ka_it).trans hka'
    have hit4 : upd D' it (.lit l (m + 1)) it = some (.lit l (m + 1)) := upd_self
    dsimp only [St.put]
    generalize upd D' it (.lit l (m + 1)) = D4 at hacc4 he4 hD4 hka4 hit4 ⊢
    walk_at "go"
    refine WP.cname hkey hkc hka4 ?_
    walk_at "go"
    refine ⟨CallOk.fn H.hfn hD4, ?_⟩
    refine H.hK _ _ _ _ _ rfl hD4 hPx (by lia) (by lia) H.guards H.handled fun tk => ?_
    walk_at "go"
    refine WP.sltI ?_
    walk_at "go"
    cases hc : slt tt.k (kf x) with
    | false =>
      simp only [Bool.false_eq_true, if_false]
      walk_at "go"
      exact ⟨r, by lia, m + 1, es, tt, ord, _, _, _, _, to, D4, rfl, by lia, hD4, hka4, hacc4, he4, HI.skip (ltb_true ▸ hp) htt H.nd hx hc, hp, htt, hit4⟩
    | true =>
      simp only [if_true]
      walk_at "go"
      intro X hX
      walk_at "go"
      refine ⟨FnOk.callOk (c := c.nm nmNS) hf2, ?_⟩
      have hX4 : D4 X = none := hX.d
      have e_X : ∀ e ∈ es, e.a ≠ X := fun e hm => hX.ne (he4 e hm)
      have a_X : acc ≠ X := hX.ne hacc4
      have nX : D₀ X = none := hX.off hD4
      have hj : Inj ((⟨X, kf x, tk, ord, to, x⟩ : Ent) :: es) := fun p hp' q hq e => by
        have lt : ∀ e ∈ es, ord < e.i := fun e he => by simpa [ilt] using HI.ilt e he
        rcases List.mem_cons.mp hp' with rfl | hp1
        · rcases List.mem_cons.mp hq with rfl | hq1
          · rfl
          · have := lt q hq1; dsimp only at e; lia
        · rcases List.mem_cons.mp hq with rfl | hq1
          · have := lt p hp1; dsimp only at e; lia
          · exact HI.inj p hp1 q hq1 e
      have hl0 := HI.len
      refine hr_callN (es := es) (x := ⟨X, kf x, tk, ord, to, x⟩) T hf2 ((upd_ne a_X).trans hacc4) (fun e hm => (upd_ne (e_X e hm)).trans (he4 e hm)) upd_self (by lia) (by lia) hj (by lia) (by lia) fun rr => ?_
      have HS := HI.swap (X := ⟨X, kf x, tk, ord, to, x⟩) (ltb_true ▸ hp) htt H.nd hx rfl rfl hc (ord' := ord - 1) (by simp [ilt]; lia)
      obtain ⟨hp5, pm5⟩ := siftup_ok (lt := flt) (ltb_true ▸ ord_ltb (b := true)) (es := es.set 0 ⟨X, kf x, tk, ord, to, x⟩) (s := 0) (by simp; lia) (hp_set0 hp)
      have HI5 := HS.perm pm5
      have he5 : Ents (upd (upd D4 X (.tuple [.str (kf x) tk, .int ord to, x])) acc (.list ((siftup flt (es.set 0 ⟨X, kf x, tk, ord, to, x⟩) 0).map Ent.ref))) (siftup flt (es.set 0 ⟨X, kf x, tk, ord, to, x⟩) 0) := fun e hm => by
        rcases mem_set0 (pm5.mem_iff.mp hm) with rfl | hm'
        · rw [upd_ne a_X.symm, upd_self]
        · have h0 := he4 e hm'
          rw [upd_ne (fun q => by rw [q, hacc4] at h0; cases h0), upd_ne (e_X e hm'), h0]
      have hD5 : ∀ p y, D₀ p = some y → upd (upd D4 X (.tuple [.str (kf x) tk, .int ord to, x])) acc (.list ((siftup flt (es.set 0 ⟨X, kf x, tk, ord, to, x⟩) 0).map Ent.ref)) p = some y := le_put (le_put hD4 nX) nacc
      have hacc5 : upd (upd D4 X (.tuple [.str (kf x) tk, .int ord to, x])) acc (.list ((siftup flt (es.set 0 ⟨X, kf x, tk, ord, to, x⟩) 0).map Ent.ref)) acc = _ := upd_self
      have hka5 : upd (upd D4 X (.tuple [.str (kf x) tk, .int ord to, x])) acc (.list ((siftup flt (es.set 0 ⟨X, kf x, tk, ord, to, x⟩) 0).map Ent.ref)) ka = some (.cell (some (.ref fn))) := by
        rw [upd_ne (fun q => by rw [q, hacc4] at hka4; cases hka4), upd_ne (hX.ne hka4), hka4]
      have hit5 : upd (upd D4 X (.tuple [.str (kf x) tk, .int ord to, x])) acc (.list ((siftup flt (es.set 0 ⟨X, kf x, tk, ord, to, x⟩) 0).map Ent.ref)) it = some (.lit l (m + 1)) := by
        rw [upd_ne acc_it.symm, upd_ne (hX.ne hit4), hit4]
      dsimp only
      generalize upd (upd D4 X (.tuple [.str (kf x) tk, .int ord to, x])) acc (.list ((siftup flt (es.set 0 ⟨X, kf x, tk, ord, to, x⟩) 0).map Ent.ref)) = D5 at he5 hD5 hacc5 hka5 hit5 ⊢
      generalize siftup flt (es.set 0 ⟨X, kf x, tk, ord, to, x⟩) 0 = es5 at HI5 hp5 he5 hacc5
      obtain ⟨t5, rs5, rfl⟩ : ∃ t5 rs5, es5 = t5 :: rs5 := by
        cases es5 with
        | nil => have := HI5.len; simp at this; lia
        | cons a r => exact ⟨a, r, rfl⟩
      walk_at "go"
      refine WP.assignT ?_
      walk_at "go"
      refine WP.itemN (k := 0) hacc5 rfl (by lia) ?_
      refine WP.asg3 H.handled (by walk_at "ix") (by walk_at "ix") (by walk_at "ix") (he5 t5 (.head _)) ?_
      walk_at "go"
      refine WP.augAssign (by walk_at "ix") (by with_unfolding_all rfl) ?_
      walk_at "go"
      refine WP.isubI fun to' => ?_
      walk_at "go"
      exact ⟨r, by lia, m + 1, t5 :: rs5, t5, ord - 1, _, _, _, _, to', D5, rfl, by lia, hD5, hka5, hacc5, he5, HI5, hp5, rfl, hit5⟩
theorem nl_call {w : World} {c : Cf} {A : Around} {σ : St} {f : Addr} {dV : Value} {D₀ : Addr → Option AO} {l fn : Addr} {vs : List Value} {kf : Value → Str} {P : Value → Prop} {du dd n : Nat} {t : Tok} {Q : Value → St → Prop}
   (T : TopN c.hb) (S : TopS c.hb) (hf : FnOk c.hb 13 "nlargest" f dV) (hdv : ∃ T o m, dV = .ref T ∧ c.hb.get? T = some o ∧ o.data = .seq #[.none] m) (H : NSA w c A D₀ σ.D l fn vs kf P du dd n)
   (h : ∀ r D' out, (∀ a x, D₀ a = some x → D' a = some x) → D' r = some (.list out) → D₀ r = none → Pick vs kf true n out → Q (.ref r) ⟨σ.v, D'⟩) :
   WP prg w c A (call (.ref f) [.int n t, .ref l, .ref fn]) Q σ := by
  obtain ⟨_, o, pm, cd, doc, e, d, cr⟩ := hf
  have hb2 := bind_two (n1 := "n") (n2 := "iterable") (n3 := "key") (v1 := .int n t) (v2 := .ref l) (v3 := .ref fn) (rest := nmNS.drop 2) (k := fun n => (scopeAt 13).names.lookup n) (by decide) (by decide +kernel) (by decide +kernel) (by decide +kernel)
  refine WP.enterC (names := nmNS) (vs := [some (.int n t), some (.ref l), none, none, none, none, none, none, none, none, none, none, none]) (cm := fun y => if y = "key" then some (.ref fn) else none) (binds := [("n", .int n t), ("iterable", .ref l), ("key", .ref fn)])
    (fun s hs => hs.hbk _ _ e) d T.lim (fun s hs => cr.keeps hs.hbk) rfl rfl (by have := H.depth; lia) ?_ ?_ hb2.1 hb2.2 rfl ?_ ?_ rfl rfl rfl
  · intro s hs
    obtain ⟨TT, oT, m, rfl, eT, dT⟩ := hdv
    exact BindsTo.of_defaults (T := TT) rfl (hs.hbk _ _ eT) dT (by with_unfolding_all rfl) (by with_unfolding_all rfl)
  · intro L x hx
    have hc : (cellsFrom L (scopeAt 13).names []).lookup (Str.ofString "key") = some L := by rfl
    rcases List.mem_cons.mp hx with rfl | hx
    · exact .inl (by show (scopeAt 13).names.lookup (Str.ofString "n") = _; decide +kernel)
    rcases List.mem_cons.mp hx with rfl | hx
    · exact .inl (by show (scopeAt 13).names.lookup (Str.ofString "iterable") = _; decide +kernel)
    rcases List.mem_cons.mp hx with rfl | hx
    · exact .inr ⟨by show (scopeAt 13).names.lookup (Str.ofString "key") = _; decide +kernel, by show ((cellsFrom L (scopeAt 13).names []).lookup (Str.ofString "key")).isSome = true; rw [hc]; rfl⟩
    · cases hx
  · intro L
    exact ⟨rfl, by show ∀ x ∈ nmNS, (scopeAt 13).names.lookup x = some .local; decide +kernel, by decide +kernel, by decide +kernel, rfl, rfl⟩
  · intro c' L D' g1 g2 hD1 hcl hinj hnew
    have hcell : (cellsFrom (L + 1) (scopeAt 13).names []).lookup (Str.ofString "key") = some (L + 1) := by rfl
    have hka := hcl "key" (L + 1) hcell
    have nka : D₀ (L + 1) = none := by
      cases q : D₀ (L + 1) with
      | none => rfl
      | some x => exact absurd (H.hD _ _ q) (hnew "key" _ _ hcell)
    have hu := H.units
    have hdp := H.depth
    have N : NSH w c' (A.deeper c'.env) D₀ D' l (L + 1) fn vs kf P du dd n := ⟨by rw [g2]; exact H.hK, H.hfn, fun a x q => hD1 _ _ (H.hD a x q), H.hl, H.hP, H.hV, H.nd, H.h64, H.n, H.handled, H.guards, by show A.units + 3 + 20 + du < cLine; lia, by show A.depth + 1 + 5 + dd < recursionLimit; lia, by rw [hka]; simp, nka, by rw [g1]; rfl⟩
    have hsc : c'.env.scope = scopeAt 13 := by rw [g1]; rfl
    rw [← g2] at T S
    have fin : ∀ r v D'' out, (∀ a x, D₀ a = some x → D'' a = some x) → D'' r = some (.list out) → D₀ r = none → Pick vs kf true n out → (fun (fl : Flow) (σ' : St) => Q (retv fl) ⟨σ.v, σ'.D⟩) (.ret (.ref r)) ⟨v, D''⟩ := fun r v D'' out a1 a2 a3 a4 => h r D'' out a1 a2 a3 a4
    by_cases h1 : n = 1
    · subst h1; exact nl_one T S hsc N fin
    · rcases Nat.lt_or_ge n vs.length with hlt | hge
      · exact nl_heap T S hsc N h1 hlt fin
      · exact nl_all T S hsc N h1 hge fin
end
end
section
open PySem PyProof.Rows
section
inductive Tr where
  | n (d : Nat)
  | l (xs : List Tr)
mutual
noncomputable def cmpT : Tr → Tr → Int
  | .n a, .n b => if a < b then -1 else if b < a then 1 else 0
  | .n _, .l _ => -1
  | .l _, .n _ => 1
  | .l xs, .l ys => cmpL xs ys
noncomputable def cmpL : List Tr → List Tr → Int
  | [], [] => 0
  | [], _ :: _ => 1
  | _ :: _, [] => -1
  | x :: xs, y :: ys => if cmpT x y = 0 then cmpL xs ys else cmpT x y
end
mutual
noncomputable def txt : Tr → List Nat
  | .n d => [48 + d]
  | .l [] => [91, 93]
  | .l (x :: xs) => 91 :: (txt x ++ txtR xs)
noncomputable def txtR : List Tr → List Nat
  | [] => [93]
  | x :: xs => 44 :: 32 :: (txt x ++ txtR xs)
end
mutual
noncomputable def Dig : Tr → Prop
  | .n d => d ≤ 9
  | .l xs => DigL xs
noncomputable def DigL : List Tr → Prop
  | [] => True
  | x :: xs => Dig x ∧ DigL xs
end
theorem lt_app {a b s s' : List Nat} {x y : Nat} (h : x < y) : x :: s < y :: s' := List.cons_lt_cons_iff.mpr (.inl h)
theorem lt_tl {s s' : List Nat} {x : Nat} (h : s < s') : x :: s < x :: s' := List.cons_lt_cons_iff.mpr (.inr ⟨rfl, h⟩)
/-- what the comparing says of two texts, whatever stands behind them -/
noncomputable def Says (c : Int) (a b : List Nat) : Prop := (c = -1 ∧ ∀ s s', a ++ s < b ++ s') ∨ (c = 0 ∧ a = b) ∨ (c = 1 ∧ ∀ s s', b ++ s' < a ++ s)
theorem first_txt : ∀ {t : Tr}, Dig t → ∃ x r, txt t = x :: r ∧ x < 93 ∧ 48 ≤ x
  | .n d, h => ⟨48 + d, [], rfl, by unfold Dig at h; lia, by lia⟩
  | .l [], _ => ⟨91, [93], rfl, by lia, by lia⟩
  | .l (x :: xs), _ => ⟨91, _, rfl, by lia, by lia⟩
theorem Says.cons {c : Int} {a b : List Nat} {x : Nat} (h : Says c a b) : Says c (x :: a) (x :: b) := by
  rcases h with ⟨h, q⟩ | ⟨h, q⟩ | ⟨h, q⟩
  · exact .inl ⟨h, fun s s' => lt_tl (q s s')⟩
  · exact .inr (.inl ⟨h, by rw [q]⟩)
  · exact .inr (.inr ⟨h, fun s s' => lt_tl (q s s')⟩)
theorem Says.app {c d : Int} {a b p q : List Nat} (h : Says c a b) (h' : Says d p q) : Says (if c = 0 then d else c) (a ++ p) (b ++ q) := by
  rcases h with ⟨rfl, h⟩ | ⟨rfl, rfl⟩ | ⟨rfl, h⟩
  · rw [if_neg (by decide)]
    exact .inl ⟨rfl, fun s s' => by rw [List.append_assoc, List.append_assoc]; exact h _ _⟩
  · rw [if_pos rfl]
    have : ∀ l : List Nat, Says d (l ++ p) (l ++ q) := fun l => by
      induction l with
      | nil => exact h'
      | cons x l ih => exact ih.cons
    exact this a
  · rw [if_neg (by decide)]
    exact .inr (.inr ⟨rfl, fun s s' => by rw [List.append_assoc, List.append_assoc]; exact h _ _⟩)
mutual
theorem says_T : ∀ (t u : Tr), Dig t → Dig u → Says (cmpT t u) (txt t) (txt u)
  | .n a, .n b, ha, hb => by
    unfold cmpT
    by_cases h1 : a < b
    · rw [if_pos h1]; exact .inl ⟨rfl, fun s s' => lt_app (a := []) (b := []) (by lia)⟩
    · rw [if_neg h1]
      by_cases h2 : b < a
      · rw [if_pos h2]; exact .inr (.inr ⟨rfl, fun s s' => lt_app (a := []) (b := []) (by lia)⟩)
      · rw [if_neg h2]; exact .inr (.inl ⟨rfl, by rw [show a = b by lia]⟩)
  | .n a, .l [], ha, _ => .inl ⟨rfl, fun s s' => lt_app (a := []) (b := []) (by unfold Dig at ha; lia)⟩
  | .n a, .l (_ :: _), ha, _ => .inl ⟨rfl, fun s s' => lt_app (a := []) (b := []) (by unfold Dig at ha; lia)⟩
  | .l [], .n b, _, hb => .inr (.inr ⟨rfl, fun s s' => lt_app (a := []) (b := []) (by unfold Dig at hb; lia)⟩)
  | .l (_ :: _), .n b, _, hb => .inr (.inr ⟨rfl, fun s s' => lt_app (a := []) (b := []) (by unfold Dig at hb; lia)⟩)
  | .l [], .l [], _, _ => .inr (.inl ⟨rfl, rfl⟩)
  | .l [], .l (y :: ys), _, hy => by
    unfold Dig DigL at hy
    obtain ⟨x, r, e, h1, h2⟩ := first_txt hy.1
    refine .inr (.inr ⟨rfl, fun s s' => ?_⟩)
    show 91 :: (txt y ++ txtR ys) ++ s' < [91, 93] ++ s
    rw [e]
    exact lt_tl (lt_app (a := []) (b := []) h1)
  | .l (x :: xs), .l [], hx, _ => by
    unfold Dig DigL at hx
    obtain ⟨y, r, e, h1, h2⟩ := first_txt hx.1
    refine .inl ⟨rfl, fun s s' => ?_⟩
    show 91 :: (txt x ++ txtR xs) ++ s < [91, 93] ++ s'
    rw [e]
    exact lt_tl (lt_app (a := []) (b := []) h1)
  | .l (x :: xs), .l (y :: ys), hx, hy => by
    unfold Dig DigL at hx hy
    exact (Says.app (says_T x y hx.1 hy.1) (says_R xs ys hx.2 hy.2)).cons
theorem says_R : ∀ (xs ys : List Tr), DigL xs → DigL ys → Says (cmpL xs ys) (txtR xs) (txtR ys)
  | [], [], _, _ => .inr (.inl ⟨rfl, rfl⟩)
  | [], y :: ys, _, _ => .inr (.inr ⟨rfl, fun s s' => lt_app (a := []) (b := []) (by lia)⟩)
  | x :: xs, [], _, _ => .inl ⟨rfl, fun s s' => lt_app (a := []) (b := []) (by lia)⟩
  | x :: xs, y :: ys, hx, hy => by
    unfold DigL at hx hy
    exact (Says.app (says_T x y hx.1 hy.1) (says_R xs ys hx.2 hy.2)).cons.cons
end
end
end
section
open PySem PyProof.Rows
section
mutual
noncomputable def toP : Tr → PyData
  | .n d => .int d
  | .l xs => .list (toPs xs)
noncomputable def toPs : List Tr → List PyData
  | [] => []
  | x :: xs => toP x :: toPs xs
end
theorem cps_app (a b : Str) : (a ++ b).cps.toList = a.cps.toList ++ b.cps.toList := by
  show (Str.append a b).cps.toList = _
  unfold Str.append
  simp
theorem digit_txt {d : Nat} (h : d ≤ 9) : ((toString (d : Int) : String) : Str).cps.toList = [48 + d] := by
  match d, h with
  | 0, _ => decide +kernel
  | 1, _ => decide +kernel
  | 2, _ => decide +kernel
  | 3, _ => decide +kernel
  | 4, _ => decide +kernel
  | 5, _ => decide +kernel
  | 6, _ => decide +kernel
  | 7, _ => decide +kernel
  | 8, _ => decide +kernel
  | 9, _ => decide +kernel
  | d + 10, h => lia
mutual
theorem shown_T : ∀ (t : Tr), Dig t → (toP t).shown.cps.toList = txt t
  | .n d, h => by unfold toP PyData.shown; exact digit_txt (by unfold Dig at h; exact h)
  | .l [], _ => by decide +kernel
  | .l (x :: xs), h => by
    unfold Dig DigL at h
    unfold toP toPs PyData.shown PyData.shownAll listText
    show (textFrom 1 ("[" ++ ((if 0 > 0 then ", " else "" : String) : Str) ++ (toP x).shown) (PyData.shownAll (toPs xs)) ++ "]" : Str).cps.toList = _
    rw [shown_R xs h.2 1 _ (by lia), cps_app, cps_app, shown_T x h.1]
    rfl
theorem shown_R : ∀ (xs : List Tr), DigL xs → ∀ (k : Nat) (acc : Str), 0 < k → (textFrom k acc (PyData.shownAll (toPs xs)) ++ "]" : Str).cps.toList = acc.cps.toList ++ txtR xs
  | [], _, k, acc, hk => by
    unfold toPs PyData.shownAll textFrom
    rw [cps_app]; rfl
  | x :: xs, h, k, acc, hk => by
    unfold DigL at h
    unfold toPs PyData.shownAll textFrom
    rw [shown_R xs h.2 (k + 1) _ (by lia), cps_app, cps_app, shown_T x h.1, if_pos hk]
    show _ = acc.cps.toList ++ (44 :: 32 :: (txt x ++ txtR xs))
    rw [List.append_assoc, List.append_assoc]
    rfl
end
theorem txt_slt {t u : Tr} (ht : Dig t) (hu : Dig u) : slt (toP t).shown (toP u).shown = true ↔ cmpT t u = -1 := by
  unfold slt
  rw [decide_eq_true_eq, shown_T t ht, shown_T u hu]
  rcases says_T t u ht hu with ⟨h, q⟩ | ⟨h, q⟩ | ⟨h, q⟩
  · have := q [] []; simp only [List.append_nil] at this; simp [h, this]
  · rw [h, q]; simp
  · have := q [] []; simp only [List.append_nil] at this
    rw [h]
    simp only [show ¬ ((1 : Int) = -1) by decide, iff_false]
    exact fun h2 => List.lt_irrefl _ (List.lt_trans this h2)
theorem cmp_range {t u : Tr} (ht : Dig t) (hu : Dig u) : cmpT t u = -1 ∨ cmpT t u = 0 ∨ cmpT t u = 1 := by
  rcases says_T t u ht hu with ⟨h, _⟩ | ⟨h, _⟩ | ⟨h, _⟩
  · exact .inl h
  · exact .inr (.inl h)
  · exact .inr (.inr h)
theorem txt_sgt {t u : Tr} (ht : Dig t) (hu : Dig u) : slt (toP u).shown (toP t).shown = true ↔ cmpT t u = 1 := by
  unfold slt
  rw [decide_eq_true_eq, shown_T t ht, shown_T u hu]
  rcases says_T t u ht hu with ⟨h, q⟩ | ⟨h, q⟩ | ⟨h, q⟩
  · have := q [] []; simp only [List.append_nil] at this
    rw [h]
    simp only [show ¬ ((-1 : Int) = 1) by decide, iff_false]
    exact fun h2 => List.lt_irrefl _ (List.lt_trans this h2)
  · rw [h, q]; simp
  · have := q [] []; simp only [List.append_nil] at this; simp [h, this]
theorem le_iff {t u : Tr} (ht : Dig t) (hu : Dig u) : cmpT t u ≤ 0 ↔ klt false (toP u).shown (toP t).shown = false := by
  unfold klt
  simp only [Bool.false_eq_true, if_false]
  rw [← Bool.not_eq_true, txt_sgt ht hu]
  rcases cmp_range ht hu with h | h | h <;> rw [h] <;> decide
theorem ge_iff {t u : Tr} (ht : Dig t) (hu : Dig u) : cmpT t u ≥ 0 ↔ klt true (toP u).shown (toP t).shown = false := by
  unfold klt
  simp only [if_true]
  rw [← Bool.not_eq_true, txt_slt ht hu]
  rcases cmp_range ht hu with h | h | h <;> rw [h] <;> decide
end
end
section
open PySem PyProof.Rows
section
noncomputable def All2 {α β : Type} (R : α → β → Prop) : List α → List β → Prop
  | [], [] => True
  | x :: xs, y :: ys => R x y ∧ All2 R xs ys
  | _, _ => False
theorem All2.imp {α β : Type} {R R' : α → β → Prop} (h : ∀ x y, R x y → R' x y) : ∀ {xs : List α} {ys : List β}, All2 R xs ys → All2 R' xs ys
  | [], [], _ => trivial
  | _ :: _, _ :: _, q => ⟨h _ _ q.1, All2.imp h q.2⟩
  | [], _ :: _, q => q.elim
  | _ :: _, [], q => q.elim
theorem All2.len {α β : Type} {R : α → β → Prop} : ∀ {xs : List α} {ys : List β}, All2 R xs ys → xs.length = ys.length
  | [], [], _ => rfl
  | _ :: _, _ :: _, q => congrArg (· + 1) (All2.len q.2)
  | [], _ :: _, q => q.elim
  | _ :: _, [], q => q.elim
theorem All2.snoc {α β : Type} {R : α → β → Prop} {x : α} {y : β} (h : R x y) : ∀ {xs : List α} {ys : List β}, All2 R xs ys → All2 R (xs ++ [x]) (ys ++ [y])
  | [], [], _ => ⟨h, trivial⟩
  | _ :: _, _ :: _, q => ⟨q.1, All2.snoc h q.2⟩
  | [], _ :: _, q => q.elim
  | _ :: _, [], q => q.elim
theorem All2.get {α β : Type} {R : α → β → Prop} : ∀ {xs : List α} {ys : List β} {i : Nat} {x : α}, All2 R xs ys → xs[i]? = some x → ∃ y, ys[i]? = some y ∧ R x y
  | x :: _, y :: _, 0, _, q, e => by simp at e; subst e; exact ⟨y, rfl, q.1⟩
  | _ :: _, _ :: _, i + 1, _, q, e => by simp at e; simpa using All2.get q.2 e
  | [], _, _, _, _, e => by simp at e
  | _ :: _, [], _, _, q, _ => q.elim
noncomputable def Thing (D : Addr → Option AO) : Nat → Value → Tr → Prop
  | 0, v, T => ∃ (d : Nat) (t : Tok), v = .int d t ∧ T = .n d ∧ d ≤ 9
  | h + 1, v, T => (∃ (d : Nat) (t : Tok), v = .int d t ∧ T = .n d ∧ d ≤ 9) ∨ ∃ a vs xs, v = .ref a ∧ D a = some (.list vs) ∧ T = .l xs ∧ vs.length ≤ 28 ∧ All2 (Thing D h) vs xs
theorem Thing.mono {D D' : Addr → Option AO} (hd : ∀ a x, D a = some x → D' a = some x) : ∀ {h : Nat} {v : Value} {T : Tr}, Thing D h v T → Thing D' h v T
  | 0, _, _, q => q
  | h + 1, _, _, .inl q => .inl q
  | h + 1, _, _, .inr ⟨a, vs, xs, e1, e2, e3, e4, q⟩ => .inr ⟨a, vs, xs, e1, hd _ _ e2, e3, e4, q.imp fun _ _ => Thing.mono hd⟩
theorem Thing.num {D : Addr → Option AO} {h d : Nat} {t : Tok} (hd : d ≤ 9) : Thing D h (.int d t) (.n d) := by
  cases h with
  | zero => exact ⟨d, t, rfl, rfl, hd⟩
  | succ h => exact .inl ⟨d, t, rfl, rfl, hd⟩
theorem digL_of {D : Addr → Option AO} {h : Nat} (ih : ∀ {v T}, Thing D h v T → Dig T) : ∀ {vs : List Value} {xs : List Tr}, All2 (Thing D h) vs xs → DigL xs
  | [], [], _ => by unfold DigL; trivial
  | _ :: _, _ :: _, q => by unfold DigL; exact ⟨ih q.1, digL_of ih q.2⟩
  | [], _ :: _, q => q.elim
  | _ :: _, [], q => q.elim
theorem Thing.dig {D : Addr → Option AO} : ∀ {h : Nat} {v : Value} {T : Tr}, Thing D h v T → Dig T
  | 0, _, _, ⟨d, t, _, e, hd⟩ => by subst e; unfold Dig; exact hd
  | h + 1, _, _, .inl ⟨d, t, _, e, hd⟩ => by subst e; unfold Dig; exact hd
  | h + 1, _, _, .inr ⟨a, vs, xs, e1, e2, e3, e4, q⟩ => by subst e3; unfold Dig; exact digL_of Thing.dig q
/-- what the library's readings want -/
noncomputable def bnd : Nat → Nat
  | 0 => 1
  | h + 1 => 2 + 28 * (bnd h + 2)
structure Fine (h : Nat) (p : PyData) (n : Nat) : Prop where
  show_ : p.showable = true
  nod : p.hasDict = false
  dep : p.depth ≤ h
structure FineL (h : Nat) (ps : List PyData) (xs : List Tr) : Prop where
  show_ : PyData.showableAll ps = true
  nod : PyData.hasDictAll ps = false
  dep : PyData.depthAll ps ≤ h
  len : (txtR xs).length ≤ 1 + xs.length * (bnd h + 2)
theorem txt_len {x : Tr} {xs : List Tr} : (txt (.l (x :: xs))).length + 1 = (txtR (x :: xs)).length := by
  show (91 :: (txt x ++ txtR xs)).length + 1 = (44 :: 32 :: (txt x ++ txtR xs)).length
  simp
variable {c : Cf} {σ : St}
theorem Thing.all {D : Addr → Option AO} {s : Shared} (hs : ∀ a vs, D a = some (.list vs) → ∃ o n, s.heap.get? a = some o ∧ o.cls = .type "list" ∧ o.data = .seq vs.toArray n) : ∀ {h : Nat} {v : Value} {T : Tr}, Thing D h v T →
    (∃ as, Reads s.heap v (toP T) as) ∧ Fine h (toP T) 0 ∧ (txt T).length ≤ bnd h := by
  intro h
  have numR : ∀ {h : Nat} {v : Value} {T : Tr}, (∃ (d : Nat) (t : Tok), v = .int d t ∧ T = .n d ∧ d ≤ 9) → (∃ as, Reads s.heap v (toP T) as) ∧ Fine h (toP T) 0 ∧ (txt T).length ≤ bnd h := by
    rintro h v T ⟨d, t, rfl, rfl, hd⟩
    refine ⟨⟨[], .int _ _⟩, ⟨?_, rfl, Nat.zero_le _⟩, ?_⟩
    · unfold toP PyData.showable
      match d, hd with
      | 0, _ => decide
      | 1, _ => decide
      | 2, _ => decide
      | 3, _ => decide
      | 4, _ => decide
      | 5, _ => decide
      | 6, _ => decide
      | 7, _ => decide
      | 8, _ => decide
      | 9, _ => decide
      | d + 10, h => lia
    · show 1 ≤ bnd h
      cases h with
      | zero => exact Nat.le_refl _
      | succ h => show 1 ≤ 2 + 28 * (bnd h + 2); lia
  induction h with
  | zero => intro v T q; exact numR q
  | succ h ih =>
    rintro v T (q | ⟨a, vs, xs, rfl, e2, rfl, e4, q⟩)
    · exact numR q
    · have go : ∀ {vs : List Value} {xs : List Tr}, All2 (Thing D h) vs xs → (∃ as, ReadsAll s.heap vs (toPs xs) as) ∧ FineL h (toPs xs) xs := by
        intro vs
        induction vs with
        | nil =>
          intro xs q
          cases xs with
          | nil => exact ⟨⟨[], .nil⟩, rfl, rfl, Nat.zero_le _, by show 1 ≤ _; lia⟩
          | cons _ _ => exact q.elim
        | cons v vs ihv =>
          intro xs q
          cases xs with
          | nil => exact q.elim
          | cons x xs =>
            obtain ⟨⟨as, r⟩, f, l⟩ := ih q.1
            obtain ⟨⟨bs, rs⟩, fs⟩ := ihv q.2
            refine ⟨⟨as ++ bs, .cons r rs⟩, ?_, ?_, ?_, ?_⟩
            · unfold toPs PyData.showableAll; rw [f.show_, fs.show_]; rfl
            · unfold toPs PyData.hasDictAll; rw [f.nod, fs.nod]; rfl
            · unfold toPs PyData.depthAll; exact Nat.max_le.mpr ⟨f.dep, fs.dep⟩
            · show (44 :: 32 :: (txt x ++ txtR xs)).length ≤ _
              have := fs.len
              simp only [List.length_cons, List.length_append, Nat.add_mul]
              lia
      obtain ⟨⟨as, rs⟩, fs⟩ := go q
      obtain ⟨o, n, h1, h2, h3⟩ := hs _ _ e2
      refine ⟨⟨a :: as, .list h1 h2 h3 (by simpa using rs)⟩, ⟨?_, ?_, ?_⟩, ?_⟩
      · unfold toP PyData.showable; exact fs.show_
      · unfold toP PyData.hasDict; exact fs.nod
      · unfold toP PyData.depth; have := fs.dep; lia
      · have hl := q.len
        have := fs.len
        cases xs with
        | nil => show 2 ≤ 2 + 28 * (bnd h + 2); lia
        | cons x xs =>
          have e := txt_len (x := x) (xs := xs)
          have : (x :: xs).length * (bnd h + 2) ≤ 28 * (bnd h + 2) := Nat.mul_le_mul_right _ (by lia)
          show _ ≤ 2 + 28 * (bnd h + 2)
          lia
theorem bnd_le {h : Nat} (hh : h ≤ 3) : bnd h ≤ bnd 3 := by
  rcases (by lia : h = 0 ∨ h = 1 ∨ h = 2 ∨ h = 3) with rfl | rfl | rfl | rfl <;> decide
theorem WP.reprThing {prog : Program} {w : World} {A : Around} {h : Nat} {v : Value} {T : Tr} {Q : Value → St → Prop} (ht : Thing σ.D h v T) (hh : h ≤ 3) (hg : A.guards = some []) (hu : A.units + 8 < cLine)
    (hq : ∀ t, Q (.str (toP T).shown t) σ) : WP prog w c A (call (.builtin "repr") [v]) Q σ := fun s hs => by
  obtain ⟨⟨as, r⟩, f, l⟩ := Thing.all (s := s) (fun a vs e => let ⟨n, q⟩ := hs.plain e; ⟨_, n, q, rfl, rfl⟩) ht
  have len : (toP T).shown.length ≤ sizeLine := by
    show (toP T).shown.cps.size ≤ _
    have : (toP T).shown.cps.size = (txt T).length := by rw [← shown_T T ht.dig, Array.length_toList]
    rw [this, sizeLine_eq]
    have : bnd h ≤ bnd 3 := bnd_le hh
    have : bnd 3 = 69106 + 0 := by decide
    lia
  have num : ∀ (d : Nat) (t : Tok), v = .int d t ∧ T = .n d ∧ d ≤ 9 → wpAny (model prog w) A (call (.builtin "repr") [v]) (fun v s' => ∃ σ', Abs c σ' s' ∧ Q v σ') (fun _ _ => False) s := by
    rintro d t ⟨rfl, rfl, hd⟩
    refine PySem.P.repr_of_int ?_ ⟨σ, hs.tok _, ?_⟩
    · have := f.show_
      unfold toP PyData.showable at this
      exact of_decide_eq_true this
    · have := hq s.toks
      unfold toP PyData.shown at this
      exact this
  have lst : ∀ a, v = .ref a → wpAny (model prog w) A (call (.builtin "repr") [v]) (fun v s' => ∃ σ', Abs c σ' s' ∧ Q v σ') (fun _ _ => False) s := by
    rintro a rfl
    exact repr_of_reads' r f.show_ (PyData.noDict_hsm f.nod) hg (by have := f.dep; lia) (fun _ _ e => e) (fun h' u tk hk => ⟨σ, (hs.grown hk).tok _, hq u⟩) len
  cases h with
  | zero => obtain ⟨d, t, q⟩ := ht; exact num d t q
  | succ h =>
    rcases ht with ⟨d, t, q⟩ | ⟨a, vs, xs, e, _⟩
    · exact num d t q
    · exact lst a e
end
end
section
open PySem PySem.W PyProof.Rows
section
variable {prog : Program} {w : World} {c : Cf} {A : Around} {σ : St}
/-- entering a lambda of the text -/
theorem WP.enterE {f : Addr} {o : Obj} {fd : FuncData} {body : Expr} {vals : List Value} {binds : List (Str × Value)} {names : List Str} {vs : List (Option Value)} {Q : Value → St → Prop}
    (ho : ∀ s, Abs c σ s → s.heap.get? f = some o) (hd : o.data = .func fd) (hlim : c.hb.NoLimit) (hcd : ∀ s, Abs c σ s → s.heap.CodeRec fd.code fd.qualname)
    (hbody : fd.body = .expr body) (hclo : fd.closure = []) (hroom : A.depth < recursionLimit)
    (hbind : bindArgs fd ⟨vals, []⟩ = Pure.pure binds)
    (hkind : ∀ x ∈ binds, fd.scope.names.lookup x.1 = some .local)
    (hcell : ∀ x ∈ fd.scope.names, x.2 ≠ .cell)
    (hlk : (fun x => binds.reverse.lookup x) = lk names vs) (hlen : vs.length = names.length)
    (hok : ∀ L, EnvOk (newEnv fd.scope L fd.globals [] (fd.qualname ++ ".<locals>.") (some f) fd.code none fd.builtins) names)
    (h : ∀ c' : Cf, c'.env.scope = fd.scope → c'.hb = c.hb → EnvOk c'.env names →
      WP prog w (c'.nm names) (A.deeper c'.env) (eval body c'.env) (fun v σ' => Q v ⟨σ.v, σ'.D⟩) ⟨vs, σ.D⟩)
    (hco : fd.scope.isCoroutine = false := by with_unfolding_all rfl) (hgen : fd.scope.isGenerator = false := by with_unfolding_all rfl) (hk : fd.scope.kind = .function := by with_unfolding_all rfl) :
    WP prog w c A (call (.ref f) vals) Q σ := by
  intro s hs
  refine wpAny_call (kla_callFunE hroom (ho s hs) hd hco hgen hbody (hcd s hs) ?_)
  rw [hbind, hclo]
  refine wpAny_pure (wpAny_newFunctionEnv hcell hkind (fun h₁ hns hsb => ⟨((hlim.keeps hs.hbk).fresh _ hsb), ?_⟩) hk)
  have hext : ∀ b ob, s.heap.get? b = some ob → h₁.get? b = some ob := fun b ob e => hsb.extBut b ob (Nat.ne_of_lt (Heap.lt_size e)) (Heap.get?_push_of_some _ e)
  have dR : ∀ b ob, c.R b = some ob → σ.D b = none := fun b ob e => by
    cases q : σ.D b with
    | none => rfl
    | some x => have := (hs.apart _ _ q).2; rw [e] at this; cases this
  let E := newEnv fd.scope s.heap.objs.size fd.globals [] (fd.qualname ++ ".<locals>.") (some f) fd.code none fd.builtins
  let c' : Cf := { env := E, names := names, R := fun a => if (σ.D a).isSome then none else s.heap.get? a, os := c.os, hb := c.hb }
  have hsz : s.heap.get? s.heap.objs.size = none := by
    cases q : s.heap.get? s.heap.objs.size with
    | none => rfl
    | some x => exact absurd (Heap.lt_size q) (Nat.lt_irrefl _)
  have A0 : Abs c' ⟨vs, σ.D⟩ { s with heap := h₁, toks := s.toks + binds.length } := {
    ok := hok _
    len := hlen
    ns := by rw [← hlk]; exact hns
    rig := fun a ob e => by
      have e' : (if (σ.D a).isSome then none else s.heap.get? a) = some ob := e
      split at e'
      · cases e'
      · exact hext _ _ e'
    dat := fun a x e => let ⟨ob, e1, r⟩ := hs.dat a x e; ⟨ob, hext _ _ e1, r⟩
    apart := fun a x e => by
      obtain ⟨ob, e1, r⟩ := hs.dat a x e
      refine ⟨Nat.ne_of_lt (Heap.lt_size e1), ?_⟩
      show (if (σ.D a).isSome then none else s.heap.get? a) = none
      have e' : σ.D a = some x := e
      rw [e']; rfl
    fr := by
      show (if (σ.D s.heap.objs.size).isSome then none else s.heap.get? s.heap.objs.size) = none
      rw [hsz]; split <;> rfl
    base := fun a ob e => by
      have e1 := hs.base a ob e
      show (if (σ.D a).isSome then none else s.heap.get? a) = some ob
      rw [dR _ _ e1]; exact hs.rig _ _ e1
    gens := hs.gens
    os := hs.os }
  refine kla_codeExpr ?_
  refine wpAny_mono (h c' rfl rfl (hok _) _ A0) (fun fl s' xq => ex3 xq fun σ' a' q => ?_) fun _ _ e => e.elim
  obtain ⟨oL, hoL⟩ : ∃ oL, s.heap.get? c.env.locals = some oL := let ⟨o, _, _, e, _⟩ := hs.ns; ⟨o, e⟩
  have dL : σ.D c.env.locals = none := by
    cases q : σ.D c.env.locals with
    | none => rfl
    | some x => exact absurd rfl (hs.apart _ _ q).1
  have rL : c'.R c.env.locals = some oL := by
    show (if (σ.D c.env.locals).isSome then none else s.heap.get? c.env.locals) = some oL
    rw [dL]; exact hoL
  have rR : ∀ b ob, c.R b = some ob → c'.R b = some ob := fun b ob e => by
    show (if (σ.D b).isSome then none else s.heap.get? b) = some ob
    rw [dR _ _ e]; exact hs.rig _ _ e
  have fin : Abs c ⟨σ.v, σ'.D⟩ s' := {
    ok := hs.ok
    len := hs.len
    ns := by
      obtain ⟨oo, es, ep, e, r⟩ := hs.ns
      rw [hoL] at e; cases e
      exact ⟨oL, es, ep, a'.rig _ _ rL, r⟩
    rig := fun b ob e => a'.rig _ _ (rR _ _ e)
    dat := a'.dat
    apart := fun b x e => by
      have h2 := (a'.apart b x e).2
      refine ⟨fun q => ?_, ?_⟩
      · rw [q] at h2
        have h3 : c'.R c.env.locals = none := h2
        rw [rL] at h3; cases h3
      · cases q : c.R b with
        | none => rfl
        | some ob =>
          have h3 : c'.R b = none := h2
          rw [rR _ _ q] at h3; cases h3
    fr := hs.fr
    base := hs.base
    gens := a'.gens
    os := a'.os }
  exact ⟨_, fin, q⟩
end
end
section
open PySem PySem.W PyProof.Rows
section
@[reducible] noncomputable def nmSR : List Str := ["obj", "short", "result"]
theorem sr_body {w : World} {c : Cf} {A : Around} {D : Addr → Option AO} {h : Nat} {v : Value} {T : Tr} {Q : Flow → St → Prop} (hr : GNm c.hb "repr" (.builtin "repr")) (hsc : c.env.scope = scopeAt 2)
   (ht : Thing D h v T) (hh : h ≤ 3) (hg : A.guards = some []) (hu : A.units + 8 < cLine) (hq : ∀ vv t, Q (.ret (.str (toP T).shown t)) ⟨vv, D⟩) :
   WP prg w (c.nm nmSR) A (execs (bodyAt 2) c.env) Q ⟨[some v, some (.bool false), none], D⟩ := by
  refine WP.execs_cons ?_
  walk_at "go"
  refine WP.gname hr (by show c.env.scope.names.lookup _ = _; rw [hsc]; rfl) (by decide) ?_
  walk_at "go"
  refine WP.reprThing ht hh hg hu fun t => ?_
  walk_at "go"
  refine WP.tplain ?_
  walk_at "go"
  exact hq _ _
theorem sr_call {w : World} {c : Cf} {A : Around} {σ : St} {f : Addr} {dV : Value} {h : Nat} {v : Value} {T : Tr} {Q : Value → St → Prop} (hlim : c.hb.NoLimit) (hr : GNm c.hb "repr" (.builtin "repr")) (hf : FnOk c.hb 2 "safe_repr" f dV)
   (hdv : ∃ T o m, dV = .ref T ∧ c.hb.get? T = some o ∧ o.data = .seq #[.bool false] m)
   (ht : Thing σ.D h v T) (hh : h ≤ 3) (hg : A.guards = some []) (hu : A.units + 11 < cLine) (hd : A.depth < recursionLimit) (hq : ∀ t, Q (.str (toP T).shown t) σ) :
   WP prg w c A (call (.ref f) [v]) Q σ := by
  obtain ⟨_, o, pm, cd, doc, e, d, cr⟩ := hf
  refine WP.weaken ?_
  refine WP.enterC (names := nmSR) (vs := [some v, some (.bool false), none]) (cm := fun _ => none) (binds := [("obj", v), ("short", .bool false)])
    (fun s hs => hs.hbk _ _ e) d hlim (fun s hs => cr.keeps hs.hbk) rfl rfl hd ?_ ?_ ?_ ?_ rfl ?_ ?_ rfl rfl rfl
  · intro s hs
    obtain ⟨TT, oT, m, rfl, eT, dT⟩ := hdv
    exact BindsTo.of_defaults (T := TT) rfl (hs.hbk _ _ eT) dT (by with_unfolding_all rfl) (by with_unfolding_all rfl)
  · intro L x hx
    rcases List.mem_cons.mp hx with rfl | hx
    · exact .inl (by show (scopeAt 2).names.lookup (Str.ofString "obj") = _; decide +kernel)
    rcases List.mem_cons.mp hx with rfl | hx
    · exact .inl (by show (scopeAt 2).names.lookup (Str.ofString "short") = _; decide +kernel)
    · cases hx
  · have k1 : (fun n => (scopeAt 2).names.lookup n) (Str.ofString "obj") = some .local := by decide +kernel
    have k2 : (fun n => (scopeAt 2).names.lookup n) (Str.ofString "short") = some .local := by decide +kernel
    show bindL (fun n => (scopeAt 2).names.lookup n) _ _ = _
    simp only [bindL, k1, k2, if_true]
    funext y
    show _ = if y = Str.ofString "obj" then some v else if y = Str.ofString "short" then some (.bool false) else if y = Str.ofString "result" then none else none
    by_cases h1 : y = Str.ofString "obj"
    · rw [if_pos h1, if_pos h1, h1, if_neg (by decide)]
    · rw [if_neg h1, if_neg h1]; simp
  · have k1 : (fun n => (scopeAt 2).names.lookup n) (Str.ofString "obj") = some .local := by decide +kernel
    have k2 : (fun n => (scopeAt 2).names.lookup n) (Str.ofString "short") = some .local := by decide +kernel
    show bindC (fun n => (scopeAt 2).names.lookup n) _ _ = _
    simp only [bindC, k1, k2, if_true]
  · intro L
    exact ⟨rfl, by show ∀ x ∈ nmSR, (scopeAt 2).names.lookup x = some .local; decide +kernel, by decide +kernel, by decide +kernel, rfl, rfl⟩
  · intro c' L D' g1 g2 hD1 hcl hinj hnew
    rw [← g2] at hr
    exact sr_body hr (by rw [g1]; rfl) (ht.mono hD1) hh hg hu fun vv t => ⟨σ.D, hD1, hq t⟩
@[reducible] noncomputable def lamArgs (pa : Pos) : Arguments := { posonlyargs := [], args := [{ arg := "two", annotation := none, pos := pa : PySem.Arg }], vararg := none, kwonlyargs := [], kw_defaults := [], kwarg := none, defaults := [] }
@[reducible] noncomputable def lamBody (p1 p2 p3 p4 p5 : Pos) (k : Nat) : Expr := .Call (.Name (Str.ofString "safe_repr") p1) [.Subscript (.Name (Str.ofString "two") p2) (.Constant (.int 0) k p3) p4] [] p5
/-- the lambda is a key function -/
theorem lam_key {w : World} {hb : Heap} {f fn c' : Addr} {dV : Value} {D₀ : Addr → Option AO} {kf : Value → Str} {P : Value → Prop} {p1 p2 p3 p4 p5 pa : Pos} {k : Nat} {scope : Scope} {qual : Str} {pm ctv : Value} {oc : Obj} {cvs : Array Value} {tq : Tok}
   (hlim : hb.NoLimit) (hr : GNm hb "repr" (.builtin "repr")) (hf : FnOk hb 2 "safe_repr" f dV) (hdv : ∃ T o m, dV = .ref T ∧ hb.get? T = some o ∧ o.data = .seq #[.bool false] m)
   (hfn : D₀ fn = some (.obj (kla_obj "<lambda>" qual (lamArgs pa) (lamBody p1 p2 p3 p4 p5 k) scope [] pm c' ctv))) (hoc : D₀ c' = some (.obj oc)) (hcd : oc.data = .fields cvs) (hcq : cvs[1]? = some (.str qual tq))
   (hs1 : scope.names.lookup (Str.ofString "two") = some .local) (hs2 : scope.names.lookup (Str.ofString "safe_repr") = some .globalImplicit) (hs3 : ∀ x ∈ scope.names, x.2 ≠ .cell) (hs4 : scope.kind = .function) (hs5 : scope.isCoroutine = false) (hs6 : scope.isGenerator = false)
   (hkf : ∀ v, P v → ∃ a x y T, v = .ref a ∧ D₀ a = some (.list [x, y]) ∧ Thing D₀ 3 x T ∧ kf v = (toP T).shown) : KeyOk prg w hb (.ref fn) D₀ kf P 14 1 := by
  intro c A σ v Q h1 h2 hv hu hd hg hh hq
  obtain ⟨a, x, y, T, rfl, ha, hT, hk⟩ := hkf v hv
  subst h1
  refine WP.enterE (names := ["two"]) (vs := [some (.ref a)]) (binds := [(Str.ofString "two", .ref a)]) (fun s hs => hs.obj (h2 _ _ hfn)) rfl hlim (fun s hs => ⟨c', oc, cvs, tq, rfl, hs.obj (h2 _ _ hoc), hcd, hcq⟩) rfl rfl (by lia) (by with_unfolding_all rfl) ?_ hs3 ?_ rfl ?_ ?_ hs5 hs6 hs4
  · intro z hz; rw [List.mem_singleton.mp hz]; exact hs1
  · exact lk_of_binds [(Str.ofString "two", .ref a)] [] (by simp)
  · intro L
    exact ⟨hs4, fun z hz => by rw [List.mem_singleton.mp hz]; exact hs1, by simp, fun z hz => by rw [List.mem_singleton.mp hz]; decide, rfl, rfl⟩
  · intro cc g1 g2 _
    rw [← g2] at hlim hr hf hdv
    walk_at "go"
    refine WP.gname hf.1 (by show cc.env.scope.names.lookup _ = _; rw [g1]; exact hs2) (by decide) ?_
    walk_at "go"
    refine WP.itemN (k := 0) (h2 _ _ ha) rfl (by lia) ?_
    walk_at "go"
    refine ⟨FnOk.callOk (c := cc.nm ["two"]) hf, ?_⟩
    refine sr_call (c := cc.nm ["two"]) hlim hr hf hdv (hT.mono h2) (by lia) hg (by show A.units + 3 + 11 < cLine; lia) (by show A.depth + 1 < recursionLimit; lia) fun t => ?_
    have := hq t
    rw [hk] at this
    exact this
end
end
section
open PySem PySem.W PyProof.Rows
section
section
variable {prog : Program} {w : World} {c : Cf} {A : Around} {σ : St}
theorem sub_int_int : isSubtype (.type "int") (.type "int") = pure true := by rw [isSubtype_type]; kernel_rfl
theorem sub_list_int : isSubtype (.type "list") (.type "int") = pure false := by rw [isSubtype_type]; kernel_rfl
theorem type_int : typeOf (.type "int") = pure (.type "type") := by kernel_rfl
theorem WP.isiInt {i : Int} {t : Tok} {Q : Value → St → Prop} (h : Q (.bool true) σ) : WP prog w c A (call (.builtin "isinstance") [.int i t, .type "int"]) Q σ := fun s hs =>
  call_isinstance_yes (typeIs_int s i t) type_int sub_int_int ⟨σ, hs, h⟩
theorem WP.isiList {a : Addr} {vs : List Value} {Q : Value → St → Prop} (hl : σ.D a = some (.list vs)) (h : Q (.bool false) σ) : WP prog w c A (call (.builtin "isinstance") [.ref a, .type "int"]) Q σ := fun s hs => by
  obtain ⟨n, e⟩ := hs.plain hl
  exact call_function_meets PyProof.Rows.kind_isinstance PyProof.Rows.plain_isinstance PyProof.Rows.entry_isinstance (PyProof.Rows.args_isinstance _ _) (isinstance_false_list (a := a) (T := "int") (by decide) type_int sub_list_int) ⟨⟨_, e, rfl⟩, ⟨σ, hs.tok _, h⟩⟩
theorem WP.subB {p q : Bool} {Q : Value → St → Prop} (h : ∀ t, Q (.int (b2i p - b2i q) t) σ) : WP prog w c A (binaryOp .Sub (.bool p) (.bool q)) Q σ := fun s hs => sub_bool ⟨σ, hs.tok _, h _⟩
theorem WP.min2 {a b : Int} {t u : Tok} {Q : Value → St → Prop} (hh : A.handled = none) (h : ∀ t, Q (.int (min a b) t) σ) : WP prog w c A (call (.builtin "min") [.int a t, .int b u]) Q σ := fun s hs =>
  min_two_ints hh fun h' tk hk => ⟨σ, (hs.grown hk).tok _, by
    split
    · rename_i q; rw [show b = min a b by lia]; exact h _
    · rename_i q
      have := h t
      rw [show min a b = a by lia] at this
      exact this⟩
end
structure TopD (hb : Heap) : Prop where
  lim : hb.NoLimit
  len : GNm hb "len" (.builtin "len")
  range : GNm hb "range" (.type "range")
  min : GNm hb "min" (.builtin "min")
  isinstance : GNm hb "isinstance" (.builtin "isinstance")
  int : GNm hb "int" (.type "int")
@[reducible] noncomputable def nmHD : List Str := ["one", "other", "k", "way"]
theorem cmpL_end : ∀ {xs ys : List Tr}, xs = [] ∨ ys = [] → cmpL xs ys = b2i (decide (xs.length < ys.length)) - b2i (decide (ys.length < xs.length))
  | [], [], _ => rfl
  | [], _ :: _, _ => by unfold cmpL b2i; simp
  | _ :: _, [], _ => by unfold cmpL b2i; simp
  | _ :: _, _ :: _, h => by simp at h
theorem cmp_num {a b : Nat} : cmpT (.n a) (.n b) = b2i (decide ((b : Int) < a)) - b2i (decide ((a : Int) < b)) := by
  unfold cmpT b2i
  by_cases h1 : a < b
  · rw [if_pos h1]; simp [h1, show ¬ b < a by lia]
  · rw [if_neg h1]
    by_cases h2 : b < a
    · rw [if_pos h2]; simp [h2, h1]
    · rw [if_neg h2]; simp [h1, h2]
noncomputable def HeldOk (w : World) (hb : Heap) (f : Addr) (h : Nat) : Prop :=
  ∀ (c : Cf) (A : Around) (σ : St) (v u : Value) (T U : Tr) (Q : Value → St → Prop), c.hb = hb → A.handled = none → A.units + 4 * h + 10 < cLine → A.depth + h + 2 < recursionLimit → Thing σ.D h v T → Thing σ.D h u U →
    (∀ t, Q (.int (cmpT T U) t) σ) → WP prg w c A (call (.ref f) [v, u]) Q σ
theorem hd_num {w : World} {c : Cf} {A : Around} {a b : Nat} {t u : Tok} {D : Addr → Option AO} {Q : Flow → St → Prop} (T : TopD c.hb) (hsc : c.env.scope = scopeAt 16)
   (hq : ∀ vv t, Q (.ret (.int (cmpT (.n a) (.n b)) t)) ⟨vv, D⟩) : WP prg w (c.nm nmHD) A (execs (bodyAt 16) c.env) Q ⟨[some (.int a t), some (.int b u), none, none], D⟩ := by
  refine WP.execs_cons ?_
  walk_at "go"
  refine WP.tplain ?_
  walk_at "go"
  refine WP.gname T.isinstance (by show c.env.scope.names.lookup _ = _; rw [hsc]; rfl) (by decide) ?_
  walk_at "go"
  refine WP.gname T.int (by show c.env.scope.names.lookup _ = _; rw [hsc]; rfl) (by decide) ?_
  walk_at "go"
  refine WP.isiInt ?_
  walk_at "go"
  refine WP.tplain ?_
  walk_at "go"
  refine WP.gname T.isinstance (by show c.env.scope.names.lookup _ = _; rw [hsc]; rfl) (by decide) ?_
  walk_at "go"
  refine WP.gname T.int (by show c.env.scope.names.lookup _ = _; rw [hsc]; rfl) (by decide) ?_
  walk_at "go"
  refine WP.isiInt ?_
  walk_at "go"
  refine WP.subB fun t' => ?_
  rw [← cmp_num]
  exact hq _ _
theorem hd_nl {w : World} {c : Cf} {A : Around} {i : Int} {b : Addr} {us : List Value} {t : Tok} {D : Addr → Option AO} {Q : Flow → St → Prop} (T : TopD c.hb) (hsc : c.env.scope = scopeAt 16) (hb : D b = some (.list us))
   (hq : ∀ vv t, Q (.ret (.int (-1) t)) ⟨vv, D⟩) : WP prg w (c.nm nmHD) A (execs (bodyAt 16) c.env) Q ⟨[some (.int i t), some (.ref b), none, none], D⟩ := by
  refine WP.execs_cons ?_
  walk_at "go"
  refine WP.tplain ?_
  walk_at "go"
  refine WP.gname T.isinstance (by show c.env.scope.names.lookup _ = _; rw [hsc]; rfl) (by decide) ?_
  walk_at "go"
  refine WP.gname T.int (by show c.env.scope.names.lookup _ = _; rw [hsc]; rfl) (by decide) ?_
  walk_at "go"
  refine WP.isiInt ?_
  walk_at "go"
  refine WP.tplain ?_
  walk_at "go"
  refine WP.gname T.isinstance (by show c.env.scope.names.lookup _ = _; rw [hsc]; rfl) (by decide) ?_
  walk_at "go"
  refine WP.gname T.int (by show c.env.scope.names.lookup _ = _; rw [hsc]; rfl) (by decide) ?_
  walk_at "go"
  refine WP.isiList hb ?_
  walk_at "go"
  refine WP.tplain ?_
  walk_at "go"
  refine WP.gname T.isinstance (by show c.env.scope.names.lookup _ = _; rw [hsc]; rfl) (by decide) ?_
  walk_at "go"
  refine WP.gname T.int (by show c.env.scope.names.lookup _ = _; rw [hsc]; rfl) (by decide) ?_
  walk_at "go"
  refine WP.isiInt ?_
  walk_at "go"
  refine WP.usub ?_
  walk_at "go"
  exact ⟨_, _, rfl, fun t => hq _ _⟩
theorem hd_list {w : World} {c : Cf} {A : Around} {a : Addr} {vs : List Value} {u : Value} {D : Addr → Option AO} {Q : Flow → St → Prop} (T : TopD c.hb) (hsc : c.env.scope = scopeAt 16) (ha : D a = some (.list vs))
   (hu : (∃ i t, u = .int i t ∧ ∀ vv t, Q (.ret (.int 1 t)) ⟨vv, D⟩) ∨ (∃ b us, u = .ref b ∧ D b = some (.list us) ∧ WP prg w (c.nm nmHD) A (execs ((bodyAt 16).drop 3) c.env) Q ⟨[some (.ref a), some u, none, none], D⟩)) :
   WP prg w (c.nm nmHD) A (execs (bodyAt 16) c.env) Q ⟨[some (.ref a), some u, none, none], D⟩ := by
  refine WP.execs_cons ?_
  walk_at "go"
  refine WP.tplain ?_
  walk_at "go"
  refine WP.gname T.isinstance (by show c.env.scope.names.lookup _ = _; rw [hsc]; rfl) (by decide) ?_
  walk_at "go"
  refine WP.gname T.int (by show c.env.scope.names.lookup _ = _; rw [hsc]; rfl) (by decide) ?_
  walk_at "go"
  refine WP.isiList ha ?_
  walk_at "go"
  refine WP.tplain ?_
  walk_at "go"
  refine WP.gname T.isinstance (by show c.env.scope.names.lookup _ = _; rw [hsc]; rfl) (by decide) ?_
  walk_at "go"
  refine WP.gname T.int (by show c.env.scope.names.lookup _ = _; rw [hsc]; rfl) (by decide) ?_
  walk_at "go"
  refine WP.isiList ha ?_
  walk_at "go"
  refine WP.tplain ?_
  walk_at "go"
  refine WP.gname T.isinstance (by show c.env.scope.names.lookup _ = _; rw [hsc]; rfl) (by decide) ?_
  walk_at "go"
  refine WP.gname T.int (by show c.env.scope.names.lookup _ = _; rw [hsc]; rfl) (by decide) ?_
  walk_at "go"
  rcases hu with ⟨i, t, rfl, hq⟩ | ⟨b, us, rfl, hb, hw⟩
  · refine WP.isiInt ?_
    walk_at "go"
    exact hq _ _
  · refine WP.isiList hb ?_
    refine WP.truthy ?_
    refine ifF ?_
    try (refine WP.execs_nil ?_)
    exact hw
theorem min_lt {a b j : Nat} (h : j = min a b) : a - j < b - j ↔ a < b := by
  subst h
  rcases Nat.le_total a b with q | q
  · rw [Nat.min_eq_left q]; lia
  · rw [Nat.min_eq_right q]; lia
theorem hd_ll {w : World} {c : Cf} {A : Around} {f a b : Addr} {vs us : List Value} {xs ys : List Tr} {h : Nat} {D : Addr → Option AO} {Q : Flow → St → Prop} (T : TopD c.hb) (hsc : c.env.scope = scopeAt 16) (hf : FnOk c.hb 16 "_law_held" f .none)
   (ih : HeldOk w c.hb f h) (hh : A.handled = none) (hu : A.units + 4 * h + 10 < cLine) (hd : A.depth + h + 2 < recursionLimit)
   (ha : D a = some (.list vs)) (hb : D b = some (.list us)) (hx : All2 (Thing D h) vs xs) (hy : All2 (Thing D h) us ys) (lx : vs.length ≤ 28) (ly : us.length ≤ 28)
   (hq : ∀ vv t, Q (.ret (.int (cmpL xs ys) t)) ⟨vv, D⟩) : WP prg w (c.nm nmHD) A (execs ((bodyAt 16).drop 3) c.env) Q ⟨[some (.ref a), some (.ref b), none, none], D⟩ := by
  have ex := hx.len
  have ey := hy.len
  refine WP.weaken ?_
  refine WP.execs_cons ?_
  walk_at "go"
  refine WP.gname T.range (by show c.env.scope.names.lookup _ = _; rw [hsc]; rfl) (by decide) ?_
  walk_at "go"
  refine WP.gname T.min (by show c.env.scope.names.lookup _ = _; rw [hsc]; rfl) (by decide) ?_
  walk_at "go"
  refine WP.gname T.len (by show c.env.scope.names.lookup _ = _; rw [hsc]; rfl) (by decide) ?_
  walk_at "go"
  refine WP.len ha (by lia) fun _ => ?_
  walk_at "go"
  refine WP.gname T.len (by show c.env.scope.names.lookup _ = _; rw [hsc]; rfl) (by decide) ?_
  walk_at "go"
  refine WP.len hb (by lia) fun _ => ?_
  walk_at "go"
  refine WP.min2 hh fun _ => ?_
  walk_at "go"
  rw [show min ((vs.length : Nat) : Int) ((us.length : Nat) : Int) = ((min vs.length us.length : Nat) : Int) by lia]
  refine WP.range1 fun rg _ _ hrg => ?_
  walk_at "go"
  refine WP.iterRange upd_self (range_small (by lia)) fun it hit => ?_
  have hsize : Builtin.Range.rangeSize 0 ((min vs.length us.length : Nat) : Int) 1 = ((min vs.length us.length : Nat) : Int) := by rw [rangeSize_one]; split <;> lia
  rw [hsize]
  have nit : D it = none := hit.off (upd_le hrg.d)
  refine WC.less (D' := upd D it (ritO ((0 : Nat) : Int) ((min vs.length us.length : Nat) : Int) 1)) ?_ (le_upd (le_put (fun _ _ e => e) hrg.d))
  let I : Nat → St → Prop := fun r σ => ∃ j k1 w1, σ = ⟨[some (.ref a), some (.ref b), k1, w1], upd D it (ritO ((j : Nat) : Int) (r : Int) 1)⟩ ∧ j + r = min vs.length us.length ∧ cmpL xs ys = cmpL (xs.drop j) (ys.drop j)
  refine WC.forLoop I ?turn (min vs.length us.length) ⟨0, none, none, rfl, by lia, rfl⟩
  rintro r σ ⟨j, k1, w1, rfl, hj, hc⟩
  have hD1 : ∀ p x, D p = some x → upd D it (ritO ((j : Nat) : Int) (r : Int) 1) p = some x := upd_le nit
  cases r with
  | zero =>
    refine WP.nextRangeEnd hh upd_self (by lia) ?_
    dsimp only
    rw [del_upd, del_none nit]
    walk_at "go"
    refine WP.gname T.len (by show c.env.scope.names.lookup _ = _; rw [hsc]; rfl) (by decide) ?_
    walk_at "go"
    refine WP.len ha (by lia) fun _ => ?_
    walk_at "go"
    refine WP.gname T.len (by show c.env.scope.names.lookup _ = _; rw [hsc]; rfl) (by decide) ?_
    walk_at "go"
    refine WP.len hb (by lia) fun _ => ?_
    walk_at "go"
    refine WP.gname T.len (by show c.env.scope.names.lookup _ = _; rw [hsc]; rfl) (by decide) ?_
    walk_at "go"
    refine WP.len ha (by lia) fun _ => ?_
    walk_at "go"
    refine WP.gname T.len (by show c.env.scope.names.lookup _ = _; rw [hsc]; rfl) (by decide) ?_
    walk_at "go"
    refine WP.len hb (by lia) fun _ => ?_
    walk_at "go"
    refine WP.subB fun t' => ?_
    refine ⟨D, fun _ _ e => e, ?_⟩
    have e : cmpL xs ys = b2i (decide (((vs.length : Nat) : Int) < ((us.length : Nat) : Int))) - b2i (decide (((us.length : Nat) : Int) < ((vs.length : Nat) : Int))) := by
      rw [hc, cmpL_end]
      · congr 2
        · apply decide_eq_decide.mpr; rw [List.length_drop, List.length_drop, ← ex, ← ey, min_lt (a := vs.length) (b := us.length) (by lia), Int.ofNat_lt]
        · apply decide_eq_decide.mpr; rw [List.length_drop, List.length_drop, ← ex, ← ey, min_lt (a := us.length) (b := vs.length) (by rw [Nat.min_comm]; lia), Int.ofNat_lt]
      · rcases Nat.le_total vs.length us.length with q | q
        · exact .inl (List.drop_eq_nil_of_le (by lia))
        · exact .inr (List.drop_eq_nil_of_le (by lia))
    have := hq [some (.ref a), some (.ref b), k1, w1] t'
    rw [e] at this
    exact this
  | succ r =>
    have h1 : j < vs.length := by lia
    have h2 : j < us.length := by lia
    obtain ⟨x, gx, tx⟩ := hx.get (List.getElem?_eq_getElem h1)
    obtain ⟨y, gy, ty⟩ := hy.get (List.getElem?_eq_getElem h2)
    refine WP.nextRange upd_self (by lia) fun tj => ?_
    dsimp only [St.put]
    rw [upd_upd]
    have hD2 : ∀ p x, D p = some x → upd D it (ritO (((j : Nat) : Int) + 1) (((r + 1 : Nat) : Int) - 1) 1) p = some x := upd_le nit
    walk_at "go"
    refine WP.gname hf.1 (by show c.env.scope.names.lookup _ = _; rw [hsc]; rfl) (by decide) ?_
    walk_at "go"
    refine WP.itemN (hD2 _ _ ha) (List.getElem?_eq_getElem h1) (by lia) ?_
    walk_at "go"
    refine WP.itemN (hD2 _ _ hb) (List.getElem?_eq_getElem h2) (by lia) ?_
    walk_at "go"
    refine ⟨FnOk.callOk (c := c.nm nmHD) hf, ?_⟩
    refine ih (c.nm nmHD) A _ _ _ _ _ _ rfl hh hu hd (tx.mono hD2) (ty.mono hD2) fun t => ?_
    walk_at "go"
    have hstep : cmpL (xs.drop j) (ys.drop j) = if cmpT x y = 0 then cmpL (xs.drop (j + 1)) (ys.drop (j + 1)) else cmpT x y := by
      obtain ⟨l1, e1⟩ := List.getElem?_eq_some_iff.mp gx
      obtain ⟨l2, e2⟩ := List.getElem?_eq_some_iff.mp gy
      rw [List.drop_eq_getElem_cons l1, List.drop_eq_getElem_cons l2, e1, e2]
      rw [cmpL]
    by_cases h0 : cmpT x y = 0
    · rw [if_neg (by simp [h0])]
      walk_at "go"
      rw [if_pos h0] at hstep
      refine ⟨r, by lia, j + 1, some (.int j tj), some (.int (cmpT x y) t), ?_, by lia, hc.trans hstep⟩
      rw [show (((j + 1 : Nat) : Int)) = ((j : Nat) : Int) + 1 by lia, show (((r + 1 : Nat) : Int) - 1) = (r : Int) by lia]
    · rw [if_pos (by simp [h0])]
      walk_at "go"
      rw [if_neg h0] at hstep
      refine ⟨D, hD2, ?_⟩
      have := hq [some (.ref a), some (.ref b), some (.int j tj), some (.int (cmpT x y) t)] t
      rw [hc, hstep] at this
      exact this
theorem shHD : Shape 16 ["one", "other"] ["k", "way"] := ⟨by decide +kernel, by decide +kernel, by decide +kernel, by decide +kernel, rfl, rfl, rfl⟩
theorem held_ok {w : World} {hb : Heap} {f : Addr} (T : TopD hb) (hf : FnOk hb 16 "_law_held" f .none) : ∀ h, HeldOk w hb f h := by
  have numnum : ∀ (h : Nat) (c : Cf) (A : Around) (σ : St) (v u : Value) (a b : Nat) (t t' : Tok) (Q : Value → St → Prop), c.hb = hb → A.depth < recursionLimit → v = .int a t → u = .int b t' → (∀ t, Q (.int (cmpT (.n a) (.n b)) t) σ) → WP prg w c A (call (.ref f) [v, u]) Q σ := by
    rintro h c A σ v u a b t t' Q rfl hd rfl rfl hq
    refine hf.go T.lim hd shHD (vals' := [.int a t, .int b t']) rfl (fun _ _ _ => by with_unfolding_all rfl) fun c' h1 h2 => ?_
    rw [← h2] at T
    exact hd_num T h1 fun vv t => hq t
  intro h
  induction h with
  | zero =>
    rintro c A σ v u T' U Q hc hh hu hd ⟨a, t, rfl, rfl, _⟩ ⟨b, t', rfl, rfl, _⟩ hq
    exact numnum 0 c A σ _ _ a b t t' Q hc (by lia) rfl rfl hq
  | succ h ih =>
    rintro c A σ v u T' U Q hc hh hu hd hv hw hq
    rcases hv with ⟨a, t, rfl, rfl, _⟩ | ⟨a, vs, xs, rfl, ea, rfl, la, qa⟩
    · rcases hw with ⟨b, t', rfl, rfl, _⟩ | ⟨b, us, ys, rfl, eb, rfl, lb, qb⟩
      · exact numnum 0 c A σ _ _ a b t t' Q hc (by lia) rfl rfl hq
      · subst hc
        refine hf.go T.lim (by lia) shHD (vals' := [.int a t, .ref b]) rfl (fun _ _ _ => by with_unfolding_all rfl) fun c' h1 h2 => ?_
        rw [← h2] at T
        exact hd_nl T h1 eb fun vv t => hq t
    · subst hc
      refine hf.go T.lim (by lia) shHD (vals' := [.ref a, u]) rfl (fun _ _ _ => by with_unfolding_all rfl) fun c' h1 h2 => ?_
      rw [← h2] at T hf ih
      refine hd_list T h1 ea ?_
      rcases hw with ⟨b, t', rfl, rfl, _⟩ | ⟨b, us, ys, rfl, eb, rfl, lb, qb⟩
      · exact .inl ⟨b, t', rfl, fun vv t => hq t⟩
      · refine .inr ⟨b, us, rfl, eb, ?_⟩
        exact hd_ll T h1 hf ih hh (by show A.units + 3 + 4 * h + 10 < cLine; lia) (by show A.depth + 1 + h + 2 < recursionLimit; lia) ea eb qa qb la lb fun vv t => hq t
end
end
section
open PySem PySem.W PyProof.Rows
section
section
variable {prog : Program} {w : World} {c : Cf} {A : Around} {σ : St}
theorem WP.modI {a b : Int} {t u : Tok} {Q : Value → St → Prop} (hb : 0 < b) (h : ∀ t, Q (.int (a % b) t) σ) : WP prog w c A (binaryOp .Mod (.int a t) (.int b u)) Q σ := fun s hs => by
  refine AutoIntOps.mod_1 (by simp; lia) ?_
  rw [Int.fmod_eq_emod_of_nonneg _ (by lia)]
  exact ⟨σ, hs.tok _, h _⟩
theorem WP.fdivI {a b : Int} {t u : Tok} {Q : Value → St → Prop} (hb : 0 < b) (hb2 : b < 1000) (h : ∀ t, Q (.int (a / b) t) σ) : WP prog w c A (binaryOp .FloorDiv (.int a t) (.int b u)) Q σ := fun s hs => by
  refine AutoIntOps.floordiv_1 (by simp; lia) (by rw [PyProof.noPylong_small (by lia)]; decide) ?_
  rw [Int.fdiv_eq_ediv_of_nonneg _ (by lia)]
  exact ⟨σ, hs.tok _, h _⟩
theorem rep_fold (x : Value) : ∀ (n : Nat) (acc : Array Value), List.foldl (fun x1 x2 => x1 ++ x2) acc (List.replicate n ([x] : List Value).toArray) = acc ++ (List.replicate n x).toArray
  | 0, acc => by simp
  | n + 1, acc => by
    rw [List.replicate_succ, List.foldl_cons, rep_fold x n, Array.append_assoc]
    congr 1
    apply Array.ext'
    simp [List.replicate_succ]
theorem mul27_fold (x : Value) : List.foldl (fun x1 x2 => x1 ++ x2) #[] (List.replicate (if ([x] : List Value).toArray.isEmpty = true then 0 else (27 : Int).toNat) ([x] : List Value).toArray) = (List.replicate 27 x).toArray := by
  rw [if_neg (by simp), rep_fold]
  exact Array.empty_append
set_option maxHeartbeats 1000000 in
theorem WP.mul27 {l : Addr} {x : Value} {u : Tok} {Q : Value → St → Prop} (hl : σ.D l = some (.list [x])) (h : ∀ a, New c σ a → Q (.ref a) (σ.put a (.list (List.replicate 27 x)))) : WP prog w c A (binaryOp .Mult (.ref l) (.int 27 u)) Q σ := fun s hs => by
  obtain ⟨k, e⟩ := hs.plain hl
  have c1 : ¬ (([x] : List Value).toArray.size * (27 : Int).toNat > (2 ^ 63 - 1) / 8) := by show ¬ (1 * 27 > (2 ^ 63 - 1) / 8); decide
  have c2 : ¬ Builtin.List.listTooLong (([x] : List Value).toArray.size * (27 : Int).toNat) = true := by show ¬ Builtin.List.listTooLong (1 * 27) = true; decide +kernel
  refine wpAny_binaryOp_repeat_ref (T := "list") (U := "int") (by decide) ⟨_, e, rfl⟩ (fun s' => typeIs_int s' 27 u) noFill_list_mul PySem.F.fills_int_mul PySem.F.slot_int_rmul repeat_list PySem.F.slot_int_index.lookup
    (call_meets PySem.F.slot_int_rmul (typeIs_int s 27 u) PySem.F.entry_int_rmul (PySem.F.args_int_rmul_2 _ _) (int___rmul___int_list 27 u l _ k) ⟨e, rfl, ⟨_, e, rfl⟩, ?_⟩)
  refine call_meets PySem.F.slot_list_mul ⟨_, e, rfl⟩ PySem.F.entry_list_mul (PySem.F.args_list_mul_2 _ _) (AutoListH.list___mul___list_int_3 l _ k 27 u (by decide) c1 c2) ⟨e, ?_⟩
  rw [mul27_fold]
  exact ⟨_, hs.push (x := .list (List.replicate 27 x)) _ ⟨0, rfl⟩ rfl, h _ hs.new⟩
end
/-! ## the stack of open lists -/
noncomputable def Opn (C D : Addr → Option AO) (h m : Nat) (r : Addr) : Prop := ∃ ws Ts, D r = some (.list ws) ∧ All2 (Thing C h) ws Ts ∧ ws.length ≤ 6 + m
noncomputable def Rst (C D : Addr → Option AO) (m : Nat) : Addr → List Addr → Prop
  | _, [] => True
  | ch, p :: ps => (∃ ws Ts, D p = some (.list (ws ++ [.ref ch])) ∧ All2 (Thing C (3 - ps.length)) ws Ts ∧ ws.length + 1 ≤ 6 + m) ∧ Rst C D m p ps
theorem Rst.frame {C D D' : Addr → Option AO} {m m' : Nat} (hm : m ≤ m') : ∀ {ps : List Addr} {ch : Addr}, (∀ p ∈ ps, D' p = D p) → Rst C D m ch ps → Rst C D' m' ch ps
  | [], _, _, _ => trivial
  | p :: ps, ch, hf, ⟨⟨ws, Ts, e, q, l⟩, r⟩ => ⟨⟨ws, Ts, (hf p (.head _)).trans e, q, by lia⟩, Rst.frame hm (fun p hp => hf p (.tail _ hp)) r⟩
theorem Rst.mono {C C' D : Addr → Option AO} {m : Nat} (hc : ∀ a x, C a = some x → C' a = some x) : ∀ {ps : List Addr} {ch : Addr}, Rst C D m ch ps → Rst C' D m ch ps
  | [], _, _ => trivial
  | p :: ps, ch, ⟨⟨ws, Ts, e, q, l⟩, r⟩ => ⟨⟨ws, Ts, e, q.imp fun _ _ t => t.mono hc, l⟩, Rst.mono hc r⟩
theorem pop_ok {C D : Addr → Option AO} {m : Nat} {r p : Addr} {ps : List Addr} (hC : ∀ a x, C a = some x → D a = some x) (hlen : ps.length < 3) (hm : 6 + m ≤ 28) (hr : C r = none)
    (ho : Opn C D (3 - (ps.length + 1)) m r) (hs : Rst C D m r (p :: ps)) :
    ∃ C', (∀ a x, C a = some x → C' a = some x) ∧ (∀ a x, C' a = some x → D a = some x) ∧ (∀ a, a ≠ r → C' a = C a) ∧ Opn C' D (3 - ps.length) m p ∧ Rst C' D m p ps := by
  obtain ⟨ws, Ts, e, q, l⟩ := ho
  obtain ⟨⟨ws', Ts', e', q', l'⟩, rr⟩ := hs
  have h1 : ∀ a x, C a = some x → upd C r (.list ws) a = some x := upd_le hr
  refine ⟨upd C r (.list ws), h1, fun a x ex => ?_, fun a ha => upd_ne ha, ⟨ws' ++ [.ref r], Ts' ++ [.l Ts], e', ?_, by simp; lia⟩, rr.mono h1⟩
  · by_cases ha : a = r
    · rw [ha, upd_self] at ex; cases ex; rw [ha]; exact e
    · rw [upd_ne ha] at ex; exact hC a x ex
  · refine (q'.imp fun _ _ t => t.mono h1).snoc ?_
    have hh : 3 - ps.length = (3 - (ps.length + 1)) + 1 := by lia
    rw [hh]
    exact .inr ⟨r, ws, Ts, rfl, upd_self, rfl, by lia, q.imp fun _ _ t => t.mono h1⟩
theorem collapse {D : Addr → Option AO} {m : Nat} (hm : 6 + m ≤ 28) : ∀ {ps : List Addr} {C : Addr → Option AO} {r r0 : Addr}, ps.length ≤ 3 → (∀ a x, C a = some x → D a = some x) → (r :: ps).Nodup → (∀ p ∈ r :: ps, C p = none) → Opn C D (3 - ps.length) m r → Rst C D m r ps → (r :: ps).getLast? = some r0 →
    ∃ ws Ts, D r0 = some (.list ws) ∧ All2 (Thing D 3) ws Ts ∧ ws.length ≤ 6 + m
  | [], C, r, r0, _, hC, _, _, ⟨ws, Ts, e, q, l⟩, _, h0 => by
    simp at h0; subst h0
    exact ⟨ws, Ts, e, q.imp fun _ _ t => t.mono hC, l⟩
  | p :: ps, C, r, r0, hl, hC, hn, hno, ho, hs, h0 => by
    obtain ⟨C', h1, h2, h3, h4, h5⟩ := pop_ok hC (by simp at hl; lia) hm (hno r (.head _)) ho hs
    have hn' := List.nodup_cons.mp hn
    exact collapse hm (by simp at hl; lia) h2 hn'.2 (fun q hq => by rw [h3 q fun e => hn'.1 (e ▸ hq)]; exact hno q (.tail _ hq)) h4 h5 (by simpa using h0)
theorem Thing.put {D : Addr → Option AO} {h : Nat} {v : Value} {T : Tr} {a : Addr} {x : AO} (t : Thing D h v T) (hn : D a = none) : Thing (upd D a x) h v T := t.mono (upd_le hn)
end
end
section
open PySem PySem.W PyProof.Rows
section
@[reducible] noncomputable def nmLT : List Str := ["numbers", "things", "still", "x"]
/-- the loop of _law_things -/
theorem lt_loop {w : World} {c : Cf} {A : Around} {num r0 sA : Addr} {vs : List Value} {C D : Addr → Option AO} {Ts : List Tr} {ws : List Value} {Q : Flow → St → Prop} (hlen : GNm c.hb "len" (.builtin "len")) (hsc : c.env.scope = scopeAt 15)
   (hh : A.handled = none) (hv : ∀ v ∈ vs, ∃ i t, v = .int i t) (hl : vs.length ≤ 10) (hC : ∀ a x, C a = some x → D a = some x) (nr : C r0 = none) (ns : C sA = none) (hnum : C num = some (.list vs)) (rs : r0 ≠ sA)
   (h0 : D r0 = some (.list ws)) (hT : All2 (Thing C 3) ws Ts) (hw : ws.length ≤ 6) (hs : D sA = some (.list [.ref r0]))
   (h : ∀ vv D' ws Ts, (∀ a x, C a = some x → D' a = some x) → D' r0 = some (.list ws) → All2 (Thing D' 3) ws Ts → ws.length ≤ 16 → Q (.ret (.ref r0)) ⟨vv, D'⟩) :
   WP prg w (c.nm nmLT) A (execs ((bodyAt 15).drop 2) c.env) Q ⟨[some (.ref num), some (.ref r0), some (.ref sA), none], D⟩ := by
  refine WP.execs_cons ?_
  walk_at "go"
  refine WP.iterList (hC _ _ hnum) fun it hit => ?_
  have nit : C it = none := hit.off hC
  have s_i : sA ≠ it := hit.ne hs
  have r_i : r0 ≠ it := hit.ne h0
  let I : Nat → St → Prop := fun r σ => ∃ m C' D' t ps xv, σ = ⟨[some (.ref num), some (.ref r0), some (.ref sA), xv], D'⟩ ∧ m + r = vs.length ∧ (∀ a x, C a = some x → C' a = some x) ∧ (∀ a x, C' a = some x → D' a = some x) ∧
    D' sA = some (.list (ps.reverse.map Value.ref ++ [.ref t])) ∧ D' it = some (.lit num m) ∧ (t :: ps).Nodup ∧ (∀ p ∈ t :: ps, C' p = none) ∧ C' sA = none ∧ C' it = none ∧ sA ∉ t :: ps ∧ ps.length ≤ 3 ∧
    Opn C' D' (3 - ps.length) m t ∧ Rst C' D' m t ps ∧ (t :: ps).getLast? = some r0
  refine WC.forLoop I ?turn vs.length
    ⟨0, C, _, r0, [], none, rfl, by lia, fun _ _ e => e, le_put hC nit, (upd_ne s_i).trans hs, upd_self, by simp, fun p hp => by rw [List.mem_singleton.mp hp]; exact nr, ns, nit, by simp; exact rs.symm, by simp, ⟨ws, Ts, (upd_ne r_i).trans h0, hT, by lia⟩, trivial, rfl⟩
  rintro r σ ⟨m, C', D', t, ps, xv, rfl, hm, hCC, hCD, hs', hi', hnd, hno, ns', ni', hsn, hpl, ho, hr, hlast⟩
  have hnum' := hCD _ _ (hCC _ _ hnum)
  have t_s : t ≠ sA := fun e => hsn (e ▸ .head _)
  have i_n : ∀ p ∈ t :: ps, p ≠ it := by
    intro p hp e
    rw [e] at hp
    rcases List.mem_cons.mp hp with q | q
    · obtain ⟨ws1, Ts1, e1, _⟩ := ho; rw [← q, hi'] at e1; cases e1
    · have : ∀ {ps : List Addr} {ch : Addr}, Rst C' D' m ch ps → it ∈ ps → False := by
        intro ps
        induction ps with
        | nil => intro ch _ h; cases h
        | cons p ps ih =>
          rintro ch ⟨⟨ws1, Ts1, e1, _⟩, rr⟩ hm
          rcases List.mem_cons.mp hm with q | q
          · rw [← q, hi'] at e1; cases e1
          · exact ih rr q
      exact this hr q
  cases r with
  | zero =>
    refine WP.nextListEnd hh hi' hnum' (by lia) ?_
    dsimp only
    walk_at "go"
    have hd : ∀ a, a ≠ it → del D' it a = D' a := fun a ha => del_ne ha
    have hCD2 : ∀ a x, C' a = some x → del D' it a = some x := fun a x e => (del_ne fun q => by rw [q, ni'] at e; cases e).trans (hCD a x e)
    obtain ⟨ws1, Ts1, e1, q1, l1⟩ := ho
    obtain ⟨wf, Tf, ef, qf, lf⟩ := collapse (D := del D' it) (m := m) (by lia) hpl hCD2 hnd hno ⟨ws1, Ts1, (hd _ (i_n _ (.head _))).trans e1, q1, l1⟩ (hr.frame (Nat.le_refl _) fun p hp => hd p (i_n p (.tail _ hp))) hlast
    exact h _ _ wf Tf (fun a x e => hCD2 a x (hCC a x e)) ef qf (by lia)
  | succ r =>
    have hml : m < vs.length := by lia
    have hx : vs[m]? = some vs[m] := List.getElem?_eq_getElem hml
    obtain ⟨i, ti, hxi⟩ := hv _ (List.getElem_mem hml)
    rw [hxi] at hx
    refine WP.nextList hi' hnum' hx ?_
    -- the state behind the iterator's step
    have hCD1 : ∀ a x, C' a = some x → upd D' it (.lit num (m + 1)) a = some x := le_put hCD ni'
    have hs1 : upd D' it (.lit num (m + 1)) sA = some (.list (ps.reverse.map Value.ref ++ [.ref t])) := (upd_ne s_i).trans hs'
    have hi1 : upd D' it (.lit num (m + 1)) it = some (.lit num (m + 1)) := upd_self
    have ho1 : Opn C' (upd D' it (.lit num (m + 1))) (3 - ps.length) m t := by
      obtain ⟨ws1, Ts1, e1, q1, l1⟩ := ho
      exact ⟨ws1, Ts1, (upd_ne (i_n _ (.head _))).trans e1, q1, l1⟩
    have hr1 : Rst C' (upd D' it (.lit num (m + 1))) m t ps := hr.frame (Nat.le_refl _) fun p hp => upd_ne (i_n p (.tail _ hp))
    dsimp only [St.put]
    generalize upd D' it (.lit num (m + 1)) = D1 at hCD1 hs1 hi1 ho1 hr1 ⊢
    clear hs' hi' ho hr hCD
    obtain ⟨wt, Tt, et, qt, lt⟩ := ho1
    have hnd' := List.nodup_cons.mp hnd
    have nt : C' t = none := hno t (.head _)
    walk_at "go"
    refine WP.modI (by decide) fun _ => ?_
    walk_at "go"
    by_cases hc1 : i % 4 < 2
    · rw [if_pos (by simpa using hc1)]
      walk_at "go"
      refine WP.method PySem.F.slot_list_append PySem.F.type_list_append ?_
      walk_at "go"
      refine WP.usub ?_
      walk_at "go"
      refine ⟨_, _, rfl, fun _ => ?_⟩
      refine WP.itemLast hs1 ?_ (by simp; lia)
      refine ⟨t, wt, rfl, et, ?_⟩
      walk_at "go"
      refine WP.fdivI (by decide) (by decide) fun _ => ?_
      walk_at "go"
      refine WP.modI (by decide) fun td => ?_
      walk_at "go"
      refine EvL.nil ?_
      refine WP.append et (by lia) ?_
      walk_at "go"
      have hd : i / 4 % 10 = ((i / 4 % 10).toNat : Int) := by lia
      have hCD2 : ∀ a x, C' a = some x → upd D1 t (.list (wt ++ [.int (i / 4 % 10) td])) a = some x := le_put hCD1 nt
      refine ⟨r, by lia, m + 1, C', _, t, ps, _, rfl, by lia, hCC, hCD2, (upd_ne t_s.symm).trans hs1, (upd_ne (i_n t (.head _)).symm).trans hi1, hnd, hno, ns', ni', hsn, hpl, ⟨_, Tt ++ [.n (i / 4 % 10).toNat], upd_self, qt.snoc ?_, by simp; lia⟩, hr1.frame (by lia) fun p hp => upd_ne fun e => hnd'.1 (e ▸ hp), hlast⟩
      rw [hd]
      exact Thing.num (by lia)
    rw [if_neg (by simpa using hc1)]
    refine WP.execs_cons ?_
    refine WP.ifs ?_
    refine WP.mono (Q := fun b σ' => b = decide (i % 4 = 2 ∧ ps.length + 1 < 4) ∧ σ' = ⟨[some (.ref num), some (.ref r0), some (.ref sA), some (.int i ti)], D1⟩) ?_ ?_
    · walk_at "go"
      refine WP.modI (by decide) fun _ => ?_
      walk_at "go"
      by_cases hc2 : i % 4 = 2
      · rw [if_pos (by simpa using hc2)]
        walk_at "go"
        refine WP.gname hlen (by show c.env.scope.names.lookup _ = _; rw [hsc]; rfl) (by decide) ?_
        walk_at "go"
        refine WP.len hs1 (by simp; lia) fun _ => ?_
        walk_at "go"
        refine ⟨?_, rfl⟩
        apply decide_eq_decide.mpr
        simp [hc2]
        lia
      · rw [if_neg (by simpa using hc2)]
        refine ⟨?_, rfl⟩
        simp [hc2]
    rintro b σ' ⟨rfl, rfl⟩
    by_cases hc2 : i % 4 = 2 ∧ ps.length + 1 < 4
    · rw [if_pos (by simpa using hc2)]
      walk_at "go"
      refine WP.method PySem.F.slot_list_append PySem.F.type_list_append ?_
      walk_at "go"
      refine WP.usub ?_
      walk_at "go"
      refine ⟨_, _, rfl, fun _ => ?_⟩
      refine WP.itemLast hs1 ?_ (by simp; lia)
      refine ⟨t, wt, rfl, et, ?_⟩
      walk_at "go"
      intro nw hnw
      walk_at "go"
      try refine EvL.nil ?_
      have t_n : t ≠ nw := hnw.ne et
      have s_n : sA ≠ nw := hnw.ne hs1
      have i_w : it ≠ nw := hnw.ne hi1
      have nnw : C' nw = none := hnw.off hCD1
      refine WP.append (vs := wt) ((upd_ne t_n).trans et) (by lia) ?_
      dsimp only [St.put]
      have hs2 : upd (upd D1 nw (.list [])) t (.list (wt ++ [.ref nw])) sA = some (.list (ps.reverse.map Value.ref ++ [.ref t])) := by rw [upd_ne t_s.symm, upd_ne s_n, hs1]
      have et2 : upd (upd D1 nw (.list [])) t (.list (wt ++ [.ref nw])) t = some (.list (wt ++ [.ref nw])) := upd_self
      walk_at "go"
      refine WP.method PySem.F.slot_list_append PySem.F.type_list_append ?_
      walk_at "go"
      refine ⟨sA, _, rfl, hs2, ?_⟩
      walk_at "go"
      refine WP.usub ?_
      walk_at "go"
      refine ⟨_, _, rfl, fun _ => ?_⟩
      refine WP.itemLast hs2 ?_ (by simp; lia)
      walk_at "go"
      refine WP.usub ?_
      walk_at "go"
      refine ⟨_, _, rfl, fun _ => ?_⟩
      refine WP.itemLast et2 ?_ (by lia)
      walk_at "go"
      try refine EvL.nil ?_
      refine WP.append hs2 (by simp; lia) ?_
      dsimp only [St.put]
      walk_at "go"
      have w_n : ∀ p ∈ ps, p ≠ nw := by
        intro p hp e
        have : ∀ {ps : List Addr} {ch : Addr}, Rst C' D1 m ch ps → nw ∈ ps → False := by
          intro ps
          induction ps with
          | nil => intro ch _ h; cases h
          | cons p ps ih =>
            rintro ch ⟨⟨ws1, Ts1, e1, _⟩, rr⟩ hm
            rcases List.mem_cons.mp hm with q | q
            · rw [← q, show D1 nw = none from hnw.d] at e1; cases e1
            · exact ih rr q
        exact this hr1 (e ▸ hp)
      refine ⟨r, by lia, m + 1, C', _, nw, t :: ps, _, rfl, by lia, hCC, ?_, ?_, ?_, ?_, ?_, ns', ni', ?_, by simp; lia, ?_, ?_, ?_⟩
      · exact le_put (le_put (le_put hCD1 nnw) nt) ns'
      · rw [upd_self]; simp
      · rw [upd_ne s_i.symm, upd_ne (i_n t (.head _)).symm, upd_ne i_w, hi1]
      · refine List.nodup_cons.mpr ⟨fun hm => ?_, hnd⟩
        rcases List.mem_cons.mp hm with q | q
        · exact t_n q.symm
        · exact w_n _ q rfl
      · intro p hp
        rcases List.mem_cons.mp hp with q | q
        · rw [q]; exact nnw
        · exact hno p q
      · intro hm
        rcases List.mem_cons.mp hm with q | q
        · exact s_n q
        · exact hsn q
      · refine ⟨[], [], ?_, trivial, by simp⟩
        rw [upd_ne s_n.symm, upd_ne t_n.symm, upd_self]
      · refine ⟨⟨wt, Tt, ?_, ?_, by lia⟩, hr1.frame (by lia) fun p hp => ?_⟩
        · rw [upd_ne t_s, upd_self]
        · exact qt
        · rw [upd_ne (show p ≠ sA from fun e => hsn (e ▸ .tail _ hp)), upd_ne (show p ≠ t from fun e => hnd'.1 (e ▸ hp)), upd_ne (w_n p hp)]
      · simpa using hlast
    rw [if_neg (by simpa using hc2)]
    walk_at "go"
    refine WP.gname hlen (by show c.env.scope.names.lookup _ = _; rw [hsc]; rfl) (by decide) ?_
    walk_at "go"
    refine WP.len hs1 (by simp; lia) fun _ => ?_
    walk_at "go"
    cases ps with
    | nil =>
      rw [if_neg (by simp)]
      walk_at "go"
      exact ⟨r, by lia, m + 1, C', _, t, [], _, rfl, by lia, hCC, hCD1, hs1, hi1, hnd, hno, ns', ni', hsn, hpl, ⟨wt, Tt, et, qt, by lia⟩, trivial, hlast⟩
    | cons p ps =>
      rw [if_pos (by simp; lia)]
      walk_at "go"
      refine WP.method PySem.F.slot_list_pop PySem.F.type_list_pop ?_
      walk_at "go"
      refine ⟨sA, _, rfl, hs1, EvL.nil (EvL.nil ?_)⟩
      refine WP.pop hs1 (by simp; simp at hpl; lia) ?_
      walk_at "go"
      have hplen : ps.length < 3 := by simp at hpl; lia
      obtain ⟨C2, k1, k2, k3, k4, k5⟩ := pop_ok hCD1 hplen (by lia) nt ⟨wt, Tt, et, qt, lt⟩ hr1
      have p_s : ∀ q ∈ p :: ps, q ≠ sA := fun q hq e => hsn (e ▸ .tail _ hq)
      refine ⟨r, by lia, m + 1, C2, _, p, ps, _, rfl, by lia, fun a x e => k1 a x (hCC a x e), ?_, ?_, ?_, hnd'.2, ?_, ?_, ?_, fun hq => hsn (.tail _ hq), by lia, ?_, ?_, ?_⟩
      · exact le_put k2 (by rw [k3 _ t_s.symm]; exact ns')
      · rw [upd_self]; simp
      · rw [upd_ne s_i.symm, hi1]
      · intro q hq
        rw [k3 q fun e => hnd'.1 (e ▸ hq)]
        exact hno q (.tail _ hq)
      · rw [k3 _ t_s.symm]; exact ns'
      · rw [k3 _ (i_n t (.head _)).symm]; exact ni'
      · obtain ⟨w2, T2, e2, q2, l2⟩ := k4
        exact ⟨w2, T2, (upd_ne (p_s p (.head _))).trans e2, q2, by lia⟩
      · exact k5.frame (by lia) fun q hq => upd_ne (p_s q (.tail _ hq))
      · simpa using hlast
end
end
section
open PySem PySem.W PyProof.Rows
section
theorem rep_all {D : Addr → Option AO} {h : Nat} {t : Tok} : ∀ n, All2 (Thing D h) (List.replicate n (Value.int 0 t)) (List.replicate n (Tr.n 0))
  | 0 => trivial
  | n + 1 => ⟨Thing.num (d := 0) (by decide), rep_all n⟩
theorem rep_list {D : Addr → Option AO} {a : Addr} {t u : Tok} {d : Nat} (hd : d ≤ 9) (h : D a = some (.list (List.replicate 27 (Value.int 0 t) ++ [.int (d : Int) u]))) : Thing D 3 (.ref a) (.l (List.replicate 27 (Tr.n 0) ++ [.n d])) :=
  .inr ⟨a, _, _, rfl, h, rfl, by simp, (rep_all (h := 2) 27).snoc (Thing.num hd)⟩
set_option maxHeartbeats 4000000 in
theorem lt_body {w : World} {c : Cf} {A : Around} {num : Addr} {vs : List Value} {D : Addr → Option AO} {Q : Flow → St → Prop} (hlen : GNm c.hb "len" (.builtin "len")) (hsc : c.env.scope = scopeAt 15)
   (hh : A.handled = none) (hv : ∀ v ∈ vs, ∃ i t, v = .int i t) (hl : vs.length ≤ 10) (hnum : D num = some (.list vs))
   (h : ∀ vv r0 D' ws Ts, (∀ a x, D a = some x → D' a = some x) → D r0 = none → D' r0 = some (.list ws) → All2 (Thing D' 3) ws Ts → ws.length ≤ 16 → Q (.ret (.ref r0)) ⟨vv, D'⟩) :
   WP prg w (c.nm nmLT) A (execs (bodyAt 15) c.env) Q ⟨[some (.ref num), none, none, none], D⟩ := by
  refine WP.execs_cons ?_
  walk_at "go"
  rename_i k1
  intro a1 n1
  have n1d := n1.d
  have t1 : Thing (upd D a1 (.list [.int 3 k1])) 3 (.ref a1) (.l [.n 3]) := .inr ⟨a1, _, _, rfl, upd_self, rfl, by simp, Thing.num (d := 3) (by decide), trivial⟩
  have l1 : ∀ a x, D a = some x → upd D a1 (.list [.int 3 k1]) a = some x := upd_le n1d
  dsimp only [St.put]
  generalize upd D a1 (.list [.int 3 k1]) = D1 at t1 l1 ⊢
  walk_at "go"
  rename_i k2
  intro a2 n2
  have n2d := n2.d
  have t2 : Thing (upd D1 a2 (.list [])) 3 (.ref a2) (.l []) := .inr ⟨a2, _, _, rfl, upd_self, rfl, by simp, trivial⟩
  have l2 : ∀ a x, D a = some x → upd D1 a2 (.list []) a = some x := fun a x e => upd_le n2d _ _ (l1 a x e)
  replace t1 := t1.put (x := .list []) n2d
  dsimp only [St.put] at t1 ⊢
  generalize upd D1 a2 (.list []) = D2 at t1 t2 l2 ⊢
  walk_at "go"
  rename_i k3 k4
  intro a3 n3
  have n3d := n3.d
  have t3 : Thing (upd D2 a3 (.list [.int 1 k4])) 2 (.ref a3) (.l [.n 1]) := .inr ⟨a3, _, _, rfl, upd_self, rfl, by simp, Thing.num (d := 1) (by decide), trivial⟩
  have l3 : ∀ a x, D a = some x → upd D2 a3 (.list [.int 1 k4]) a = some x := fun a x e => upd_le n3d _ _ (l2 a x e)
  replace t1 := t1.put (x := .list [.int 1 k4]) n3d
  replace t2 := t2.put (x := .list [.int 1 k4]) n3d
  dsimp only [St.put] at t1 t2 ⊢
  generalize upd D2 a3 (.list [.int 1 k4]) = D3 at t1 t2 t3 l3 ⊢
  walk_at "go"
  intro a4 n4
  have n4d := n4.d
  have l4 : ∀ a x, D a = some x → upd D3 a4 (.list [.int 3 k3, .ref a3]) a = some x := fun a x e => upd_le n4d _ _ (l3 a x e)
  replace t3 := t3.put (x := .list [.int 3 k3, .ref a3]) n4d
  have t4 : Thing (upd D3 a4 (.list [.int 3 k3, .ref a3])) 3 (.ref a4) (.l [.n 3, .l [.n 1]]) := .inr ⟨a4, _, _, rfl, upd_self, rfl, by simp, Thing.num (d := 3) (by decide), t3, trivial⟩
  replace t1 := t1.put (x := .list [.int 3 k3, .ref a3]) n4d
  replace t2 := t2.put (x := .list [.int 3 k3, .ref a3]) n4d
  dsimp only [St.put] at t1 t2 ⊢
  generalize upd D3 a4 (.list [.int 3 k3, .ref a3]) = D4 at t1 t2 t4 l4 ⊢
  clear t3
  walk_at "go"
  rename_i k5
  intro a5 n5
  walk_at "go"
  refine WP.mul27 upd_self fun a6 n6 => ?_
  walk_at "go"
  rename_i k6 k7
  intro a7 n7
  have q67 : a6 ≠ a7 := n7.ne upd_self
  refine WP.addL (vs := List.replicate 27 (.int 0 k5)) (ws := [.int 2 k7]) ((upd_ne q67).trans upd_self) upd_self (by simp) fun a8 n8 => ?_
  have t5 : Thing (upd (upd (upd (upd D4 a5 (.list [.int 0 k5])) a6 (.list (List.replicate 27 (.int 0 k5)))) a7 (.list [.int 2 k7])) a8 (.list (List.replicate 27 (.int 0 k5) ++ [.int 2 k7]))) 3 (.ref a8) (.l (List.replicate 27 (Tr.n 0) ++ [.n 2])) := rep_list (d := 2) (by decide) upd_self
  have p5 : ∀ a x, D4 a = some x → upd (upd (upd (upd D4 a5 (.list [.int 0 k5])) a6 (.list (List.replicate 27 (.int 0 k5)))) a7 (.list [.int 2 k7])) a8 (.list (List.replicate 27 (.int 0 k5) ++ [.int 2 k7])) a = some x := fun a x e => upd_le n8.d _ _ (upd_le n7.d _ _ (upd_le n6.d _ _ (upd_le n5.d _ _ e)))
  replace t1 := t1.mono p5
  replace t2 := t2.mono p5
  replace t4 := t4.mono p5
  have l5 : ∀ a x, D a = some x → _ := fun a x e => p5 a x (l4 a x e)
  dsimp only [St.put]
  generalize upd (upd (upd (upd D4 a5 (.list [.int 0 k5])) a6 (.list (List.replicate 27 (.int 0 k5)))) a7 (.list [.int 2 k7])) a8 (.list (List.replicate 27 (.int 0 k5) ++ [.int 2 k7])) = D5 at t1 t2 t4 t5 l5 ⊢
  clear p5 n5 n6 n7 n8
  walk_at "go"
  rename_i k8
  intro b5 n5
  walk_at "go"
  refine WP.mul27 upd_self fun b6 n6 => ?_
  walk_at "go"
  rename_i k9 k10
  intro b7 n7
  have q67' : b6 ≠ b7 := n7.ne upd_self
  refine WP.addL (vs := List.replicate 27 (.int 0 k8)) (ws := [.int 1 k10]) ((upd_ne q67').trans upd_self) upd_self (by simp) fun b8 n8 => ?_
  have t6 : Thing (upd (upd (upd (upd D5 b5 (.list [.int 0 k8])) b6 (.list (List.replicate 27 (.int 0 k8)))) b7 (.list [.int 1 k10])) b8 (.list (List.replicate 27 (.int 0 k8) ++ [.int 1 k10]))) 3 (.ref b8) (.l (List.replicate 27 (Tr.n 0) ++ [.n 1])) := rep_list (d := 1) (by decide) upd_self
  have p6 : ∀ a x, D5 a = some x → upd (upd (upd (upd D5 b5 (.list [.int 0 k8])) b6 (.list (List.replicate 27 (.int 0 k8)))) b7 (.list [.int 1 k10])) b8 (.list (List.replicate 27 (.int 0 k8) ++ [.int 1 k10])) a = some x := fun a x e => upd_le n8.d _ _ (upd_le n7.d _ _ (upd_le n6.d _ _ (upd_le n5.d _ _ e)))
  replace t1 := t1.mono p6
  replace t2 := t2.mono p6
  replace t4 := t4.mono p6
  replace t5 := t5.mono p6
  have l6 : ∀ a x, D a = some x → _ := fun a x e => p6 a x (l5 a x e)
  dsimp only [St.put]
  generalize upd (upd (upd (upd D5 b5 (.list [.int 0 k8])) b6 (.list (List.replicate 27 (.int 0 k8)))) b7 (.list [.int 1 k10])) b8 (.list (List.replicate 27 (.int 0 k8) ++ [.int 1 k10])) = C at t1 t2 t4 t5 t6 l6 ⊢
  clear p6 n5 n6 n7 n8
  walk_at "go"
  intro r0 nr
  walk_at "go"
  intro sA ns
  dsimp only [St.put]
  have nr0 : C r0 = none := nr.d
  have r_s : r0 ≠ sA := ns.ne upd_self
  have ns0 : C sA = none := ns.off (upd_le nr0)
  refine lt_loop (C := C) (Ts := [.l [.n 3], .n 3, .l [], .l [.n 3, .l [.n 1]], .l (List.replicate 27 (Tr.n 0) ++ [.n 2]), .l (List.replicate 27 (Tr.n 0) ++ [.n 1])]) hlen hsc hh hv hl (le_put (upd_le nr0) ns0) nr0 ns0 (l6 _ _ hnum) r_s ((upd_ne r_s).trans upd_self)
    ⟨t1, Thing.num (d := 3) (by decide), t2, t4, t5, t6, trivial⟩ (by simp) upd_self fun vv D' ws Ts hC e q l => ?_
  refine h vv r0 D' ws Ts (fun a x e => hC a x (l6 a x e)) ?_ e q l
  cases q0 : D r0 with
  | none => rfl
  | some x => rw [l6 _ _ q0] at nr0; cases nr0
set_option maxHeartbeats 4000000 in
theorem shLT : Shape 15 ["numbers"] ["things", "still", "x"] := ⟨by decide +kernel, by decide +kernel, by decide +kernel, by decide +kernel, rfl, rfl, rfl⟩
end
end
section
open PySem PySem.W PyProof.Rows
section
theorem lt_call {w : World} {c : Cf} {A : Around} {σ : St} {f num : Addr} {vs : List Value} {Q : Value → St → Prop} (hlim : c.hb.NoLimit) (hlen : GNm c.hb "len" (.builtin "len")) (hf : FnOk c.hb 15 "_law_things" f .none)
   (hh : A.handled = none) (hd : A.depth < recursionLimit) (hv : ∀ v ∈ vs, ∃ i t, v = .int i t) (hl : vs.length ≤ 10) (hnum : σ.D num = some (.list vs))
   (h : ∀ r0 D' ws Ts, (∀ a x, σ.D a = some x → D' a = some x) → σ.D r0 = none → D' r0 = some (.list ws) → All2 (Thing D' 3) ws Ts → ws.length ≤ 16 → Q (.ref r0) ⟨σ.v, D'⟩) :
   WP prg w c A (call (.ref f) [.ref num]) Q σ := by
  refine hf.go hlim hd shLT (vals' := [.ref num]) rfl (fun _ _ _ => by with_unfolding_all rfl) fun c' h1 h2 => ?_
  rw [← h2] at hlen
  exact @lt_body w c' (A.deeper c'.env) num vs σ.D (fun fl σ' => Q (retv fl) ⟨σ.v, σ'.D⟩) hlen h1 hh hv hl hnum (fun vv r0 D' ws Ts a1 a2 a3 a4 a5 => h r0 D' ws Ts a1 a2 a3 a4 a5)
end
end
section
open PySem PyProof.Rows
section
/-- the place of x in the sorted S -/
theorem down_take {α : Type} {R : α → α → Prop} {p : α → Bool} (hd : ∀ y z, R y z → p z = true → p y = true) : ∀ {S : List α}, S.Pairwise R → (S.filter p).length ≤ S.length ∧ (∀ y ∈ S.take (S.filter p).length, p y = true) ∧ (∀ y ∈ S.drop (S.filter p).length, p y = false)
  | [], _ => ⟨Nat.le_refl _, fun y h => by simp at h, fun y h => by simp at h⟩
  | s :: S, h => by
    have h' := List.pairwise_cons.mp h
    obtain ⟨l, a, b⟩ := down_take hd h'.2
    cases q : p s with
    | true =>
      rw [List.filter_cons_of_pos q]
      refine ⟨by simp; lia, fun y hy => ?_, fun y hy => ?_⟩
      · rw [List.length_cons, List.take_succ_cons] at hy
        rcases List.mem_cons.mp hy with rfl | hy
        · exact q
        · exact a y hy
      · rw [List.length_cons, List.drop_succ_cons] at hy
        exact b y hy
    | false =>
      have none : S.filter p = [] := by
        rw [List.filter_eq_nil_iff]
        intro y hy hp
        rw [hd s y (h'.1 y hy) hp] at q; cases q
      rw [List.filter_cons_of_neg (by simp [q]), none]
      refine ⟨by simp, fun y hy => by simp at hy, fun y hy => ?_⟩
      rw [List.length_nil, List.drop_zero] at hy
      rcases List.mem_cons.mp hy with rfl | hy
      · exact q
      · cases hp : p y with
        | false => rfl
        | true => rw [hd s y (h'.1 y hy) hp] at q; cases q
theorem ins_ok {vs S : List Value} {kf : Value → Str} {b : Bool} {x : Value} (hs : S.Pairwise (RR vs kf b)) (hb : ∀ y ∈ S, bef vs y x) :
    (S.take (S.filter fun d => !klt b (kf x) (kf d)).length ++ [x] ++ S.drop (S.filter fun d => !klt b (kf x) (kf d)).length).Pairwise (RR vs kf b) ∧
    (S.take (S.filter fun d => !klt b (kf x) (kf d)).length ++ [x] ++ S.drop (S.filter fun d => !klt b (kf x) (kf d)).length).Perm (S ++ [x]) := by
  obtain ⟨l, h1, h2⟩ := down_take (p := fun d => !klt b (kf x) (kf d)) (R := RR vs kf b) (fun y z hyz hz => by
    simp only [Bool.not_eq_true'] at hz ⊢
    rw [RR_iff] at hyz
    rcases hyz with q | ⟨q, _⟩
    · exact klt_ntrans hz (klt_asymm q)
    · exact klt_ntrans hz q) hs
  generalize (S.filter fun d => !klt b (kf x) (kf d)).length = k at h1 h2
  have pw := hs
  rw [← List.take_append_drop k S] at pw
  obtain ⟨p1, p2, p3⟩ := List.pairwise_append.mp pw
  have A : ∀ y ∈ S.take k, RR vs kf b y x := fun y hy => RR_iff.mpr (.inr ⟨by simpa using h1 y hy, hb y (List.mem_of_mem_take hy)⟩)
  have B : ∀ y ∈ S.drop k, RR vs kf b x y := fun y hy => RR_iff.mpr (.inl (by simpa using h2 y hy))
  constructor
  · refine List.pairwise_append.mpr ⟨List.pairwise_append.mpr ⟨p1, by simp, fun y hy z hz => ?_⟩, p2, fun y hy z hz => ?_⟩
    · rw [List.mem_singleton.mp hz]; exact A y hy
    · rcases List.mem_append.mp hy with hy | hy
      · exact p3 y hy z hz
      · rw [List.mem_singleton.mp hy]; exact B z hz
  · rw [List.append_assoc]
    have : (S.take k ++ ([x] ++ S.drop k)).Perm (S.take k ++ (S.drop k ++ [x])) := List.Perm.append_left _ List.perm_append_comm
    refine this.trans ?_
    rw [← List.append_assoc, List.take_append_drop]
end
end
section
open PySem PySem.W PyProof.Rows
section
variable {prog : Program} {w : World} {c : Cf} {A : Around} {σ : St}
theorem WP.casgName {x : Str} {p : Pos} {a : Addr} {v₀ : Option Value} {v : Value} {Q : Unit → St → Prop} (hk : c.env.kindOf x = some .cell) (hc : c.env.cells.lookup x = some a) (hv : σ.D a = some (.cell v₀)) (h : Q () (σ.put a (.cell (some v)))) : WP prog w c A (PySem.assign (.Name x p) c.env v) Q σ := by
  rw [PySem.assign_Name]
  exact WP.bind (WP.stand (WP.cstore hk hc hv h))
/-- a slice of a list of the base -/
theorem WP.cutB {l a : Addr} {vs : List Value} {vl vu : Value} {lo hi : Option Int} {lx ux : Option Expr} {p : Pos} {v : Expr} {Q : Value → St → Prop} (hl : c.hb.IsList l vs.toArray) (ha : σ.D a = some (slcO vl vu)) (pl : IsPart vl lo) (pu : IsPart vu hi) (hz : vs.length ≤ 100000)
    (h : ∀ b, New c σ b → Q (.ref b) (σ.put b (.list (slicePick vs.toArray lo hi none).toList))) :
    WP prog w c A (subscriptTail v (.Slice lx ux none p) (.ref l) (.ref a)) Q σ := fun s hs => by
  have hl' : s.heap.IsList l vs.toArray := let ⟨o, e, r⟩ := hl; ⟨o, hs.hbk _ _ e, r⟩
  refine tail_any hl'.typeIs slot_list_getitem.lookup (wpAny_getItem_list_slice hl' ⟨_, hs.obj ha, rfl, rfl⟩ pl pu .none (by simp) ?_ (by rw [sizeLine_eq]; simp; lia)) (ops := [.ref a, .ref l]) rfl
  exact ⟨_, hs.push (x := .list (slicePick vs.toArray lo hi none).toList) _ ⟨0, by simp⟩ rfl, h _ hs.new⟩
theorem WP.sumB {l : Addr} {vs : List Value} {Q : Value → St → Prop} (hh : A.handled = none) (hl : c.hb.IsList l vs.toArray) (hv : ∀ v ∈ vs, ∃ i t, v = .int i t) (h : ∀ S t, Q (.int S t) σ) : WP prog w c A (call (.builtin "sum") [.ref l]) Q σ := fun s hs => by
  have hl' : s.heap.IsList l vs.toArray := let ⟨o, e, r⟩ := hl; ⟨o, hs.hbk _ _ e, r⟩
  have : ∃ xs : List (Int × Tok), vs = xs.map fun p => .int p.1 p.2 := by
    clear hl hl' h
    induction vs with
    | nil => exact ⟨[], rfl⟩
    | cons v vs ih =>
      obtain ⟨i, t, rfl⟩ := hv v (.head _)
      obtain ⟨xs, rfl⟩ := ih fun v hm => hv v (.tail _ hm)
      exact ⟨(i, t) :: xs, rfl⟩
  obtain ⟨xs, rfl⟩ := this
  have e : (xs.map fun p => Value.int p.1 p.2).toArray = intItems xs.toArray := by simp [intItems]
  rw [e] at hl'
  exact sum_intListG hh hl' fun h' tk t' hk => ⟨σ, (hs.grown hk).tok _, h _ _⟩
/-! ## lambdas -/
structure LamTop (hb : Heap) (cd P : Addr) (mg : Str → Option Value) : Prop where
  g : hb.Ns mainGlobals mg
  code : CodeHd hb cd P
  bi : hb.BuiltinsAt mg P
  ne : mainGlobals ≠ P
theorem Abs.reset {s : Shared} (hs : Abs c σ s) {P : Addr} {x y : AO} {o' : Obj} {h' : Heap} {tk : Nat} (ho : σ.D P = some x) (hx : Heap.ExtBut P s.heap h') (hg : h'.get? P = some o') (hr : Rep y o') : Abs c (σ.put P y) { s with heap := h', toks := tk } where
  ok := hs.ok
  len := hs.len
  ns := hs.ns.extBut hx (Ne.symm (hs.apart _ _ ho).1)
  rig := fun b ob e => hx b ob (fun q => by rw [q, (hs.apart _ _ ho).2] at e; cases e) (hs.rig b ob e)
  dat := fun b xb e => by
    have e' : (if b = P then some y else σ.D b) = some xb := e
    by_cases h : b = P
    · rw [if_pos h] at e'; cases e'; subst h; exact ⟨o', hg, hr⟩
    · rw [if_neg h] at e'; obtain ⟨ob, e1, r1⟩ := hs.dat b xb e'; exact ⟨ob, hx b ob h e1, r1⟩
  apart := fun b xb e => by
    have e' : (if b = P then some y else σ.D b) = some xb := e
    by_cases h : b = P
    · subst h; exact hs.apart _ _ ho
    · rw [if_neg h] at e'; exact hs.apart b xb e'
  fr := hs.fr
  base := hs.base
  gens := hs.gens
  os := hs.os
/-- an object that came with the growth -/
theorem Abs.gain {s : Shared} (hs : Abs c σ s) {a : Addr} {o : Obj} (hn : New c σ a) (hg : s.heap.get? a = some o) : Abs c (σ.put a (.obj o)) s where
  ok := hs.ok
  len := hs.len
  ns := hs.ns
  rig := hs.rig
  dat := fun b xb e => by
    have e' : (if b = a then some (AO.obj o) else σ.D b) = some xb := e
    by_cases h : b = a
    · rw [if_pos h] at e'; cases e'; subst h; exact ⟨o, hg, rfl⟩
    · rw [if_neg h] at e'; exact hs.dat b xb e'
  apart := fun b xb e => by
    have e' : (if b = a then some (AO.obj o) else σ.D b) = some xb := e
    by_cases h : b = a
    · subst h; exact ⟨hn.l, hn.r⟩
    · rw [if_neg h] at e'; exact hs.apart b xb e'
  fr := hs.fr
  base := hs.base
  gens := hs.gens
  os := hs.os
theorem Abs.newGe {s : Shared} (hs : Abs c σ s) {a : Addr} (h : s.heap.objs.size ≤ a) : New c σ a := ⟨by
  cases q : σ.D a with
  | none => rfl
  | some x => obtain ⟨_, e, _⟩ := hs.dat _ _ q; exact absurd (Heap.lt_size e) (Nat.not_lt_of_le h), by
  cases q : c.R a with
  | none => rfl
  | some x => exact absurd (Heap.lt_size (hs.rig _ _ q)) (Nat.not_lt_of_le h), fun e => absurd hs.ltL (by rw [← e]; exact Nat.not_lt_of_le h)⟩
theorem WP.lambda {params : Arguments} {body : Expr} {scope : Scope} {pos : Pos} {cd P : Addr} {mg : Str → Option Value} {ps : Array Value} {Q : Value → St → Prop} (L : LamTop c.hb cd P mg) (hcode : c.env.code = .ref cd) (hcl : closureFor scope c.env = Pure.pure [])
    (hdef : defaultsOf params c.env = ([], [])) (hP : σ.D P = some (.obj (tabObj ps))) (ht : TriplesOk ps.toList) (hnf : codeAmong pos ps.toList = none)
    (h : ∀ fn c' oc cvs tq pm ctv, New c σ fn → New c σ c' → fn ≠ c' → oc.data = .fields cvs → cvs[1]? = some (.str (c.env.qual ++ "<lambda>") tq) →
      Q (.ref fn) ⟨σ.v, upd (upd (upd σ.D P (.obj (tabObj (ps ++ #[rawInt pos.line, rawInt pos.col, .ref c'])))) c' (.obj oc)) fn (.obj (kla_obj "<lambda>" (c.env.qual ++ "<lambda>") params body scope [] pm c' ctv))⟩) :
    WP prog w c A (eval (.Lambda params body scope pos) c.env) Q σ := fun s hs => by
  refine kla_eval hdef (kla_makeFunction hcl hs.ok.globals (L.g.keeps hs.hbk) hcode (L.code.keeps hs.hbk) (hs.obj hP) ht hnf L.ne (L.bi.keeps hs.hbk) fun c' ctv h' tk hx hge hlt hrec hP' => ?_)
  obtain ⟨c1, oc, cvs, tq, e1, e2, e3, e4⟩ := hrec
  injection e1 with e1
  subst e1
  have hPlt : P < s.heap.objs.size := Heap.lt_size (hs.obj hP)
  have a1 := hs.reset (y := .obj (tabObj (ps ++ #[rawInt pos.line, rawInt pos.col, .ref c']))) (tk := tk) hP hx hP' rfl
  have n1 : New c σ c' := hs.newGe hge
  have cP : c' ≠ P := fun e => absurd hPlt (by rw [← e]; exact Nat.not_lt_of_le hge)
  have n1' : New c (σ.put P (.obj (tabObj (ps ++ #[rawInt pos.line, rawInt pos.col, .ref c'])))) c' := ⟨(upd_ne cP).trans n1.d, n1.r, n1.l⟩
  have a2 := a1.gain n1' e2
  have a3 := a2.push (x := .obj (kla_obj "<lambda>" (c.env.qual ++ "<lambda>") params body scope [] ((mg "__name__").getD .none) c' ctv)) _ rfl rfl
  have hsz : s.heap.objs.size ≤ h'.objs.size := Nat.le_of_lt (Nat.lt_of_le_of_lt hge hlt)
  exact ⟨_, a3, h h'.objs.size c' oc cvs tq _ ctv (hs.newGe hsz) n1 (Nat.ne_of_gt hlt) e3 e4⟩
end
end
section
open PySem PySem.W PyProof.Rows
section
variable {prog : Program} {w : World} {c : Cf} {A : Around} {σ : St}
theorem WP.lambdaHit {params : Arguments} {body : Expr} {scope : Scope} {pos : Pos} {cd P : Addr} {mg : Str → Option Value} {ps : Array Value} {c' : Addr} {Q : Value → St → Prop} (L : LamTop c.hb cd P mg) (hcode : c.env.code = .ref cd) (hcl : closureFor scope c.env = Pure.pure [])
    (hdef : defaultsOf params c.env = ([], [])) (hP : σ.D P = some (.obj (tabObj ps))) (ht : TriplesOk ps.toList) (hf : codeAmong pos ps.toList = some (.ref c'))
    (h : ∀ fn pm ctv, New c σ fn → Q (.ref fn) ⟨σ.v, upd σ.D fn (.obj (kla_obj "<lambda>" (c.env.qual ++ "<lambda>") params body scope [] pm c' ctv))⟩) :
    WP prog w c A (eval (.Lambda params body scope pos) c.env) Q σ := fun s hs => by
  refine kla_eval hdef (kla_makeFunctionHit hcl hs.ok.globals (L.g.keeps hs.hbk) hcode (L.code.keeps hs.hbk) (hs.obj hP) ht hf (L.bi.keeps hs.hbk) fun ctv h' tk hk hsz => ?_)
  have a1 := (hs.grown hk).tok tk
  have a3 := a1.push (x := .obj (kla_obj "<lambda>" (c.env.qual ++ "<lambda>") params body scope [] ((mg "__name__").getD .none) c' ctv)) _ rfl rfl
  exact ⟨_, a3, h h'.objs.size _ ctv (hs.newGe hsz)⟩
end
end
section
open PySem PySem.W PyProof.Rows
section
variable {prog : Program} {w : World} {c : Cf} {A : Around} {σ : St}
/-! ## {'at': i} -/
theorem WP.dict1 {x y : Str} {k i : Nat} {p1 p2 pos : Pos} {v : Value} {Q : Value → St → Prop} (hi : IxAt c.names y i) (hv : σ.v[i]? = some (some v))
    (h : ∀ d o, New c σ d → o.IsDictOf (PySem.strKind prog w) [(x, v)] → Q (.ref d) (σ.put d (.obj o))) : WP prog w c A (eval (.Dict [some (.Constant (.str x) k p1)] [.Name y p2] pos) c.env) Q σ := fun s hs => by
  refine wpAny_Dict_pairs (knd := PySem.strKind prog w) (pairs := [(eval (.Constant (.str x) k p1) c.env, do let z ← eval (.Name y p2) c.env; standAt pos; Pure.pure z)]) rfl (by simp) (by simp) ?_
  have a1 := hs.push (x := .obj { cls := .type "dict", data := .dict #[] }) { cls := .type "dict", data := .dict #[] } rfl rfl
  have n1 := hs.new
  have empt : Obj.IsDictOf (PySem.strKind prog w) { cls := .type "dict", data := .dict #[] } [] := by
    obtain ⟨o, e, r⟩ := Heap.dictOf_iff.mp (Heap.DictOf.new (knd := PySem.strKind prog w) s.heap)
    rw [Heap.get?_push_size _ rfl] at e
    cases e
    exact r
  refine evalPairs_cons (wpAny_Constant_str ?_)
  have a2 := a1.tok (s.toks + 1)
  have key : WP prog w c A (do let z ← eval (.Name y p2) c.env; standAt pos; Pure.pure z : Sem Value) (fun z σ' => z = v ∧ σ' = σ.put s.heap.objs.size (.obj { cls := .type "dict", data := .dict #[] })) (σ.put s.heap.objs.size (.obj { cls := .type "dict", data := .dict #[] })) :=
    WP.bind (WP.name hi hv (WP.bind (WP.stand (WP.pure ⟨rfl, rfl⟩))))
  refine wpAny_mono (key _ a2) (fun z s₂ ⟨σ₂, a₂, e1, e2⟩ => ?_) fun _ _ e => e.elim
  subst e1 e2
  refine evalPairs_nil ⟨[(x, z)], ⟨by simp [PySem.strKind, Value.isStrOf], rfl, trivial⟩, ?_, fun h' hd hsb => ?_⟩
  · rw [Heap.dictOf_iff]
    exact ⟨_, a₂.obj upd_self, empt⟩
  · obtain ⟨o, e, r⟩ := Heap.dictOf_iff.mp hd
    have a3 := (a₂.upd (y := .obj o) upd_self hsb e rfl).tok (s₂.toks + 1)
    rw [St.put, upd_upd] at a3
    exact ⟨_, a3, h _ o n1 r⟩
theorem WP.dictItem {d : Addr} {o : Obj} {x : Str} {v : Value} {t : Tok} {b sl : Expr} {Q : Value → St → Prop} (hd : σ.D d = some (.obj o)) (ho : o.IsDictOf (PySem.strKind prog w) [(x, v)]) (h : Q v σ)
    (hs : subscripted sl false (.ref d) (.str x t) = PySem.operate [.ref d, .str x t] (getItem (.ref d) (.str x t)) := by with_unfolding_all rfl) :
    WP prog w c A (subscriptTail b sl (.ref d) (.str x t)) Q σ := fun s ha => by
  have hD : s.heap.DictOf (PySem.strKind prog w) d [(x, v)] := Heap.dictOf_iff.mpr ⟨o, ha.obj hd, ho⟩
  exact tail_any hD.typeIs slot_dict_getitem.lookup (wpAny_getItem_of (knd := PySem.strKind prog w) (k := x) (by simp [PySem.strKind, Value.isStrOf]) hD.mapOf (by simp [valueAt]) ⟨σ, ha.tok _, h⟩) hs
end
end
section
open PySem PySem.W PyProof.Rows
section
variable {prog : Program} {w : World} {c : Cf} {A : Around} {σ : St}
theorem WP.callSlotA {T : String} {name : Str} {id : String} {b : Builtin} {self : Value} {rest : List Value} {Q : Value → St → Prop} (sl : Slot T name id) (hT : ∀ s, Abs c σ s → s.TypeIs self T) (hb : entryFor table id = some b)
    (ha : argsOk id ⟨self :: rest, []⟩) (h : WP prog w c A.in1 (b ⟨self :: rest, []⟩) (FinOk prog w c A Q) σ) : WP prog w c A (call (.builtin id) (self :: rest)) Q σ := fun s hs => by
  refine wpAny_call (codeAny_call_builtin sl.plain hb (sl.check _ _ _ _ _ _ _ _ (hT s hs) ha (wpAny_mono (h s hs) (fun fin s' xq => ex3 xq fun σ' a' q => ?_) fun _ _ e => e)))
  cases fin with
  | done f =>
    cases f with
    | ret v => exact ⟨σ', a', q⟩
    | _ => exact q.elim
  | again c' => exact ⟨q.1, q.2.of a'⟩
/-- equal by identity, or as numbers -/
noncomputable def EqV (v u : Value) : Prop := v = u ∨ ∃ i t t', v = .int i t ∧ u = .int i t'
theorem WP.eqB {v u : Value} {Q : Bool → St → Prop} (h : EqV v u) (hq : Q true σ) : WP prog w c A (eqBool v u) Q σ := fun s hs => by
  rcases h with rfl | ⟨i, t, t', rfl, rfl⟩
  · exact eqBool_self ⟨σ, hs, hq⟩
  · refine wpAny_eqBool_int ?_
    rw [beq_self_eq_true]
    exact ⟨σ, hs, hq⟩
theorem WP.listItems {l : Addr} {vs : List Value} {Q : Array Value → St → Prop} (hl : σ.D l = some (.list vs)) (h : Q vs.toArray σ) : WP prog w c A (Builtin.List.listItems (.ref l)) Q σ := by
  unfold Builtin.List.listItems
  exact WP.bind (WP.seqItems hl (WP.pure h))
theorem eqLoop {a b : Addr} {vs us : List Value} {ne : Bool} {Q : Value → St → Prop} (ha : σ.D a = some (.list vs)) (hb : σ.D b = some (.list us)) (hl : vs.length = us.length) (he : ∀ (i : Nat) v u, vs[i]? = some v → us[i]? = some u → EqV v u) (hq : Q (.bool (!ne)) σ) :
    ∀ (r i : Nat), vs.length - i = r → WB prog w c A (.builtin "list.__eq__.loop" ⟨[.ref a, .ref b, rawInt (i : Int), rawInt (if ne then 3 else 2)], []⟩) Q σ := by
  intro r
  induction r with
  | zero =>
    intro i hr
    have e1 : vs.toArray[((i : Nat) : Int).toNat]? = none := by simp; lia
    have e2 : us.toArray[((i : Nat) : Int).toNat]? = none := by simp; lia
    refine WB.builtin MeetsSeq3.plain_eq_loop MeetsSeq3.entry_eq_loop ?_
    cases ne with
    | false =>
      show WP _ _ _ A.in1 (Builtin.List.listItems (.ref a) >>= _) _ _
      refine WP.bind (WP.listItems ha (WP.bind (WP.listItems hb ?_)))
      rw [e1, e2]
      show WP _ _ _ A.in1 (Builtin.List.listItems (.ref a) >>= _) _ _
      refine WP.bind (WP.listItems ha (WP.bind (WP.listItems hb ?_)))
      refine WP.pure ?_
      show Q (.bool (vs.toArray.size == us.toArray.size)) σ
      rw [show (vs.toArray.size == us.toArray.size) = true by simpa using hl]
      exact hq
    | true =>
      show WP _ _ _ A.in1 (Builtin.List.listItems (.ref a) >>= _) _ _
      refine WP.bind (WP.listItems ha (WP.bind (WP.listItems hb ?_)))
      rw [e1, e2]
      show WP _ _ _ A.in1 (Builtin.List.listItems (.ref a) >>= _) _ _
      refine WP.bind (WP.listItems ha (WP.bind (WP.listItems hb ?_)))
      refine WP.pure ?_
      show Q (.bool (vs.toArray.size != us.toArray.size)) σ
      rw [show (vs.toArray.size != us.toArray.size) = false by simpa using hl]
      exact hq
  | succ r ih =>
    intro i hr
    have h1 : i < vs.length := by lia
    have h2 : i < us.length := by lia
    have e1 : vs.toArray[((i : Nat) : Int).toNat]? = some vs[i] := by simp [h1]
    have e2 : us.toArray[((i : Nat) : Int).toNat]? = some us[i] := by simp [h2]
    have hev := he i vs[i] us[i] (List.getElem?_eq_getElem h1) (List.getElem?_eq_getElem h2)
    have hi := ih (i + 1) (by lia)
    rw [show (((i + 1 : Nat) : Int)) = (i : Int) + 1 by lia] at hi
    refine WB.builtin MeetsSeq3.plain_eq_loop MeetsSeq3.entry_eq_loop ?_
    cases ne with
    | false =>
      show WP _ _ _ A.in1 (Builtin.List.listItems (.ref a) >>= _) _ _
      refine WP.bind (WP.listItems ha (WP.bind (WP.listItems hb ?_)))
      rw [e1, e2]
      refine WP.bind (WP.eqB hev ?_)
      simp only [if_true]
      exact WP.pure ⟨plainId_quiet MeetsSeq3.plain_eq_loop _, hi⟩
    | true =>
      show WP _ _ _ A.in1 (Builtin.List.listItems (.ref a) >>= _) _ _
      refine WP.bind (WP.listItems ha (WP.bind (WP.listItems hb ?_)))
      rw [e1, e2]
      refine WP.bind (WP.eqB hev ?_)
      simp only [if_true]
      exact WP.pure ⟨plainId_quiet MeetsSeq3.plain_eq_loop _, hi⟩
theorem WP.isInst {v : Value} {T C : String} {b : Bool} {Q : Bool → St → Prop} (hT : ∀ s, Abs c σ s → s.TypeIs v T) (hsub : isSubtype (.type T) (.type C) = Pure.pure b) (h : Q b σ) : WP prog w c A (isInstance v (.type C)) Q σ := fun s hs => wpAny_isInstance (hT s hs) hsub ⟨σ, hs, h⟩
theorem WP.neL {a b : Addr} {vs us : List Value} {Q : Value → St → Prop} (hu : A.units < cLine) (ha : σ.D a = some (.list vs)) (hb : σ.D b = some (.list us)) (hl : vs.length = us.length) (he : ∀ (i : Nat) v u, vs[i]? = some v → us[i]? = some u → EqV v u) (hq : Q (.bool false) σ) :
    WP prog w c A (compareOp .NotEq (.ref a) (.ref b)) Q σ := by
  have key : WP prog w c A (call (.builtin "list.__ne__") [.ref a, .ref b]) (fun v σ' => v ≠ .notImplemented ∧ Q v σ') σ := by
    refine WP.callSlotA PySem.F.slot_list_ne (fun s hs => (hs.isList ha).typeIs) PySem.F.entry_list_ne (PySem.F.args_list_ne_2 _ _) ?_
    show WP _ _ _ A.in1 (isInstance (.ref b) (.type "list") >>= _) _ _
    refine WP.bind (WP.isInst (T := "list") (fun s hs => (hs.isList hb).typeIs) AutoSeq1.sub_list_list ?_)
    simp only [Bool.not_true, Bool.false_eq_true, if_false]
    rw [if_pos (by decide)]
    refine WP.bind (WP.listItems ha (WP.bind (WP.listItems hb ?_)))
    rw [if_neg (by simp [hl])]
    exact WP.pure ⟨plainId_quiet MeetsSeq3.plain_eq_loop _, eqLoop (ne := true) ha hb hl he ⟨by simp, hq⟩ vs.length 0 rfl⟩
  intro s hs
  exact wpAny_richCompare_same_room (op := .NotEq) (T := "list") (hs.isList ha).typeIs (hs.isList hb).typeIs PySem.F.slot_list_ne (wpAny_mono (key s hs) (fun v s' ⟨σ', a', q1, q2⟩ => ⟨q1, σ', a', q2⟩) fun _ _ e => e) hu
theorem WP.eqL {a b : Addr} {vs us : List Value} {Q : Value → St → Prop} (hu : A.units < cLine) (ha : σ.D a = some (.list vs)) (hb : σ.D b = some (.list us)) (hl : vs.length = us.length) (he : ∀ (i : Nat) v u, vs[i]? = some v → us[i]? = some u → EqV v u) (hq : Q (.bool true) σ) :
    WP prog w c A (compareOp .Eq (.ref a) (.ref b)) Q σ := by
  have key : WP prog w c A (call (.builtin "list.__eq__") [.ref a, .ref b]) (fun v σ' => v ≠ .notImplemented ∧ Q v σ') σ := by
    refine WP.callSlotA PySem.F.slot_list_eq (fun s hs => (hs.isList ha).typeIs) PySem.F.entry_list_eq (PySem.F.args_list_eq_2 _ _) ?_
    show WP _ _ _ A.in1 (isInstance (.ref b) (.type "list") >>= _) _ _
    refine WP.bind (WP.isInst (T := "list") (fun s hs => (hs.isList hb).typeIs) AutoSeq1.sub_list_list ?_)
    simp only [Bool.not_true, Bool.false_eq_true, if_false]
    rw [if_pos (by decide)]
    refine WP.bind (WP.listItems ha (WP.bind (WP.listItems hb ?_)))
    rw [if_neg (by simp [hl])]
    exact WP.pure ⟨plainId_quiet MeetsSeq3.plain_eq_loop _, eqLoop (ne := false) ha hb hl he ⟨by simp, hq⟩ vs.length 0 rfl⟩
  intro s hs
  exact wpAny_richCompare_same_room (op := .Eq) (T := "list") (hs.isList ha).typeIs (hs.isList hb).typeIs PySem.F.slot_list_eq (wpAny_mono (key s hs) (fun v s' ⟨σ', a', q1, q2⟩ => ⟨q1, σ', a', q2⟩) fun _ _ e => e) hu
end
end
section
open PySem PySem.W PyProof.Rows
section
variable {prog : Program} {w : World} {c : Cf} {A : Around} {σ : St}
theorem Abs.gainR {s : Shared} (hs : Abs c σ s) {a : Addr} {o : Obj} {y : AO} (hn : New c σ a) (hg : s.heap.get? a = some o) (hr : Rep y o) : Abs c (σ.put a y) s where
  ok := hs.ok
  len := hs.len
  ns := hs.ns
  rig := hs.rig
  dat := fun b xb e => by
    have e' : (if b = a then some y else σ.D b) = some xb := e
    by_cases h : b = a
    · rw [if_pos h] at e'; cases e'; subst h; exact ⟨o, hg, hr⟩
    · rw [if_neg h] at e'; exact hs.dat b xb e'
  apart := fun b xb e => by
    have e' : (if b = a then some y else σ.D b) = some xb := e
    by_cases h : b = a
    · subst h; exact ⟨hn.l, hn.r⟩
    · rw [if_neg h] at e'; exact hs.apart b xb e'
  fr := hs.fr
  base := hs.base
  gens := hs.gens
  os := hs.os
theorem WP.listRange {r : Addr} {n : Nat} {t u v : Tok} {Q : Value → St → Prop} (hh : A.handled = none) (hr : σ.D r = some (rngO 0 (n : Int) 1 t u v)) (hn : n < 900)
    (h : ∀ a vs, New c σ a → vs.length = n → (∀ (i : Nat) x, vs[i]? = some x → ∃ t, x = .int i t) → Q (.ref a) (σ.put a (.list vs))) : WP prog w c A (call (.type "list") [.ref r]) Q σ := fun s hs => by
  refine call_list_range (n := n) hh (hs.obj hr) (range_small hn) (by rw [rangeSize_one]; split <;> lia) (by lia) fun h' tk acc' c' hk hg hi => ?_
  obtain ⟨q1, q2⟩ := hi
  refine ⟨_, ((hs.grown hk).tok tk).gainR (y := .list acc'.toList) hs.new hg ⟨c', by simp⟩, h _ _ hs.new (by simpa using q1) fun i x e => ?_⟩
  obtain ⟨t', e'⟩ := q2 i x (by simpa using e)
  exact ⟨t', by rw [e', Int.zero_add, Int.mul_one]⟩
end
end
section
open PySem PySem.W PyProof.Rows
section
/-- the pair number i -/
noncomputable def PairOk (w : World) (D : Addr → Option AO) (hs : List Value) (i : Nat) (v : Value) : Prop :=
  ∃ a d o t x, v = .ref a ∧ D a = some (.list [x, .ref d]) ∧ hs[i]? = some x ∧ D d = some (.obj o) ∧ o.IsDictOf (PySem.strKind prg w) [(Str.ofString "at", .int (i : Int) t)]
theorem PairOk.mono {w : World} {D D' : Addr → Option AO} {hs : List Value} {i : Nat} {v : Value} (h : PairOk w D hs i v) (hd : ∀ a x, D a = some x → D' a = some x) : PairOk w D' hs i v := by
  obtain ⟨a, d, o, t, x, e1, e2, e3, e4, e5⟩ := h
  exact ⟨a, d, o, t, x, e1, hd _ _ e2, e3, hd _ _ e4, e5⟩
variable {w : World} {c : Cf} {A : Around}
/-- [[heard[i], {'at': i}] for i in range(len(heard))] -/
theorem comp_pairs {p1 p2 p3 p4 p5 p6 p7 p8 pos : Pos} {k1 : Nat} {iter : Expr} {scope : Scope} {D : Addr → Option AO} {hA hl it acc : Addr} {hs : List Value} {Q : Flow → St → Prop}
    (hh : A.handled = none) (h64 : hs.length ≤ 16) (hk : c.env.kindOf (Str.ofString "heard") = some .cell) (hkc : c.env.cells.lookup (Str.ofString "heard") = some hA)
    (hc : D hA = some (.cell (some (.ref hl)))) (hl' : D hl = some (.list hs)) (nit : D it = none) (nacc : D acc = none) (ia : it ≠ acc)
    (h : ∀ v D' vs, (∀ a x, D a = some x → D' a = some x) → D' acc = some (.list vs) → vs.length = hs.length → (∀ (i : Nat) v, vs[i]? = some v → PairOk w D' hs i v) → vs.Nodup → Q .next ⟨v, D'⟩) :
    WC prg w (c.nm ["i"]) A (.compLoop (.ListComp (.List [.Subscript (.Name (Str.ofString "heard") p1) (.Name (Str.ofString "i") p2) p3, .Dict [some (.Constant (.str (Str.ofString "at")) k1 p4)] [.Name (Str.ofString "i") p5] p6] p7)
      [⟨.Name (Str.ofString "i") p8, iter, [], 0⟩] scope pos) 0 (.ref it) (.ref acc) c.env) Q ⟨[none], upd (upd D it (ritO 0 (hs.length : Int) 1)) acc (.list [])⟩ := by
  let I : Nat → St → Prop := fun r σ => ∃ j iv D' vs, σ = ⟨[iv], D'⟩ ∧ j + r = hs.length ∧ (∀ a x, D a = some x → D' a = some x) ∧ D' acc = some (.list vs) ∧ D' it = some (ritO (j : Int) (r : Int) 1) ∧ vs.length = j ∧ (∀ (i : Nat) v, vs[i]? = some v → PairOk w D' hs i v) ∧ vs.Nodup ∧ ∀ v ∈ vs, v ≠ .ref acc
  refine WC.compLoop I ?turn hs.length ?start
  case start => exact ⟨0, none, _, [], rfl, by lia, le_put (le_put (fun _ _ e => e) nit) nacc, upd_self, (upd_ne ia).trans upd_self, rfl, fun i v e => by simp at e, by simp, fun v hv => by simp at hv⟩
  rintro r σ ⟨j, iv, D', vs, rfl, hj, hD, hacc, hit, hvl, hP, hnd, hna⟩
  have hne : it ≠ acc := ia
  cases r with
  | zero =>
    refine WP.nextRangeEnd hh hit (by lia) ?_
    have hdel : ∀ p x, D' p = some x → p ≠ it → del D' it p = some x := fun p x e q => (del_ne q).trans e
    refine h _ _ vs (fun p x e => hdel _ _ (hD p x e) fun q => by rw [q, nit] at e; cases e) (hdel _ _ hacc ia.symm) (by lia) (fun i v e => ?_) hnd
    obtain ⟨a, d, o, t, x, e1, e2, e3, e4, e5⟩ := hP i v e
    exact ⟨a, d, o, t, x, e1, hdel _ _ e2 (fun q => by rw [q, hit] at e2; cases e2), e3, hdel _ _ e4 (fun q => by
      rw [q, hit] at e4; cases e4
      obtain ⟨es, ep, _, q1, _⟩ := e5
      cases q1), e5⟩
  | succ r =>
    have hjl : j < hs.length := by lia
    refine WP.nextRange hit (by lia) fun tj => ?_
    have up : ∀ p x, D' p = some x → p ≠ it → upd D' it (ritO ((j : Int) + 1) (((r + 1 : Nat) : Int) - 1) 1) p = some x := fun p x e q => (upd_ne q).trans e
    have hD1 : ∀ a x, D a = some x → upd D' it (ritO ((j : Int) + 1) (((r + 1 : Nat) : Int) - 1) 1) a = some x := fun p x e => up _ _ (hD p x e) fun q => by rw [q, nit] at e; cases e
    have hacc1 := up _ _ hacc ia.symm
    have hit1 : upd D' it (ritO ((j : Int) + 1) (((r + 1 : Nat) : Int) - 1) 1) it = _ := upd_self
    have hP1 : ∀ (i : Nat) v, vs[i]? = some v → PairOk w (upd D' it (ritO ((j : Int) + 1) (((r + 1 : Nat) : Int) - 1) 1)) hs i v := fun i v e => by
      obtain ⟨a, d, o, t, x, e1, e2, e3, e4, e5⟩ := hP i v e
      exact ⟨a, d, o, t, x, e1, up _ _ e2 (fun q => by rw [q, hit] at e2; cases e2), e3, up _ _ e4 (fun q => by
        rw [q, hit] at e4; cases e4
        obtain ⟨es, ep, _, q1, _⟩ := e5
        cases q1), e5⟩
    dsimp only [St.put]
    generalize upd D' it (ritO ((j : Int) + 1) (((r + 1 : Nat) : Int) - 1) 1) = D1 at hD1 hacc1 hit1 hP1 ⊢
    walk_at "go"
    refine WP.cname hk hkc (by exact hD1 _ _ hc) ?_
    walk_at "go"
    refine WP.itemN (hD1 _ _ hl') (List.getElem?_eq_getElem hjl) (by lia) ?_
    walk_at "go"
    refine WP.dict1 (by walk_at "ix") rfl fun d o hd ho => ?_
    walk_at "go"
    intro a ha
    have nd1 : D1 d = none := hd.d
    have acd : acc ≠ d := hd.ne hacc1
    have na1 : D1 a = none := ha.off (upd_le nd1)
    have d_a : d ≠ a := ha.ne upd_self
    have aca : acc ≠ a := ha.ne ((upd_ne acd).trans hacc1)
    refine WP.append (vs := vs) (by dsimp only; rw [upd_ne aca, upd_ne acd, hacc1]) (by lia) ?_
    dsimp only [St.put]
    have keep : ∀ p x, D1 p = some x → p ≠ acc → upd (upd (upd D1 d (.obj o)) a (.list [hs[j], .ref d])) acc (.list (vs ++ [.ref a])) p = some x := fun p x e q => by
      rw [upd_ne q, upd_ne (fun z => by rw [z, na1] at e; cases e), upd_ne (fun z => by rw [z, nd1] at e; cases e), e]
    refine ⟨r, by lia, j + 1, _, _, vs ++ [.ref a], rfl, by lia, fun p x e => keep _ _ (hD1 p x e) (fun q => by rw [q, nacc] at e; cases e), upd_self, ?_, by simp [hvl], fun i v e => ?_, ?_, fun v hv => ?_⟩
    · rw [keep _ _ hit1 ia, show (((j + 1 : Nat) : Int)) = (j : Int) + 1 by lia, show (((r + 1 : Nat) : Int) - 1) = (r : Int) by lia]
    · rcases Nat.lt_or_ge i vs.length with q | q
      · rw [List.getElem?_append_left q] at e
        obtain ⟨a', d', o', t, x, e1, e2, e3, e4, e5⟩ := hP1 i v e
        exact ⟨a', d', o', t, x, e1, keep _ _ e2 (fun z => hna v (List.mem_of_getElem? e) (by rw [e1, z])), e3, keep _ _ e4 (fun z => by rw [z, hacc1] at e4; cases e4), e5⟩
      · rw [List.getElem?_append_right q] at e
        have hi0 : i - vs.length = 0 := by
          rcases Nat.eq_zero_or_pos (i - vs.length) with h | h
          · exact h
          · rw [List.getElem?_eq_none (by simp; lia)] at e; cases e
        rw [hi0] at e
        simp at e
        have : i = j := by lia
        subst e this
        refine ⟨a, d, o, tj, hs[i], rfl, by rw [upd_ne aca.symm, upd_self], List.getElem?_eq_getElem hjl, by rw [upd_ne acd.symm, upd_ne d_a, upd_self], ho⟩
    · refine List.nodup_append.mpr ⟨hnd, by simp, fun v hv u hu => ?_⟩
      rw [List.mem_singleton.mp hu]
      intro e
      obtain ⟨i, hi⟩ := List.mem_iff_getElem?.mp hv
      obtain ⟨a', d', o', t, x, e1, e2, _⟩ := hP1 i v hi
      rw [e] at e1
      injection e1 with e1
      rw [← e1, na1] at e2
      cases e2
    · rcases List.mem_append.mp hv with hv | hv
      · exact hna v hv
      · rw [List.mem_singleton.mp hv]
        intro e
        injection e with e
        exact aca e.symm
end
end
section
open PySem PySem.W PyProof.Rows
section
noncomputable def KP (D : Addr → Option AO) (kf : Value → Str) (v : Value) : Prop := ∃ a x y T, v = .ref a ∧ D a = some (.list [x, y]) ∧ Thing D 3 x T ∧ kf v = (toP T).shown
theorem KP.mono {D D' : Addr → Option AO} {kf : Value → Str} {v : Value} (h : KP D kf v) (hd : ∀ a x, D a = some x → D' a = some x) : KP D' kf v := by
  obtain ⟨a, x, y, T, e1, e2, e3, e4⟩ := h
  exact ⟨a, x, y, T, e1, hd _ _ e2, e3.mono hd, e4⟩
@[reducible] noncomputable def cntOp (b : Bool) : CmpOp := if b then .GtE else .LtE
variable {w : World} {c : Cf} {A : Around}
/-- [done for done in rising if _law_held(done[0], pair[0]) <= 0] (b: falling, >= 0) -/
theorem comp_cnt {b : Bool} {op : CmpOp} {q1 q2 q3 q4 q5 q6 q7 q8 q9 q10 q11 q12 pos : Pos} {k1 k2 k3 : Nat} {iter : Expr} {scope : Scope} {D : Addr → Option AO} {f pA rl it acc : Addr} {S : List Value} {pv : Value} {kf : Value → Str} {Q : Flow → St → Prop}
    (hop : op = cntOp b) (hf : FnOk c.hb 16 "_law_held" f .none) (T : TopD c.hb) (hh : A.handled = none) (hu : A.units + 30 < cLine) (hd : A.depth + 6 < recursionLimit) (h64 : S.length < 64)
    (hg : c.env.kindOf (Str.ofString "_law_held") = some .globalImplicit) (hk : c.env.kindOf (Str.ofString "pair") = some .cell) (hkc : c.env.cells.lookup (Str.ofString "pair") = some pA)
    (hc : D pA = some (.cell (some pv))) (hpv : KP D kf pv) (hl : D rl = some (.list S)) (hS : ∀ v ∈ S, KP D kf v) (nit : D it = none) (nacc : D acc = none) (ia : it ≠ acc)
    (h : ∀ v D', (∀ a x, D a = some x → D' a = some x) → D' acc = some (.list (S.filter fun d => !klt b (kf pv) (kf d))) → Q .next ⟨v, D'⟩) :
    WC prg w (c.nm ["done"]) A (.compLoop (.ListComp (.Name (Str.ofString "done") q1)
      [⟨.Name (Str.ofString "done") q2, iter, [.Compare (.Call (.Name (Str.ofString "_law_held") q3) [.Subscript (.Name (Str.ofString "done") q4) (.Constant (.int 0) k1 q5) q6, .Subscript (.Name (Str.ofString "pair") q7) (.Constant (.int 0) k2 q8) q9] [] q10) [op] [.Constant (.int 0) k3 q11] q12], 0⟩] scope pos) 0 (.ref it) (.ref acc) c.env) Q
      ⟨[none], upd (upd D it (.lit rl 0)) acc (.list [])⟩ := by
  have r_i : rl ≠ it := fun q => by rw [q, nit] at hl; cases hl
  have r_a : rl ≠ acc := fun q => by rw [q, nacc] at hl; cases hl
  let I : Nat → St → Prop := fun r σ => ∃ j iv, σ = ⟨[iv], upd (upd D it (.lit rl j)) acc (.list ((S.take j).filter fun d => !klt b (kf pv) (kf d)))⟩ ∧ j + r = S.length
  refine WC.compLoopIf I ?turn S.length ⟨0, none, rfl, by lia⟩
  rintro r σ ⟨j, iv, rfl, hj⟩
  have hDD : ∀ p x, D p = some x → upd (upd D it (.lit rl j)) acc (.list ((S.take j).filter fun d => !klt b (kf pv) (kf d))) p = some x := le_put (le_put (fun _ _ e => e) nit) nacc
  have hit' : upd (upd D it (.lit rl j)) acc (.list ((S.take j).filter fun d => !klt b (kf pv) (kf d))) it = some (.lit rl j) := (upd_ne ia).trans upd_self
  cases r with
  | zero =>
    refine WP.nextListEnd hh hit' (hDD _ _ hl) (by lia) ?_
    refine h _ _ (fun p x e => ?_) ?_
    · exact (del_ne fun q => by rw [q, nit] at e; cases e).trans (hDD p x e)
    · refine (del_ne ia.symm).trans ?_
      rw [show S.take j = S from List.take_of_length_le (by lia)]
      exact upd_self
  | succ r =>
    have hjl : j < S.length := by lia
    have hx : S[j]? = some S[j] := List.getElem?_eq_getElem hjl
    have hKP := hS _ (List.getElem_mem hjl)
    have ht : S.take (j + 1) = S.take j ++ [S[j]] := by rw [List.take_add_one, hx]; rfl
    generalize S[j] = d at hx hKP ht
    refine WP.nextList hit' (hDD _ _ hl) hx ?_
    dsimp only [St.put]
    rw [upd_comm ia.symm, upd_upd]
    have hD1 : ∀ p x, D p = some x → upd (upd D it (.lit rl (j + 1))) acc (.list ((S.take j).filter fun d => !klt b (kf pv) (kf d))) p = some x := le_put (le_put (fun _ _ e => e) nit) nacc
    obtain ⟨a, x, y, T1, rfl, e2, e3, e4⟩ := hKP
    obtain ⟨a', x', y', T2, rfl, e2', e3', e4'⟩ := hpv
    walk_at "go"
    refine WP.gname hf.1 hg (by decide) ?_
    walk_at "go"
    refine WP.itemN (k := 0) (hD1 _ _ e2) rfl (by lia) ?_
    walk_at "go"
    refine WP.cname hk hkc (by exact hD1 _ _ hc) ?_
    walk_at "go"
    refine WP.itemN (k := 0) (hD1 _ _ e2') rfl (by lia) ?_
    walk_at "go"
    refine ⟨FnOk.callOk (c := c.nm ["done"]) hf, ?_⟩
    refine held_ok T hf 3 (c.nm ["done"]) A _ _ _ _ _ _ rfl hh (by lia) (by lia) (e3.mono hD1) (e3'.mono hD1) fun t => ?_
    walk_at "go"
    have hcmp : ∀ (σ' : St) (t' : Tok) (P : Value → St → Prop), P (.bool (!klt b (kf (.ref a')) (kf (.ref a)))) σ' → WP prg w (c.nm ["done"]) A (compareOp op (.int (cmpT T1 T2) t) (.int 0 t')) P σ' := by
      intro σ' t' P hP
      subst hop
      rw [e4, e4'] at hP
      cases b with
      | false =>
        refine WP.le ?_
        have q := le_iff e3.dig e3'.dig
        cases hB : klt false (toP T2).shown (toP T1).shown with
        | false => rw [hB] at hP q; rw [decide_eq_true (q.mpr rfl)]; exact hP
        | true => rw [hB] at hP q; rw [decide_eq_false (fun z => by have := q.mp z; cases this)]; exact hP
      | true =>
        refine WP.ge ?_
        have q := ge_iff e3.dig e3'.dig
        cases hB : klt true (toP T2).shown (toP T1).shown with
        | false => rw [hB] at hP q; rw [decide_eq_true (q.mpr rfl)]; exact hP
        | true => rw [hB] at hP q; rw [decide_eq_false (fun z => by have := q.mp z; cases this)]; exact hP
    refine hcmp _ _ _ ?_
    refine WP.truthy ?_
    have hacc1 : upd (upd D it (.lit rl (j + 1))) acc (.list ((S.take j).filter fun d => !klt b (kf (.ref a')) (kf d))) acc = _ := upd_self
    cases hB : klt b (kf (.ref a')) (kf (.ref a)) with
    | true =>
      refine ifNT ?_
      refine ⟨r, by lia, j + 1, some (.ref a), ?_, by lia⟩
      rw [ht, List.filter_append, List.filter_cons_of_neg (by simp [hB]), List.filter_nil, List.append_nil]
    | false =>
      refine ifNF ?_
      walk_at "go"
      refine WP.append hacc1 (by have := List.length_filter_le (fun d => !klt b (kf (.ref a')) (kf d)) (S.take j); rw [List.length_take] at this; lia) ?_
      refine ⟨r, by lia, j + 1, some (.ref a), ?_, by lia⟩
      dsimp only [St.put]
      rw [upd_upd, ht, List.filter_append, List.filter_cons_of_pos (by simp [hB]), List.filter_nil]
end
end
section
open PySem PySem.W PyProof.Rows
section
variable {w : World} {c : Cf} {A : Around}
noncomputable def CellAt (c : Cf) (D : Addr → Option AO) (x : Str) (l : Addr) (vs : List Value) : Prop := ∃ a, c.env.kindOf x = some .cell ∧ c.env.cells.lookup x = some a ∧ D a = some (.cell (some (.ref l))) ∧ D l = some (.list vs)
/-- [k for k in range(count) if least[k] is not rising[k] or most[k] is not falling[k]] -/
theorem comp_bad {q1 q2 q3 q4 q5 q6 q7 q8 q9 q10 q11 q12 q13 q14 q15 q16 q17 pos : Pos} {iter : Expr} {scope : Scope} {D : Addr → Option AO} {l1 l2 l3 l4 it acc : Addr} {L R M F : List Value} {n : Nat} {Q : Flow → St → Prop}
    (hh : A.handled = none) (h64 : n < 64) (c1 : CellAt c D (Str.ofString "least") l1 L) (c2 : CellAt c D (Str.ofString "rising") l2 R) (c3 : CellAt c D (Str.ofString "most") l3 M) (c4 : CellAt c D (Str.ofString "falling") l4 F)
    (hLR : ∀ k, k < n → ∃ x, L[k]? = some (.ref x) ∧ R[k]? = some (.ref x)) (hMF : ∀ k, k < n → ∃ x, M[k]? = some (.ref x) ∧ F[k]? = some (.ref x)) (nit : D it = none) (nacc : D acc = none) (ia : it ≠ acc)
    (h : ∀ v D', (∀ a x, D a = some x → D' a = some x) → D' acc = some (.list []) → Q .next ⟨v, D'⟩) :
    WC prg w (c.nm ["k"]) A (.compLoop (.ListComp (.Name (Str.ofString "k") q1)
      [⟨.Name (Str.ofString "k") q2, iter, [.BoolOp .Or [.Compare (.Subscript (.Name (Str.ofString "least") q3) (.Name (Str.ofString "k") q4) q5) [.IsNot] [.Subscript (.Name (Str.ofString "rising") q6) (.Name (Str.ofString "k") q7) q8] q9,
        .Compare (.Subscript (.Name (Str.ofString "most") q10) (.Name (Str.ofString "k") q11) q12) [.IsNot] [.Subscript (.Name (Str.ofString "falling") q13) (.Name (Str.ofString "k") q14) q15] q16] q17], 0⟩] scope pos) 0 (.ref it) (.ref acc) c.env) Q
      ⟨[none], upd (upd D it (ritO 0 (n : Int) 1)) acc (.list [])⟩ := by
  obtain ⟨a1, u1, v1, w1, x1⟩ := c1
  obtain ⟨a2, u2, v2, w2, x2⟩ := c2
  obtain ⟨a3, u3, v3, w3, x3⟩ := c3
  obtain ⟨a4, u4, v4, w4, x4⟩ := c4
  let I : Nat → St → Prop := fun r σ => ∃ j iv, σ = ⟨[iv], upd (upd D it (ritO ((j : Nat) : Int) (r : Int) 1)) acc (.list [])⟩ ∧ j + r = n
  refine WC.compLoopIf I ?turn n ⟨0, none, rfl, by lia⟩
  rintro r σ ⟨j, iv, rfl, hj⟩
  have hDD : ∀ p x, D p = some x → upd (upd D it (ritO ((j : Nat) : Int) (r : Int) 1)) acc (.list []) p = some x := le_put (le_put (fun _ _ e => e) nit) nacc
  cases r with
  | zero =>
    refine WP.nextRangeEnd hh ((upd_ne ia).trans upd_self) (by lia) ?_
    exact h _ _ (fun p x e => (del_ne fun q => by rw [q, nit] at e; cases e).trans (hDD p x e)) ((del_ne ia.symm).trans upd_self)
  | succ r =>
    refine WP.nextRange ((upd_ne ia).trans upd_self) (by lia) fun tj => ?_
    dsimp only [St.put]
    rw [upd_comm ia.symm, upd_upd]
    have hD1 : ∀ p x, D p = some x → upd (upd D it (ritO ((j : Int) + 1) (((r + 1 : Nat) : Int) - 1) 1)) acc (.list []) p = some x := le_put (le_put (fun _ _ e => e) nit) nacc
    obtain ⟨y1, g1, g2⟩ := hLR j (by lia)
    obtain ⟨y2, g3, g4⟩ := hMF j (by lia)
    walk_at "go"
    refine WP.cname u1 v1 (by exact hD1 _ _ w1) ?_
    walk_at "go"
    refine WP.itemN (hD1 _ _ x1) g1 (by lia) ?_
    walk_at "go"
    refine WP.cname u2 v2 (by exact hD1 _ _ w2) ?_
    walk_at "go"
    refine WP.itemN (hD1 _ _ x2) g2 (by lia) ?_
    walk_at "go"
    refine WP.cname u3 v3 (by exact hD1 _ _ w3) ?_
    walk_at "go"
    refine WP.itemN (hD1 _ _ x3) g3 (by lia) ?_
    walk_at "go"
    refine WP.cname u4 v4 (by exact hD1 _ _ w4) ?_
    walk_at "go"
    refine WP.itemN (hD1 _ _ x4) g4 (by lia) ?_
    walk_at "go"
    refine ⟨r, by lia, j + 1, some (.int j tj), ?_, by lia⟩
    rw [show (((j + 1 : Nat) : Int)) = (j : Int) + 1 by lia, show (((r + 1 : Nat) : Int) - 1) = (r : Int) by lia]
end
end
section
open PySem PySem.W PyProof.Rows
section
variable {w : World} {c : Cf} {A : Around}
/-- [pair[1]['at'] for pair in pairs] -/
theorem comp_at {q1 q2 q3 q4 q5 q6 pos : Pos} {k1 k2 : Nat} {iter : Expr} {scope : Scope} {D : Addr → Option AO} {l it acc : Addr} {vs hs : List Value} {Q : Flow → St → Prop}
    (hh : A.handled = none) (h64 : vs.length < 64) (hl : D l = some (.list vs)) (hP : ∀ (i : Nat) v, vs[i]? = some v → PairOk w D hs i v) (nit : D it = none) (nacc : D acc = none) (ia : it ≠ acc)
    (h : ∀ v D' us, (∀ a x, D a = some x → D' a = some x) → D' acc = some (.list us) → us.length = vs.length → (∀ (i : Nat) u, us[i]? = some u → ∃ t, u = .int i t) → Q .next ⟨v, D'⟩) :
    WC prg w (c.nm ["pair"]) A (.compLoop (.ListComp (.Subscript (.Subscript (.Name (Str.ofString "pair") q1) (.Constant (.int 1) k1 q2) q3) (.Constant (.str (Str.ofString "at")) k2 q4) q5)
      [⟨.Name (Str.ofString "pair") q6, iter, [], 0⟩] scope pos) 0 (.ref it) (.ref acc) c.env) Q ⟨[none], upd (upd D it (.lit l 0)) acc (.list [])⟩ := by
  let I : Nat → St → Prop := fun r σ => ∃ j iv us, σ = ⟨[iv], upd (upd D it (.lit l j)) acc (.list us)⟩ ∧ j + r = vs.length ∧ us.length = j ∧ ∀ (i : Nat) u, us[i]? = some u → ∃ t, u = .int i t
  refine WC.compLoop I ?turn vs.length ⟨0, none, [], rfl, by lia, rfl, fun i u e => by simp at e⟩
  rintro r σ ⟨j, iv, us, rfl, hj, hul, hu⟩
  have hDD : ∀ p x, D p = some x → upd (upd D it (.lit l j)) acc (.list us) p = some x := le_put (le_put (fun _ _ e => e) nit) nacc
  cases r with
  | zero =>
    refine WP.nextListEnd hh ((upd_ne ia).trans upd_self) (hDD _ _ hl) (by lia) ?_
    exact h _ _ us (fun p x e => (del_ne fun q => by rw [q, nit] at e; cases e).trans (hDD p x e)) ((del_ne ia.symm).trans upd_self) (by lia) hu
  | succ r =>
    have hjl : j < vs.length := by lia
    have hx : vs[j]? = some vs[j] := List.getElem?_eq_getElem hjl
    obtain ⟨a, d, o, t, x, e1, e2, e3, e4, e5⟩ := hP j _ hx
    rw [e1] at hx
    refine WP.nextList ((upd_ne ia).trans upd_self) (hDD _ _ hl) hx ?_
    dsimp only [St.put]
    rw [upd_comm ia.symm, upd_upd]
    have hD1 : ∀ p x, D p = some x → upd (upd D it (.lit l (j + 1))) acc (.list us) p = some x := le_put (le_put (fun _ _ e => e) nit) nacc
    walk_at "go"
    refine WP.itemN (k := 1) (hD1 _ _ e2) rfl (by lia) ?_
    walk_at "go"
    refine WP.dictItem (hD1 _ _ e4) e5 ?_
    refine WP.append upd_self (by lia) ?_
    dsimp only [St.put]
    rw [upd_upd]
    refine ⟨r, by lia, j + 1, some (.ref a), us ++ [.int j t], rfl, by lia, by simp [hul], fun i u e => ?_⟩
    rcases Nat.lt_or_ge i us.length with q | q
    · rw [List.getElem?_append_left q] at e; exact hu i u e
    · rw [List.getElem?_append_right q] at e
      have hi0 : i - us.length = 0 := by
        rcases Nat.eq_zero_or_pos (i - us.length) with h | h
        · exact h
        · rw [List.getElem?_eq_none (by simp; lia)] at e; cases e
      rw [hi0] at e
      simp at e
      exact ⟨t, by rw [← e, show j = i by lia]⟩
end
end
section
open PySem PySem.W PyProof.Rows
section
variable {w : World} {c : Cf} {A : Around}
@[reducible] noncomputable def nmLW : List Str := ["script", "pairs", "ahead", "count"]
structure LC (c : Cf) (h r f p l m : Addr) : Prop where
  sc : c.env.scope = scopeAt 17
  cells : c.env.cells = [(Str.ofString "most", m), (Str.ofString "least", l), (Str.ofString "pair", p), (Str.ofString "falling", f), (Str.ofString "rising", r), (Str.ofString "heard", h)]
structure TopL (hb : Heap) : Prop where
  D : TopD hb
  list : GNm hb "list" (.type "list")
  sum : GNm hb "sum" (.builtin "sum")
/-- the last statement of law -/
theorem law_d {h r f p l m : Addr} {hl pl : Addr} {hs vs : List Value} {s0 a0 n0 : Option Value} {D : Addr → Option AO} {Q : Flow → St → Prop} (T : TopL c.hb) (C : LC c h r f p l m) (hh : A.handled = none) (hu : A.units < cLine)
    (h1 : D h = some (.cell (some (.ref hl)))) (h2 : D hl = some (.list hs)) (h3 : D pl = some (.list vs)) (hlen : vs.length = hs.length) (h64 : vs.length < 64) (hP : ∀ (i : Nat) v, vs[i]? = some v → PairOk w D hs i v)
    (hq : ∀ vv D', (∀ a x, D a = some x → D' a = some x) → Q (.ret (.bool true)) ⟨vv, D'⟩) : WP prg w (c.nm nmLW) A (execs ((bodyAt 17).drop 6) c.env) Q ⟨[s0, some (.ref pl), a0, n0], D⟩ := by
  refine WP.execs_cons ?_
  walk_at "go"
  refine WP.listComp (names := ["pair"]) (cl := []) ⟨rfl, by decide +kernel, by decide +kernel, by decide +kernel, by decide +kernel, by decide +kernel⟩ (closureFor_none (by decide +kernel)) ?_
  walk_at "go"
  refine WP.iterList h3 fun it hit => ?_
  intro acc hacc c' C' g1 g2
  have nit : D it = none := hit.d
  have i_a : it ≠ acc := hacc.ne upd_self
  have nacc : D acc = none := hacc.off (upd_le nit)
  refine WC.compStart (fun P hp => WP.iterLit (l := pl) (i := 0) ((upd_ne i_a).trans upd_self) hp) ?_
  refine comp_at hh h64 h3 hP nit nacc i_a fun v D' us hD hacc' hul hus => ?_
  walk_at "go"
  refine WP.gname T.list (by show c.env.scope.names.lookup _ = _; rw [C.sc]; rfl) (by decide) ?_
  walk_at "go"
  refine WP.gname T.D.range (by show c.env.scope.names.lookup _ = _; rw [C.sc]; rfl) (by decide) ?_
  walk_at "go"
  refine WP.gname T.D.len (by show c.env.scope.names.lookup _ = _; rw [C.sc]; rfl) (by decide) ?_
  walk_at "go"
  refine WP.cname (by show c.env.scope.names.lookup (Str.ofString "heard") = some .cell; rw [C.sc]; rfl) (by rw [show (c.nm nmLW).env.cells = _ from C.cells]; rfl) (by exact hD _ _ h1) ?_
  walk_at "go"
  refine WP.len (hD _ _ h2) (by lia) fun _ => ?_
  walk_at "go"
  refine WP.range1 fun rg _ _ hrg => ?_
  walk_at "go"
  refine WP.listRange hh upd_self (by lia) fun b ws hb hwl hws => ?_
  have a_r : acc ≠ rg := hrg.ne hacc'
  have a_b : acc ≠ b := hb.ne ((upd_ne a_r).trans hacc')
  refine WP.eqL hu (by dsimp only; rw [upd_ne a_b, upd_ne a_r, hacc']) upd_self (by lia) (fun i v u e1 e2 => ?_) (hq _ _ fun a x e => upd_le hb.d _ _ (upd_le hrg.d _ _ (hD _ _ e)))
  obtain ⟨t1, q1⟩ := hus i v e1
  obtain ⟨t2, q2⟩ := hws i u e2
  exact .inr ⟨i, t1, t2, q1, q2⟩
end
end
section
open PySem PySem.W PyProof.Rows
section
variable {w : World} {c : Cf} {A : Around}
theorem take_refs {S : List Value} {n : Nat} (hn : n ≤ S.length) (hr : ∀ v ∈ S, ∃ a, v = .ref a) : ∀ k, k < n → ∃ x, (S.take n)[k]? = some (.ref x) ∧ S[k]? = some (.ref x) := fun k hk => by
  have hkl : k < S.length := by lia
  obtain ⟨a, e⟩ := hr _ (List.getElem_mem hkl)
  refine ⟨a, ?_, ?_⟩
  · rw [List.getElem?_take_of_lt hk, List.getElem?_eq_getElem hkl, e]
  · rw [List.getElem?_eq_getElem hkl, e]
end
end
section
open PySem PySem.W PyProof.Rows
section
variable {w : World} {c : Cf} {A : Around}
/-- what law's second loop finds in the heap -/
structure LD (w : World) (D : Addr → Option AO) (h r f l m hl pl rA fA : Addr) (hs vs R F : List Value) (kf : Value → Str) : Prop where
  ch : D h = some (.cell (some (.ref hl)))
  dh : D hl = some (.list hs)
  dp : D pl = some (.list vs)
  cr : D r = some (.cell (some (.ref rA)))
  dr : D rA = some (.list R)
  cf : D f = some (.cell (some (.ref fA)))
  df : D fA = some (.list F)
  cl : ∃ v, D l = some (.cell v)
  cm : ∃ v, D m = some (.cell v)
  pr : ∀ (i : Nat) v, vs[i]? = some v → PairOk w D hs i v
  kp : ∀ v ∈ vs, KP D kf v
theorem LD.mono {D D' : Addr → Option AO} {h r f l m hl pl rA fA : Addr} {hs vs R F : List Value} {kf : Value → Str} (X : LD w D h r f l m hl pl rA fA hs vs R F kf) (hd : ∀ a x, D a = some x → D' a = some x) : LD w D' h r f l m hl pl rA fA hs vs R F kf :=
  ⟨hd _ _ X.ch, hd _ _ X.dh, hd _ _ X.dp, hd _ _ X.cr, hd _ _ X.dr, hd _ _ X.cf, hd _ _ X.df, let ⟨v, e⟩ := X.cl; ⟨v, hd _ _ e⟩, let ⟨v, e⟩ := X.cm; ⟨v, hd _ _ e⟩, fun i v e => (X.pr i v e).mono hd, fun v hv => (X.kp v hv).mono hd⟩
theorem Thing.monoL {D D' : Addr → Option AO} (hd : ∀ a vs, D a = some (.list vs) → D' a = some (.list vs)) : ∀ {h : Nat} {v : Value} {T : Tr}, Thing D h v T → Thing D' h v T
  | 0, _, _, q => q
  | h + 1, _, _, .inl q => .inl q
  | h + 1, _, _, .inr ⟨a, vs, xs, e1, e2, e3, e4, q⟩ => .inr ⟨a, vs, xs, e1, hd _ _ e2, e3, e4, q.imp fun _ _ => Thing.monoL hd⟩
theorem LD.setCell {D : Addr → Option AO} {h r f l m hl pl rA fA q : Addr} {hs vs R F : List Value} {kf : Value → Str} {v0 v1 : Option Value} (X : LD w D h r f l m hl pl rA fA hs vs R F kf) (hq : D q = some (.cell v0)) (n1 : h ≠ q) (n2 : r ≠ q) (n3 : f ≠ q) :
    LD w (upd D q (.cell v1)) h r f l m hl pl rA fA hs vs R F kf := by
  have kl : ∀ a us, D a = some (.list us) → upd D q (.cell v1) a = some (.list us) := fun a us e => (upd_ne fun z => by rw [z, hq] at e; cases e).trans e
  have ko : ∀ a o, D a = some (.obj o) → upd D q (.cell v1) a = some (.obj o) := fun a us e => (upd_ne fun z => by rw [z, hq] at e; cases e).trans e
  have kc : ∀ a, (∃ v, D a = some (.cell v)) → ∃ v, upd D q (.cell v1) a = some (.cell v) := fun a ⟨v, e⟩ => by
    by_cases z : a = q
    · rw [z]; exact ⟨v1, upd_self⟩
    · exact ⟨v, (upd_ne z).trans e⟩
  refine ⟨(upd_ne n1).trans X.ch, kl _ _ X.dh, kl _ _ X.dp, (upd_ne n2).trans X.cr, kl _ _ X.dr, (upd_ne n3).trans X.cf, kl _ _ X.df, kc _ X.cl, kc _ X.cm, fun i v e => ?_, fun v hv => ?_⟩
  · obtain ⟨a, d, o, t, x, e1, e2, e3, e4, e5⟩ := X.pr i v e
    exact ⟨a, d, o, t, x, e1, kl _ _ e2, e3, ko _ _ e4, e5⟩
  · obtain ⟨a, x, y, T, e1, e2, e3, e4⟩ := X.kp v hv
    exact ⟨a, x, y, T, e1, kl _ _ e2, e3.monoL kl, e4⟩
end
end
section
open PySem PySem.W PyProof.Rows
section
/-- all that law wants of the top -/
structure TopW (hb : Heap) (cd P : Addr) (mg : Str → Option Value) : Prop where
  L : TopL hb
  H : TopH hb
  N : TopN hb
  S : TopS hb
  repr : GNm hb "repr" (.builtin "repr")
  lam : LamTop hb cd P mg
  sr : ∃ f dV, FnOk hb 2 "safe_repr" f dV ∧ ∃ T o m, dV = .ref T ∧ hb.get? T = some o ∧ o.data = .seq #[.bool false] m
  ns : ∃ f dV, FnOk hb 12 "nsmallest" f dV ∧ ∃ T o m, dV = .ref T ∧ hb.get? T = some o ∧ o.data = .seq #[.none] m
  nl : ∃ f dV, FnOk hb 13 "nlargest" f dV ∧ ∃ T o m, dV = .ref T ∧ hb.get? T = some o ∧ o.data = .seq #[.none] m
  things : ∃ f, FnOk hb 15 "_law_things" f .none
  held : ∃ f, FnOk hb 16 "_law_held" f .none
theorem codeAmong_app {a b : Int} {x : Value} {pos : Pos} (l : List Value) (h : TriplesOk l) :
    codeAmong pos (l ++ [rawInt a, rawInt b, x]) = match codeAmong pos l with | some y => some y | none => if a == pos.line && b == pos.col then some x else none := by
  fun_induction TriplesOk l with
  | case1 =>
    show codeAmong pos [rawInt a, rawInt b, x] = _
    unfold rawInt codeAmong
    split <;> simp_all [codeAmong]
  | case2 a' t b' u y rest ih =>
    simp only [List.cons_append, codeAmong]
    split
    · rfl
    · exact ih h
  | case3 l h1 h2 => exact h.elim
/-- the law's table of codes -/
noncomputable def Tab (D : Addr → Option AO) (P : Addr) (qual : Str) : Prop := ∃ ps : Array Value, D P = some (.obj (tabObj ps)) ∧ TriplesOk ps.toList ∧
  ∀ pos, codeAmong pos ps.toList = none ∨ ∃ c' oc cvs tq, codeAmong pos ps.toList = some (.ref c') ∧ D c' = some (.obj oc) ∧ c' ≠ P ∧ oc.data = .fields cvs ∧ cvs[1]? = some (.str qual tq)
end
end
section
open PySem PySem.W PyProof.Rows
section
variable {w : World} {c : Cf} {A : Around}
theorem Tab.mono {D D' : Addr → Option AO} {P : Addr} {qual : Str} (h : Tab D P qual) (hd : ∀ a x, D a = some x → D' a = some x) : Tab D' P qual := by
  obtain ⟨ps, e, t, q⟩ := h
  refine ⟨ps, hd _ _ e, t, fun pos => ?_⟩
  rcases q pos with q | ⟨c', oc, cvs, tq, e1, e2, e3, e4, e5⟩
  · exact .inl q
  · exact .inr ⟨c', oc, cvs, tq, e1, hd _ _ e2, e3, e4, e5⟩
theorem Tab.but {D D' : Addr → Option AO} {P q : Addr} {y : AO} {qual : Str} (h : Tab D P qual) (hq : D q = some y) (hy : ∀ o, y ≠ .obj o) (hd : ∀ a x, D a = some x → a ≠ q → D' a = some x) : Tab D' P qual := by
  obtain ⟨ps, e, t, g⟩ := h
  have ne : ∀ a o, D a = some (.obj o) → a ≠ q := fun a o e z => by rw [z, hq] at e; cases e; exact hy o rfl
  refine ⟨ps, hd _ _ e (ne _ _ e), t, fun pos => ?_⟩
  rcases g pos with g | ⟨c', oc, cvs, tq, e1, e2, e3, e4, e5⟩
  · exact .inl g
  · exact .inr ⟨c', oc, cvs, tq, e1, hd _ _ e2 (ne _ _ e2), e3, e4, e5⟩
/-- a lambda of law -/
theorem lam_make {σ : St} {params : Arguments} {body : Expr} {scope : Scope} {pos : Pos} {cd P : Addr} {mg : Str → Option Value} {qual : Str} {Q : Value → St → Prop} (L : LamTop c.hb cd P mg) (hcode : c.env.code = .ref cd) (hq : c.env.qual ++ "<lambda>" = qual) (hcl : closureFor scope c.env = Pure.pure [])
    (hdef : defaultsOf params c.env = ([], [])) (hT : Tab σ.D P qual)
    (h : ∀ fn c' oc cvs tq pm ctv D', (∀ a x, σ.D a = some x → a ≠ P → D' a = some x) → Tab D' P qual → D' fn = some (.obj (kla_obj "<lambda>" qual params body scope [] pm c' ctv)) → D' c' = some (.obj oc) → oc.data = .fields cvs → cvs[1]? = some (.str qual tq) → Q (.ref fn) ⟨σ.v, D'⟩) :
    WP prg w c A (eval (.Lambda params body scope pos) c.env) Q σ := by
  obtain ⟨ps, e, t, g⟩ := hT
  subst hq
  rcases g pos with g0 | ⟨c', oc, cvs, tq, e1, e2, e3, e4, e5⟩
  · refine WP.lambda L hcode hcl hdef e t g0 fun fn c' oc cvs tq pm ctv nf nc fc hd hv => ?_
    have cP : c' ≠ P := fun z => by rw [← z, nc.d] at e; cases e
    have fP : fn ≠ P := fun z => by rw [← z, nf.d] at e; cases e
    have keep : ∀ a x, σ.D a = some x → a ≠ P → upd (upd (upd σ.D P (.obj (tabObj (ps ++ #[rawInt pos.line, rawInt pos.col, .ref c'])))) c' (.obj oc)) fn (.obj (kla_obj "<lambda>" (c.env.qual ++ "<lambda>") params body scope [] pm c' ctv)) a = some x := fun a x e z => by
      rw [upd_ne (fun k => by rw [k, nf.d] at e; cases e), upd_ne (fun k => by rw [k, nc.d] at e; cases e), upd_ne z, e]
    have hc' : upd (upd (upd σ.D P (.obj (tabObj (ps ++ #[rawInt pos.line, rawInt pos.col, .ref c'])))) c' (.obj oc)) fn (.obj (kla_obj "<lambda>" (c.env.qual ++ "<lambda>") params body scope [] pm c' ctv)) c' = some (.obj oc) := by
      rw [upd_ne fc.symm, upd_self]
    have hl : (ps ++ #[rawInt pos.line, rawInt pos.col, Value.ref c']).toList = ps.toList ++ [rawInt pos.line, rawInt pos.col, .ref c'] := by simp
    refine h fn c' oc cvs tq pm ctv _ keep ⟨ps ++ #[rawInt pos.line, rawInt pos.col, .ref c'], by rw [upd_ne fP.symm, upd_ne cP.symm, upd_self], by rw [hl]; exact TriplesOk_snoc _ _ _ _ t, fun pos' => ?_⟩ upd_self hc' hd hv
    rw [hl, codeAmong_app _ t]
    rcases g pos' with g1 | ⟨c1, oc1, cvs1, tq1, e1, e2, e3, e4, e5⟩
    · rw [g1]
      dsimp only
      split
      · exact .inr ⟨c', oc, cvs, tq, rfl, hc', cP, hd, hv⟩
      · exact .inl rfl
    · rw [e1]
      exact .inr ⟨c1, oc1, cvs1, tq1, rfl, keep _ _ e2 e3, e3, e4, e5⟩
  · refine WP.lambdaHit L hcode hcl hdef e t e1 fun fn pm ctv nf => ?_
    have keep : ∀ a x, σ.D a = some x → upd σ.D fn (.obj (kla_obj "<lambda>" (c.env.qual ++ "<lambda>") params body scope [] pm c' ctv)) a = some x := upd_le nf.d
    exact h fn c' oc cvs tq pm ctv _ (fun a x q _ => keep a x q) (Tab.mono ⟨ps, e, t, g⟩ keep) upd_self (keep _ _ e2) e4 e5
theorem LD.but {D D' : Addr → Option AO} {h r f l m hl pl rA fA q : Addr} {hs vs R F : List Value} {kf : Value → Str} {y : AO} (X : LD w D h r f l m hl pl rA fA hs vs R F kf) (hq : D q = some y) (y1 : ∀ us, y ≠ .list us) (y2 : ∀ v, y ≠ .cell v) (y3 : ∀ o es ep, y = .obj o → o.data ≠ .dict es ep)
    (hd : ∀ a x, D a = some x → a ≠ q → D' a = some x) : LD w D' h r f l m hl pl rA fA hs vs R F kf := by
  have kl : ∀ a us, D a = some (.list us) → D' a = some (.list us) := fun a us e => hd _ _ e fun z => by rw [z, hq] at e; cases e; exact y1 us rfl
  have kc : ∀ a v, D a = some (.cell v) → D' a = some (.cell v) := fun a us e => hd _ _ e fun z => by rw [z, hq] at e; cases e; exact y2 us rfl
  refine ⟨kc _ _ X.ch, kl _ _ X.dh, kl _ _ X.dp, kc _ _ X.cr, kl _ _ X.dr, kc _ _ X.cf, kl _ _ X.df, let ⟨v, e⟩ := X.cl; ⟨v, kc _ _ e⟩, let ⟨v, e⟩ := X.cm; ⟨v, kc _ _ e⟩, fun i v e => ?_, fun v hv => ?_⟩
  · obtain ⟨a, d, o, t, x, e1, e2, e3, e4, e5⟩ := X.pr i v e
    refine ⟨a, d, o, t, x, e1, kl _ _ e2, e3, hd _ _ e4 fun z => ?_, e5⟩
    rw [z, hq] at e4; cases e4
    obtain ⟨es, ep, _, q1, _⟩ := e5
    exact y3 _ _ _ rfl q1
  · obtain ⟨a, x, y, T, e1, e2, e3, e4⟩ := X.kp v hv
    exact ⟨a, x, y, T, e1, kl _ _ e2, e3.monoL kl, e4⟩
theorem LD.tab {D D' : Addr → Option AO} {h r f l m hl pl rA fA P : Addr} {hs vs R F : List Value} {kf : Value → Str} {qual : Str} (X : LD w D h r f l m hl pl rA fA hs vs R F kf) (hT : Tab D P qual) 
    (hd : ∀ a x, D a = some x → a ≠ P → D' a = some x) : LD w D' h r f l m hl pl rA fA hs vs R F kf := by
  obtain ⟨ps, e, _⟩ := hT
  exact X.but e (fun _ => by simp) (fun _ => by simp) (fun o es ep z => by cases z; simp [tabObj]) hd
end
end
section
open PySem PySem.W PyProof.Rows
section
variable {w : World} {c : Cf} {A : Around}
noncomputable def cntBody : List Stmt := match (bodyAt 17).drop 5 with | .For _ _ b _ _ :: _ => b | _ => []
@[reducible] noncomputable def lamQ : Str := "law.<locals>.<lambda>"
/-- what law's frame is, beyond its cells -/
structure LF (c : Cf) (A : Around) (cd P : Addr) (mg : Str → Option Value) (h r f p l m : Addr) : Prop where
  T : TopW c.hb cd P mg
  C : LC c h r f p l m
  code : c.env.code = .ref cd
  qual : c.env.qual ++ "<lambda>" = lamQ
  hh : A.handled = none
  hg : A.guards = some []
  hu : A.units + 60 < cLine
  hd : A.depth + 10 < recursionLimit
  lh : h ≠ l
  lr : r ≠ l
  lf : f ≠ l
  lm : l ≠ m
  mh : h ≠ m
  mr : r ≠ m
  mf : f ≠ m
theorem ne_of_new {D₀ : Addr → Option AO} {a b : Addr} {x : AO} (h : D₀ a = none) (hb : D₀ b = some x) : a ≠ b := fun z => by rw [z, hb] at h; cases h
theorem kp_ref {D : Addr → Option AO} {kf : Value → Str} {vs : List Value} (hk : ∀ v ∈ vs, KP D kf v) : ∀ v ∈ vs, ∃ a xs, v = .ref a ∧ D a = some (.list xs) := fun v hv => by
  obtain ⟨a, x, y, T, e1, e2, _⟩ := hk v hv
  exact ⟨a, _, e1, e2⟩
set_option maxHeartbeats 2000000 in
theorem cnt_body {cd P h r f p l m hl pl rA fA : Addr} {mg : Str → Option Value} {hs vs R F : List Value} {kf : Value → Str} {s0 a0 : Option Value} {n : Nat} {t : Tok} {D : Addr → Option AO} {Q : Flow → St → Prop} (Z : LF c A cd P mg h r f p l m)
    (X : LD w D h r f l m hl pl rA fA hs vs R F kf) (hT : Tab D P lamQ) (nd : vs.Nodup) (h64 : vs.length < 64) (hR : R.Perm vs) (hR2 : R.Pairwise (RR vs kf false)) (hF : F.Perm vs) (hF2 : F.Pairwise (RR vs kf true)) (hn : n ≤ vs.length)
    (hq : ∀ vv D', vv = [s0, some (.ref pl), a0, some (.int n t)] → (∀ a x, D a = some x → a ≠ P → a ≠ l → a ≠ m → D' a = some x) → LD w D' h r f l m hl pl rA fA hs vs R F kf → Tab D' P lamQ → Q .next ⟨vv, D'⟩) :
    WP prg w (c.nm nmLW) A (execs cntBody c.env) Q ⟨[s0, some (.ref pl), a0, some (.int n t)], D⟩ := by
  have T := Z.T
  have C := Z.C
  obtain ⟨fs, dvs, hfs, hdvs⟩ := T.sr
  obtain ⟨fn, dvn, hfn, hdvn⟩ := T.ns
  obtain ⟨fm, dvm, hfm, hdvm⟩ := T.nl
  have kL : (c.nm nmLW).env.kindOf (Str.ofString "least") = some .cell := by show c.env.scope.names.lookup (Str.ofString "least") = some .cell; rw [C.sc]; rfl
  have kM : (c.nm nmLW).env.kindOf (Str.ofString "most") = some .cell := by show c.env.scope.names.lookup (Str.ofString "most") = some .cell; rw [C.sc]; rfl
  have kR : (c.nm nmLW).env.kindOf (Str.ofString "rising") = some .cell := by show c.env.scope.names.lookup (Str.ofString "rising") = some .cell; rw [C.sc]; rfl
  have kF : (c.nm nmLW).env.kindOf (Str.ofString "falling") = some .cell := by show c.env.scope.names.lookup (Str.ofString "falling") = some .cell; rw [C.sc]; rfl
  have cL : (c.nm nmLW).env.cells.lookup (Str.ofString "least") = some l := by rw [show (c.nm nmLW).env.cells = _ from C.cells]; rfl
  have cM : (c.nm nmLW).env.cells.lookup (Str.ofString "most") = some m := by rw [show (c.nm nmLW).env.cells = _ from C.cells]; rfl
  have cR : (c.nm nmLW).env.cells.lookup (Str.ofString "rising") = some r := by rw [show (c.nm nmLW).env.cells = _ from C.cells]; rfl
  have cF : (c.nm nmLW).env.cells.lookup (Str.ofString "falling") = some f := by rw [show (c.nm nmLW).env.cells = _ from C.cells]; rfl
  have hu := Z.hu
  have hdp := Z.hd
  refine WP.execs_cons ?_
  refine WP.cassign kL cL ?_ (by with_unfolding_all rfl)
  walk_at "go"
  refine WP.gname hfn.1 (by show c.env.scope.names.lookup _ = _; rw [C.sc]; rfl) (by decide) ?_
  walk_at "go"
  refine lam_make (c := c.nm nmLW) T.lam Z.code Z.qual (closureFor_none (by decide +kernel)) rfl hT fun g1 c1 o1 v1 t1 pm1 ct1 D1 k1 T1 d1 d1' d1o d1q => ?_
  have X1 := X.tab hT k1
  walk_at "go"
  refine ⟨FnOk.callOk (c := c.nm nmLW) hfn, ?_⟩
  have K1 := lam_key (kf := kf) (P := fun v => v ∈ vs) T.H.lim T.repr hfs hdvs d1 d1' d1o d1q (by rfl) (by rfl) (by decide) rfl rfl rfl (fun v hv => X1.kp v hv) (w := w)
  refine ns_call (c := c.nm nmLW) (D₀ := D1) T.H T.S hfn hdvn ⟨K1, ⟨_, _, d1, rfl⟩, fun _ _ e => e, X1.dp, fun _ q => q, kp_ref X1.kp, nd, h64, hn, Z.hh, Z.hg, by lia, by lia⟩ fun r1 D2 out1 k2 d2 n2 P1 => ?_
  have X2 := X1.mono k2
  have T2 := T1.mono k2
  obtain ⟨l0, e2l⟩ := X2.cl
  refine ⟨l0, e2l, ?_⟩
  obtain ⟨l1, e1l⟩ := X1.cl
  have r1l : r1 ≠ l := ne_of_new n2 e1l
  have X3 := X2.setCell (v1 := some (.ref r1)) e2l Z.lh Z.lr Z.lf
  have T3 : Tab (upd D2 l (.cell (some (.ref r1)))) P lamQ := T2.but e2l (fun _ => by simp) fun a x e z => (upd_ne z).trans e
  have d3 : upd D2 l (.cell (some (.ref r1))) r1 = some (.list out1) := (upd_ne r1l).trans d2
  have d3l : upd D2 l (.cell (some (.ref r1))) l = some (.cell (some (.ref r1))) := upd_self
  have k3 : ∀ a x, D a = some x → a ≠ P → a ≠ l → a ≠ m → upd D2 l (.cell (some (.ref r1))) a = some x := fun a x e z1 z2 _ => (upd_ne z2).trans (k2 _ _ (k1 _ _ e z1))
  dsimp only [seqK, St.put]
  generalize upd D2 l (.cell (some (.ref r1))) = D3 at X3 T3 d3 d3l k3 ⊢
  clear X1 X2 T1 T2 k1 k2 d2 n2 e2l e1l d1 d1' K1
  refine WP.execs_cons ?_
  refine WP.cassign kM cM ?_ (by with_unfolding_all rfl)
  walk_at "go"
  refine WP.gname hfm.1 (by show c.env.scope.names.lookup _ = _; rw [C.sc]; rfl) (by decide) ?_
  walk_at "go"
  refine lam_make (c := c.nm nmLW) T.lam Z.code Z.qual (closureFor_none (by decide +kernel)) rfl T3 fun g4 c4 o4 v4 t4 pm4 ct4 D4 k4 T4 d4 d4' d4o d4q => ?_
  have X4 := X3.tab T3 k4
  have hPne : ∀ a x, D3 a = some x → (∀ o, x ≠ .obj o) → a ≠ P := fun a x e hx z => by
    obtain ⟨ps, e', _⟩ := T3
    rw [z, e'] at e; cases e; exact hx _ rfl
  have d4r := k4 _ _ d3 (hPne _ _ d3 (by simp))
  have d4l := k4 _ _ d3l (hPne _ _ d3l (by simp))
  walk_at "go"
  refine ⟨FnOk.callOk (c := c.nm nmLW) hfm, ?_⟩
  have K4 := lam_key (kf := kf) (P := fun v => v ∈ vs) T.H.lim T.repr hfs hdvs d4 d4' d4o d4q (by rfl) (by rfl) (by decide) rfl rfl rfl (fun v hv => X4.kp v hv) (w := w)
  refine nl_call (c := c.nm nmLW) (D₀ := D4) T.N T.S hfm hdvm ⟨K4, ⟨_, _, d4, rfl⟩, fun _ _ e => e, X4.dp, fun _ q => q, kp_ref X4.kp, nd, h64, hn, Z.hh, Z.hg, by lia, by lia⟩ fun r4 D5 out4 k5 d5 n5 P4 => ?_
  have X5 := X4.mono k5
  have T5 := T4.mono k5
  obtain ⟨m0, e5m⟩ := X5.cm
  refine ⟨m0, e5m, ?_⟩
  obtain ⟨m1, e4m⟩ := X4.cm
  have r4m : r4 ≠ m := ne_of_new n5 e4m
  have r1m : r1 ≠ m := fun z => by rw [z, e4m] at d4r; cases d4r
  have X6 := X5.setCell (v1 := some (.ref r4)) e5m Z.mh Z.mr Z.mf
  have T6 : Tab (upd D5 m (.cell (some (.ref r4)))) P lamQ := T5.but e5m (fun _ => by simp) fun a x e z => (upd_ne z).trans e
  have d6 : upd D5 m (.cell (some (.ref r4))) r4 = some (.list out4) := (upd_ne r4m).trans d5
  have d6m : upd D5 m (.cell (some (.ref r4))) m = some (.cell (some (.ref r4))) := upd_self
  have d6r : upd D5 m (.cell (some (.ref r4))) r1 = some (.list out1) := (upd_ne r1m).trans (k5 _ _ d4r)
  have d6l : upd D5 m (.cell (some (.ref r4))) l = some (.cell (some (.ref r1))) := (upd_ne Z.lm).trans (k5 _ _ d4l)
  have k6 : ∀ a x, D a = some x → a ≠ P → a ≠ l → a ≠ m → upd D5 m (.cell (some (.ref r4))) a = some x := fun a x e z1 z2 z3 => (upd_ne z3).trans (k5 _ _ (k4 _ _ (k3 _ _ e z1 z2 z3) z1))
  dsimp only [seqK, St.put]
  generalize upd D5 m (.cell (some (.ref r4))) = D6 at X6 T6 d6 d6m d6r d6l k6 ⊢
  clear X3 X4 X5 T3 T4 T5 k3 k4 k5 d5 n5 e5m e4m d4 d4' K4 d3 d3l d4r d4l hPne
  have eq1 : out1 = R.take n := P1.take nd hR hR2
  have eq4 : out4 = F.take n := P4.take nd hF hF2
  subst eq1 eq4
  have hRl := hR.length_eq
  have hFl := hF.length_eq
  refine WP.execs_cons ?_
  walk_at "go"
  refine WP.cname kL cL d6l ?_
  walk_at "go"
  refine WP.cname kR cR X6.cr ?_
  walk_at "go"
  refine WP.slice ?_
  refine WP.pure ?_
  show WP _ _ _ _ (eval (.Name (Str.ofString "count") _) _) _ _
  walk_at "go"
  intro sl hsl
  walk_at "go"
  have nsl : D6 sl = none := hsl.d
  have X7 := X6.mono (upd_le (x := slcO .none (.int n t)) nsl)
  refine WP.cut (vs := R) X7.dr upd_self .none (.int _ _) (by lia) fun b1 hb1 => ?_
  rw [slicePick_upto']
  dsimp only [St.put]
  have nb1 : upd D6 sl (slcO .none (.int n t)) b1 = none := hb1.d
  have kb : ∀ a x, D6 a = some x → upd (upd D6 sl (slcO .none (.int n t))) b1 (.list (R.take n)) a = some x := fun a x e => upd_le nb1 _ _ (upd_le nsl _ _ e)
  refine WP.neL (by lia) (kb _ _ d6r) upd_self rfl (fun i v u e1 e2 => .inl (by rw [e1] at e2; injection e2)) ?_
  walk_at "go"
  have X8 := X6.mono kb
  have T8 := T6.mono kb
  have d8 := kb _ _ d6
  have d8m := kb _ _ d6m
  have d8r := kb _ _ d6r
  have d8l := kb _ _ d6l
  have k8 : ∀ a x, D a = some x → a ≠ P → a ≠ l → a ≠ m → upd (upd D6 sl (slcO .none (.int n t))) b1 (.list (R.take n)) a = some x := fun a x e z1 z2 z3 => kb _ _ (k6 _ _ e z1 z2 z3)
  generalize upd (upd D6 sl (slcO .none (.int n t))) b1 (.list (R.take n)) = D8 at X8 T8 d8 d8m d8r d8l k8 ⊢
  clear X6 X7 T6 d6 d6m d6r d6l k6 kb nb1 hb1 nsl hsl
  refine WP.cname kM cM d8m ?_
  walk_at "go"
  refine WP.cname kF cF X8.cf ?_
  walk_at "go"
  refine WP.slice ?_
  refine WP.pure ?_
  show WP _ _ _ _ (eval (.Name (Str.ofString "count") _) _) _ _
  walk_at "go"
  intro sl hsl
  walk_at "go"
  have nsl : D8 sl = none := hsl.d
  have X9 := X8.mono (upd_le (x := slcO .none (.int n t)) nsl)
  refine WP.cut (vs := F) X9.df upd_self .none (.int _ _) (by lia) fun b1 hb1 => ?_
  rw [slicePick_upto']
  dsimp only [St.put]
  have nb1 : upd D8 sl (slcO .none (.int n t)) b1 = none := hb1.d
  have kb : ∀ a x, D8 a = some x → upd (upd D8 sl (slcO .none (.int n t))) b1 (.list (F.take n)) a = some x := fun a x e => upd_le nb1 _ _ (upd_le nsl _ _ e)
  refine WP.neL (by lia) (kb _ _ d8) upd_self rfl (fun i v u e1 e2 => .inl (by rw [e1] at e2; injection e2)) ?_
  walk_at "go"
  have Xa := X8.mono kb
  have Ta := T8.mono kb
  have da := kb _ _ d8
  have dam := kb _ _ d8m
  have dar := kb _ _ d8r
  have dal := kb _ _ d8l
  have ka : ∀ a x, D a = some x → a ≠ P → a ≠ l → a ≠ m → upd (upd D8 sl (slcO .none (.int n t))) b1 (.list (F.take n)) a = some x := fun a x e z1 z2 z3 => kb _ _ (k8 _ _ e z1 z2 z3)
  generalize upd (upd D8 sl (slcO .none (.int n t))) b1 (.list (F.take n)) = Da at Xa Ta da dam dar dal ka ⊢
  clear X8 X9 T8 d8 d8m d8r d8l k8 kb nb1 hb1 nsl hsl
  have co : ∀ x a, (c.nm nmLW).env.cells.lookup x = some a → cellOf (c.nm nmLW).env x = Pure.pure a := fun x a e => by unfold cellOf; rw [e]
  refine WP.listComp (names := ["k"]) (cl := [(Str.ofString "rising", r), (Str.ofString "most", m), (Str.ofString "least", l), (Str.ofString "falling", f)]) ⟨rfl, by decide +kernel, by decide +kernel, by decide +kernel, by decide +kernel, by decide +kernel⟩ ?_ ?_
  · unfold closureFor
    simp only [List.forIn_cons, List.forIn_nil]
    rw [co _ _ cL, co _ _ cM, co _ _ cR, co _ _ cF]
    rfl
  walk_at "go"
  refine WP.gname T.H.range (by show c.env.scope.names.lookup _ = _; rw [C.sc]; rfl) (by decide) ?_
  walk_at "go"
  refine WP.range1 fun rg u1 u2 hrg => ?_
  walk_at "go"
  refine WP.iterRange upd_self (range_small (by lia)) fun it hit => ?_
  rw [show Builtin.Range.rangeSize 0 (n : Int) 1 = (n : Int) by rw [rangeSize_one]; split <;> lia]
  intro acc hacc c' C' g1 g2
  dsimp only [St.put]
  have nrg : Da rg = none := hrg.d
  have kg := upd_le (x := rngO 0 (n : Int) 1 u1 t u2) nrg
  have nit : upd Da rg (rngO 0 (n : Int) 1 u1 t u2) it = none := hit.d
  have i_a : it ≠ acc := hacc.ne upd_self
  have nacc : upd Da rg (rngO 0 (n : Int) 1 u1 t u2) acc = none := hacc.off (upd_le nit)
  have hck : ∀ x, (Str.ofString "least" = x ∨ Str.ofString "rising" = x ∨ Str.ofString "most" = x ∨ Str.ofString "falling" = x) → c'.env.kindOf x = some .cell := by
    intro x hx
    rw [g1]
    show List.lookup _ (List.map _ _) = _
    simp only [List.map]
    rw [kL, kM, kR, kF, show (c.nm nmLW).env.scope.kind = .function by show c.env.scope.kind = _; rw [C.sc]; rfl]
    rcases hx with rfl | rfl | rfl | rfl <;> rfl
  refine WC.compStart (fun P hp => WP.iterRit ((upd_ne i_a).trans upd_self) hp) ?_
  refine comp_bad (L := R.take n) (R := R) (M := F.take n) (F := F) Z.hh (by lia) ⟨l, hck _ (.inl rfl), by rw [g1]; rfl, kg _ _ dal, kg _ _ dar⟩ ⟨r, hck _ (.inr (.inl rfl)), by rw [g1]; rfl, kg _ _ Xa.cr, kg _ _ Xa.dr⟩
    ⟨m, hck _ (.inr (.inr (.inl rfl))), by rw [g1]; rfl, kg _ _ dam, kg _ _ da⟩ ⟨f, hck _ (.inr (.inr (.inr rfl))), by rw [g1]; rfl, kg _ _ Xa.cf, kg _ _ Xa.df⟩ (take_refs (by lia) fun v hv => ?_) (take_refs (by lia) fun v hv => ?_) nit nacc i_a fun v D' hD hacc' => ?_
  · obtain ⟨a, _, e, _⟩ := kp_ref Xa.kp v (hR.mem_iff.mp hv); exact ⟨a, e⟩
  · obtain ⟨a, _, e, _⟩ := kp_ref Xa.kp v (hF.mem_iff.mp hv); exact ⟨a, e⟩
  walk_at "go"
  intro em hem
  dsimp only [St.put]
  have nem : D' em = none := hem.d
  have kE : ∀ a x, Da a = some x → upd D' em (.list []) a = some x := fun a x e => upd_le nem _ _ (hD _ _ (kg _ _ e))
  refine WP.neL (by lia) ((upd_ne (hem.ne hacc')).trans hacc') upd_self rfl (fun i v u e1 e2 => by simp at e1) ?_
  walk_at "go"
  exact hq _ _ rfl (fun a x e z1 z2 z3 => kE _ _ (ka _ _ e z1 z2 z3)) (Xa.mono kE) (Ta.mono kE)
end
end
section
open PySem PySem.W PyProof.Rows
section
variable {w : World} {c : Cf} {A : Around}
set_option maxHeartbeats 2000000 in
theorem law_c {cd P h r f p l m hl pl rA fA sc : Addr} {mg : Str → Option Value} {hs vs R F xs : List Value} {kf : Value → Str} {a0 n0 : Option Value} {D : Addr → Option AO} {Q : Flow → St → Prop} (Z : LF c A cd P mg h r f p l m)
    (X : LD w D h r f l m hl pl rA fA hs vs R F kf) (hT : Tab D P lamQ) (nd : vs.Nodup) (h64 : vs.length < 64) (hlen : vs.length = hs.length) (hR : R.Perm vs) (hR2 : R.Pairwise (RR vs kf false)) (hF : F.Perm vs) (hF2 : F.Pairwise (RR vs kf true))
    (hsc : c.hb.IsList sc xs.toArray) (hxs : ∀ v ∈ xs, ∃ i t, v = .int i t)
    (hq : ∀ vv D', Tab D' P lamQ → Q (.ret (.bool true)) ⟨vv, D'⟩) :
    WP prg w (c.nm nmLW) A (execs ((bodyAt 17).drop 5) c.env) Q ⟨[some (.ref sc), some (.ref pl), a0, n0], D⟩ := by
  have T := Z.T
  have C := Z.C
  have hu := Z.hu
  refine WP.execs_cons ?_
  walk_at "go"
  refine WP.gname T.L.sum (by show c.env.scope.names.lookup _ = _; rw [C.sc]; rfl) (by decide) ?_
  walk_at "go"
  refine WP.sumB (c := c.nm nmLW) Z.hh hsc hxs fun S tS => ?_
  walk_at "go"
  refine WP.gname T.H.len (by show c.env.scope.names.lookup _ = _; rw [C.sc]; rfl) (by decide) ?_
  walk_at "go"
  refine WP.len X.dp (by lia) fun _ => ?_
  walk_at "go"
  refine WP.modI (by lia) fun t1 => ?_
  walk_at "go"
  refine WP.gname T.H.len (by show c.env.scope.names.lookup _ = _; rw [C.sc]; rfl) (by decide) ?_
  walk_at "go"
  refine WP.len X.dp (by lia) fun t2 => ?_
  walk_at "go"
  intro cl hcl
  walk_at "go"
  have ncl : D cl = none := hcl.d
  obtain ⟨n1, hn1, e1⟩ : ∃ n1 : Nat, n1 ≤ vs.length ∧ (3 + S) % ((vs.length : Int) + 1) = (n1 : Int) := by
    have a := Int.emod_nonneg (3 + S) (show ((vs.length : Int) + 1) ≠ 0 by lia)
    have b := Int.emod_lt_of_pos (3 + S) (show 0 < ((vs.length : Int) + 1) by lia)
    exact ⟨((3 + S) % ((vs.length : Int) + 1)).toNat, by lia, by lia⟩
  rw [e1]
  refine WP.iterList upd_self fun it hit => ?_
  dsimp only [St.put]
  have nit : upd D cl (.list [.int (n1 : Int) t1, .int vs.length t2]) it = none := hit.d
  have ic : cl ≠ it := hit.ne upd_self
  have i_n : ∀ a x, D a = some x → a ≠ it := fun a x e z => by
    have := upd_le (x := .list [.int (n1 : Int) t1, .int vs.length t2]) ncl _ _ e
    rw [z, nit] at this; cases this
  let I : Nat → St → Prop := fun k σ => ∃ j cv D', σ = ⟨[some (.ref sc), some (.ref pl), a0, cv], D'⟩ ∧ j + k = 2 ∧ LD w D' h r f l m hl pl rA fA hs vs R F kf ∧ Tab D' P lamQ ∧ D' it = some (.lit cl j) ∧ D' cl = some (.list [.int (n1 : Int) t1, .int vs.length t2])
  refine WC.forLoop I ?turn 2 ?start
  case start =>
    have k0 : ∀ a x, D a = some x → upd (upd D cl (.list [.int (n1 : Int) t1, .int vs.length t2])) it (.lit cl 0) a = some x := fun a x e => upd_le nit _ _ (upd_le ncl _ _ e)
    exact ⟨0, n0, _, rfl, rfl, X.mono k0, hT.mono k0, upd_self, (upd_ne ic).trans upd_self⟩
  rintro k σ ⟨j, cv, D', rfl, hj, X', T', hit', hcl'⟩
  cases k with
  | zero =>
    refine WP.nextListEnd Z.hh hit' hcl' (by simp; lia) ?_
    have X2 : LD w (del D' it) h r f l m hl pl rA fA hs vs R F kf := X'.but hit' (fun _ => by simp) (fun _ => by simp) (fun _ _ _ => by simp) fun a x e z => (del_ne z).trans e
    have T2 : Tab (del D' it) P lamQ := T'.but hit' (fun _ => by simp) fun a x e z => (del_ne z).trans e
    exact law_d T.L C Z.hh (by lia) X2.ch X2.dh X2.dp hlen h64 X2.pr fun vv D'' k => hq vv D'' (T2.mono k)
  | succ k =>
    obtain ⟨n, t, hn, hv⟩ : ∃ (n : Nat) (t : Tok), n ≤ vs.length ∧ [Value.int (n1 : Int) t1, .int vs.length t2][j]? = some (.int (n : Int) t) := by
      have : j = 0 ∨ j = 1 := by lia
      rcases this with rfl | rfl
      · exact ⟨n1, t1, hn1, rfl⟩
      · exact ⟨vs.length, t2, Nat.le_refl _, rfl⟩
    refine WP.nextList hit' hcl' hv ?_
    dsimp only [St.put]
    have kk : ∀ a x, D' a = some x → a ≠ it → upd D' it (.lit cl (j + 1)) a = some x := fun a x e z => (upd_ne z).trans e
    have X2 : LD w (upd D' it (.lit cl (j + 1))) h r f l m hl pl rA fA hs vs R F kf := X'.but hit' (fun _ => by simp) (fun _ => by simp) (fun _ _ _ => by simp) kk
    have T2 : Tab (upd D' it (.lit cl (j + 1))) P lamQ := T'.but hit' (fun _ => by simp) kk
    have hit2 : upd D' it (.lit cl (j + 1)) it = some (.lit cl (j + 1)) := upd_self
    have hcl2 := kk _ _ hcl' ic
    generalize upd D' it (.lit cl (j + 1)) = D2 at X2 T2 hit2 hcl2 ⊢
    refine WP.lotName ?_
    refine WP.asgName (by walk_at "ix") ?_
    dsimp only [St.set, List.set]
    refine cnt_body Z X2 T2 nd h64 hR hR2 hF hF2 hn fun vv D3 hvv k3 X3 T3 => ?_
    have off : ∀ a x, D2 a = some x → (∀ o, x ≠ .obj o) → (∀ v, x ≠ .cell v) → D3 a = some x := fun a x e y1 y2 => by
      obtain ⟨ps, eP, _⟩ := T2
      obtain ⟨v1, e1⟩ := X2.cl
      obtain ⟨v2, e2⟩ := X2.cm
      refine k3 _ _ e (fun z => ?_) (fun z => ?_) (fun z => ?_)
      · rw [z, eP] at e; cases e; exact y1 _ rfl
      · rw [z, e1] at e; cases e; exact y2 _ rfl
      · rw [z, e2] at e; cases e; exact y2 _ rfl
    exact ⟨k, by lia, j + 1, _, D3, by rw [hvv], by lia, X3, T3, off _ _ hit2 (by simp) (by simp), off _ _ hcl2 (by simp) (by simp)⟩
end
end
section
open PySem PySem.W PyProof.Rows
section
variable {w : World} {c : Cf} {A : Around}
noncomputable def pairBody : List Stmt := match (bodyAt 17).drop 4 with | .For _ _ b _ _ :: _ => b | _ => []
/-- the heap in law's first loop -/
structure LB (w : World) (D : Addr → Option AO) (P h r f p l m hl pl rA fA : Addr) (hs vs R F : List Value) (kf : Value → Str) (pv : Value) : Prop where
  X : LD w D h r f l m hl pl rA fA hs vs R F kf
  T : Tab D P lamQ
  cp : D p = some (.cell (some pv))
theorem LB.mono {D D' : Addr → Option AO} {P h r f p l m hl pl rA fA : Addr} {hs vs R F : List Value} {kf : Value → Str} {pv : Value} (B : LB w D P h r f p l m hl pl rA fA hs vs R F kf pv) (hd : ∀ a x, D a = some x → D' a = some x) : LB w D' P h r f p l m hl pl rA fA hs vs R F kf pv :=
  ⟨B.X.mono hd, B.T.mono hd, hd _ _ B.cp⟩
/-- more of law's frame -/
structure LG (c : Cf) (A : Around) (cd P : Addr) (mg : Str → Option Value) (h r f p l m : Addr) : Prop where
  Z : LF c A cd P mg h r f p l m
  ph : h ≠ p
  pr : r ≠ p
  pf : f ≠ p
  hr : h ≠ r
  hf : h ≠ f
  rf : r ≠ f
@[reducible] noncomputable def insAt (b : Bool) (kf : Value → Str) (pv : Value) (S : List Value) : List Value := S.take (S.filter fun d => !klt b (kf pv) (kf d)).length ++ [pv] ++ S.drop (S.filter fun d => !klt b (kf pv) (kf d)).length
theorem LD.setR {D : Addr → Option AO} {h r f l m hl pl rA fA n : Addr} {hs vs R F S : List Value} {kf : Value → Str} (X : LD w D h r f l m hl pl rA fA hs vs R F kf) (hn : D n = some (.list S)) (n1 : h ≠ r) (n2 : f ≠ r) :
    LD w (upd D r (.cell (some (.ref n)))) h r f l m hl pl n fA hs vs S F kf := by
  have hq : ∃ v, D r = some (.cell v) := ⟨_, X.cr⟩
  obtain ⟨v0, hq⟩ := hq
  have kl : ∀ a us, D a = some (.list us) → upd D r (.cell (some (.ref n))) a = some (.list us) := fun a us e => (upd_ne fun z => by rw [z, hq] at e; cases e).trans e
  have ko : ∀ a o, D a = some (.obj o) → upd D r (.cell (some (.ref n))) a = some (.obj o) := fun a us e => (upd_ne fun z => by rw [z, hq] at e; cases e).trans e
  have kc : ∀ a, (∃ v, D a = some (.cell v)) → ∃ v, upd D r (.cell (some (.ref n))) a = some (.cell v) := fun a ⟨v, e⟩ => by
    by_cases z : a = r
    · rw [z]; exact ⟨_, upd_self⟩
    · exact ⟨v, (upd_ne z).trans e⟩
  refine ⟨(upd_ne n1).trans X.ch, kl _ _ X.dh, kl _ _ X.dp, upd_self, kl _ _ hn, (upd_ne n2).trans X.cf, kl _ _ X.df, kc _ X.cl, kc _ X.cm, fun i v e => ?_, fun v hv => ?_⟩
  · obtain ⟨a, d, o, t, x, e1, e2, e3, e4, e5⟩ := X.pr i v e
    exact ⟨a, d, o, t, x, e1, kl _ _ e2, e3, ko _ _ e4, e5⟩
  · obtain ⟨a, x, y, T, e1, e2, e3, e4⟩ := X.kp v hv
    exact ⟨a, x, y, T, e1, kl _ _ e2, e3.monoL kl, e4⟩
set_option maxHeartbeats 2000000 in
theorem ins_rising {cd P h r f p l m hl pl rA fA : Addr} {mg : Str → Option Value} {hs vs R F : List Value} {kf : Value → Str} {s0 n0 av : Option Value} {pv : Value} {D : Addr → Option AO} {Q : Flow → St → Prop} (G : LG c A cd P mg h r f p l m)
    (B : LB w D P h r f p l m hl pl rA fA hs vs R F kf pv) (h64 : R.length < 60) (hRm : ∀ v ∈ R, v ∈ vs) (hpv : pv ∈ vs)
    (hq : ∀ n t D' b, (∀ a x, D a = some x → a ≠ r → D' a = some x) → LB w D' P h r f p l m hl pl b fA hs vs (insAt false kf pv R) F kf pv → WP prg w (c.nm nmLW) A (execs (pairBody.drop (0 + 2)) c.env) Q ⟨[s0, some (.ref pl), some (.int n t), n0], D'⟩) :
    WP prg w (c.nm nmLW) A (execs (pairBody.drop 0) c.env) Q ⟨[s0, some (.ref pl), av, n0], D⟩ := by
  have Z := G.Z
  have T := Z.T
  have C := Z.C
  obtain ⟨fh, hfh⟩ := T.held
  have kR : (c.nm nmLW).env.kindOf (Str.ofString "rising") = some .cell := by show c.env.scope.names.lookup (Str.ofString "rising") = some .cell; rw [C.sc]; rfl
  have kP : (c.nm nmLW).env.kindOf (Str.ofString "pair") = some .cell := by show c.env.scope.names.lookup (Str.ofString "pair") = some .cell; rw [C.sc]; rfl
  have cR : (c.nm nmLW).env.cells.lookup (Str.ofString "rising") = some r := by rw [show (c.nm nmLW).env.cells = _ from C.cells]; rfl
  have cP : (c.nm nmLW).env.cells.lookup (Str.ofString "pair") = some p := by rw [show (c.nm nmLW).env.cells = _ from C.cells]; rfl
  have co : ∀ x a, (c.nm nmLW).env.cells.lookup x = some a → cellOf (c.nm nmLW).env x = Pure.pure a := fun x a e => by unfold cellOf; rw [e]
  have hu := Z.hu
  have hdp := Z.hd
  refine WP.execs_cons ?_
  walk_at "go"
  refine WP.gname T.H.len (by show c.env.scope.names.lookup _ = _; rw [C.sc]; rfl) (by decide) ?_
  walk_at "go"
  refine WP.listComp (names := ["done"]) (cl := [(Str.ofString "pair", p)]) ⟨rfl, by decide +kernel, by decide +kernel, by decide +kernel, by decide +kernel, by decide +kernel⟩ ?_ ?_
  · unfold closureFor
    simp only [List.forIn_cons, List.forIn_nil]
    rw [co _ _ cP]
    rfl
  refine WP.cname kR cR B.X.cr ?_
  refine WP.iterList B.X.dr fun it hit => ?_
  intro acc hacc c' C' g1 g2
  dsimp only [St.put]
  have nit : D it = none := hit.d
  have i_a : it ≠ acc := hacc.ne upd_self
  have nacc : D acc = none := hacc.off (upd_le nit)
  have hck : c'.env.kindOf (Str.ofString "pair") = some .cell := by
    rw [g1]
    show List.lookup _ (List.map _ _) = _
    simp only [List.map]
    rw [kP, show (c.nm nmLW).env.scope.kind = .function by show c.env.scope.kind = _; rw [C.sc]; rfl]
    rfl
  have hgk : c'.env.kindOf (Str.ofString "_law_held") = some .globalImplicit := by
    rw [g1]
    show List.lookup _ (List.map _ _) = _
    simp only [List.map]
    rw [kP, show (c.nm nmLW).env.scope.kind = .function by show c.env.scope.kind = _; rw [C.sc]; rfl]
    rfl
  have g2' : c'.hb = c.hb := g2
  refine WC.compStart (fun P hp => WP.iterLit (l := rA) (i := 0) ((upd_ne i_a).trans upd_self) hp) ?_
  refine comp_cnt (b := false) (kf := kf) (pv := pv) rfl (by rw [g2']; exact hfh) (by rw [g2']; exact T.L.D) Z.hh (by lia) (by lia) (by lia) hgk hck (by rw [g1]; rfl) B.cp (B.X.kp _ hpv) B.X.dr (fun v hv => B.X.kp _ (hRm v hv)) nit nacc i_a fun v D1 hD1 hacc1 => ?_
  have B1 := B.mono hD1
  have hkl := List.length_filter_le (fun d => !klt false (kf pv) (kf d)) R
  walk_at "go"
  refine WP.len hacc1 (by lia) fun t => ?_
  dsimp only [seqK, St.set, List.set]
  dsimp only [insAt] at hq
  generalize (R.filter fun d => !klt false (kf pv) (kf d)).length = k at hkl hq ⊢
  refine WP.execs_cons ?_
  refine WP.cassign kR cR ?_ (by with_unfolding_all rfl)
  walk_at "go"
  refine WP.cname kR cR B1.X.cr ?_
  walk_at "go"
  refine WP.slice ?_
  refine WP.pure ?_
  show WP _ _ _ _ (eval (.Name (Str.ofString "ahead") _) _) _ _
  walk_at "go"
  intro s1 hs1
  walk_at "go"
  have ns1 : D1 s1 = none := hs1.d
  have B2 := B1.mono (upd_le (x := slcO .none (.int k t)) ns1)
  refine WP.cut (vs := R) B2.X.dr upd_self .none (.int _ _) (by lia) fun b1 hb1 => ?_
  rw [slicePick_upto']
  have nb1 : upd D1 s1 (slcO .none (.int k t)) b1 = none := hb1.d
  have k1 : ∀ a x, D1 a = some x → upd (upd D1 s1 (slcO .none (.int k t))) b1 (.list (R.take k)) a = some x := fun a x e => upd_le nb1 _ _ (upd_le ns1 _ _ e)
  have B3 := B1.mono k1
  have db1 : upd (upd D1 s1 (slcO .none (.int k t))) b1 (.list (R.take k)) b1 = some (.list (R.take k)) := upd_self
  dsimp only [St.put]
  generalize upd (upd D1 s1 (slcO .none (.int k t))) b1 (.list (R.take k)) = D3 at k1 B3 db1 ⊢
  walk_at "go"
  refine WP.cname kP cP B3.cp ?_
  walk_at "go"
  intro b2 hb2
  dsimp only [St.put]
  have nb2 : D3 b2 = none := hb2.d
  have k2 := upd_le (x := .list [pv]) nb2
  refine WP.addL (k2 _ _ db1) upd_self (by simp; lia) fun b3 hb3 => ?_
  dsimp only [St.put]
  have nb3 : upd D3 b2 (.list [pv]) b3 = none := hb3.d
  have k3 : ∀ a x, D3 a = some x → upd (upd D3 b2 (.list [pv])) b3 (.list (R.take k ++ [pv])) a = some x := fun a x e => upd_le nb3 _ _ (k2 _ _ e)
  have B4 := B3.mono k3
  have db3 : upd (upd D3 b2 (.list [pv])) b3 (.list (R.take k ++ [pv])) b3 = some (.list (R.take k ++ [pv])) := upd_self
  have k13 : ∀ a x, D1 a = some x → upd (upd D3 b2 (.list [pv])) b3 (.list (R.take k ++ [pv])) a = some x := fun a x e => k3 _ _ (k1 _ _ e)
  generalize upd (upd D3 b2 (.list [pv])) b3 (.list (R.take k ++ [pv])) = D4 at k13 B4 db3 ⊢
  walk_at "go"
  refine WP.cname kR cR B4.X.cr ?_
  walk_at "go"
  refine WP.slice ?_
  show WP _ _ _ _ (eval (.Name (Str.ofString "ahead") _) _) _ _
  walk_at "go"
  refine WP.pure ?_
  intro s2 hs2
  walk_at "go"
  have ns2 : D4 s2 = none := hs2.d
  have B5 := B4.mono (upd_le (x := slcO (.int k t) .none) ns2)
  refine WP.cut (vs := R) B5.X.dr upd_self (.int _ _) .none (by lia) fun b4 hb4 => ?_
  rw [slicePick_from']
  dsimp only [St.put]
  have nb4 : upd D4 s2 (slcO (.int k t) .none) b4 = none := hb4.d
  have k5 : ∀ a x, D4 a = some x → upd (upd D4 s2 (slcO (.int k t) .none)) b4 (.list (R.drop k)) a = some x := fun a x e => upd_le nb4 _ _ (upd_le ns2 _ _ e)
  have B6 := B4.mono k5
  have db4 : upd (upd D4 s2 (slcO (.int k t) .none)) b4 (.list (R.drop k)) b4 = some (.list (R.drop k)) := upd_self
  have db5 := k5 _ _ db3
  generalize upd (upd D4 s2 (slcO (.int k t) .none)) b4 (.list (R.drop k)) = D6 at k5 B6 db4 db5 ⊢
  walk_at "go"
  refine WP.addL db5 db4 (by simp; lia) fun b5 hb5 => ?_
  dsimp only [St.put]
  have nb5 : D6 b5 = none := hb5.d
  have k6 := upd_le (x := .list (R.take k ++ [pv] ++ R.drop k)) nb5
  have B7 := B6.mono k6
  have d7 : upd D6 b5 (.list (R.take k ++ [pv] ++ R.drop k)) b5 = some (.list (R.take k ++ [pv] ++ R.drop k)) := upd_self
  have k7 : ∀ a x, D a = some x → upd D6 b5 (.list (R.take k ++ [pv] ++ R.drop k)) a = some x := fun a x e => k6 _ _ (k5 _ _ (k13 _ _ (hD1 _ _ e)))
  generalize upd D6 b5 (.list (R.take k ++ [pv] ++ R.drop k)) = D7 at B7 d7 k7 ⊢
  refine ⟨_, B7.X.cr, ?_⟩
  try dsimp only [seqK, St.put]
  refine hq k t _ b5 (fun a x e z => (upd_ne z).trans (k7 _ _ e)) ⟨B7.X.setR d7 G.hr G.rf.symm, B7.T.but B7.X.cr (fun _ => by simp) fun a x e z => (upd_ne z).trans e, (upd_ne G.pr.symm).trans B7.cp⟩
theorem LD.setF {D : Addr → Option AO} {h r f l m hl pl rA fA n : Addr} {hs vs R F S : List Value} {kf : Value → Str} (X : LD w D h r f l m hl pl rA fA hs vs R F kf) (hn : D n = some (.list S)) (n1 : h ≠ f) (n2 : r ≠ f) :
    LD w (upd D f (.cell (some (.ref n)))) h r f l m hl pl rA n hs vs R S kf := by
  have hq : ∃ v, D f = some (.cell v) := ⟨_, X.cf⟩
  obtain ⟨v0, hq⟩ := hq
  have kl : ∀ a us, D a = some (.list us) → upd D f (.cell (some (.ref n))) a = some (.list us) := fun a us e => (upd_ne fun z => by rw [z, hq] at e; cases e).trans e
  have ko : ∀ a o, D a = some (.obj o) → upd D f (.cell (some (.ref n))) a = some (.obj o) := fun a us e => (upd_ne fun z => by rw [z, hq] at e; cases e).trans e
  have kc : ∀ a, (∃ v, D a = some (.cell v)) → ∃ v, upd D f (.cell (some (.ref n))) a = some (.cell v) := fun a ⟨v, e⟩ => by
    by_cases z : a = f
    · rw [z]; exact ⟨_, upd_self⟩
    · exact ⟨v, (upd_ne z).trans e⟩
  refine ⟨(upd_ne n1).trans X.ch, kl _ _ X.dh, kl _ _ X.dp, (upd_ne n2).trans X.cr, kl _ _ X.dr, upd_self, kl _ _ hn, kc _ X.cl, kc _ X.cm, fun i v e => ?_, fun v hv => ?_⟩
  · obtain ⟨a, d, o, t, x, e1, e2, e3, e4, e5⟩ := X.pr i v e
    exact ⟨a, d, o, t, x, e1, kl _ _ e2, e3, ko _ _ e4, e5⟩
  · obtain ⟨a, x, y, T, e1, e2, e3, e4⟩ := X.kp v hv
    exact ⟨a, x, y, T, e1, kl _ _ e2, e3.monoL kl, e4⟩
set_option maxHeartbeats 2000000 in
theorem ins_falling {cd P h r f p l m hl pl rA fA : Addr} {mg : Str → Option Value} {hs vs R F : List Value} {kf : Value → Str} {s0 n0 av : Option Value} {pv : Value} {D : Addr → Option AO} {Q : Flow → St → Prop} (G : LG c A cd P mg h r f p l m)
    (B : LB w D P h r f p l m hl pl rA fA hs vs R F kf pv) (h64 : F.length < 60) (hRm : ∀ v ∈ F, v ∈ vs) (hpv : pv ∈ vs)
    (hq : ∀ n t D' b, (∀ a x, D a = some x → a ≠ f → D' a = some x) → LB w D' P h r f p l m hl pl rA b hs vs R (insAt true kf pv F) kf pv → WP prg w (c.nm nmLW) A (execs (pairBody.drop (2 + 2)) c.env) Q ⟨[s0, some (.ref pl), some (.int n t), n0], D'⟩) :
    WP prg w (c.nm nmLW) A (execs (pairBody.drop 2) c.env) Q ⟨[s0, some (.ref pl), av, n0], D⟩ := by
  have Z := G.Z
  have T := Z.T
  have C := Z.C
  obtain ⟨fh, hfh⟩ := T.held
  have kR : (c.nm nmLW).env.kindOf (Str.ofString "falling") = some .cell := by show c.env.scope.names.lookup (Str.ofString "falling") = some .cell; rw [C.sc]; rfl
  have kP : (c.nm nmLW).env.kindOf (Str.ofString "pair") = some .cell := by show c.env.scope.names.lookup (Str.ofString "pair") = some .cell; rw [C.sc]; rfl
  have cR : (c.nm nmLW).env.cells.lookup (Str.ofString "falling") = some f := by rw [show (c.nm nmLW).env.cells = _ from C.cells]; rfl
  have cP : (c.nm nmLW).env.cells.lookup (Str.ofString "pair") = some p := by rw [show (c.nm nmLW).env.cells = _ from C.cells]; rfl
  have co : ∀ x a, (c.nm nmLW).env.cells.lookup x = some a → cellOf (c.nm nmLW).env x = Pure.pure a := fun x a e => by unfold cellOf; rw [e]
  have hu := Z.hu
  have hdp := Z.hd
  refine WP.execs_cons ?_
  walk_at "go"
  refine WP.gname T.H.len (by show c.env.scope.names.lookup _ = _; rw [C.sc]; rfl) (by decide) ?_
  walk_at "go"
  refine WP.listComp (names := ["done"]) (cl := [(Str.ofString "pair", p)]) ⟨rfl, by decide +kernel, by decide +kernel, by decide +kernel, by decide +kernel, by decide +kernel⟩ ?_ ?_
  · unfold closureFor
    simp only [List.forIn_cons, List.forIn_nil]
    rw [co _ _ cP]
    rfl
  refine WP.cname kR cR B.X.cf ?_
  refine WP.iterList B.X.df fun it hit => ?_
  intro acc hacc c' C' g1 g2
  dsimp only [St.put]
  have nit : D it = none := hit.d
  have i_a : it ≠ acc := hacc.ne upd_self
  have nacc : D acc = none := hacc.off (upd_le nit)
  have hck : c'.env.kindOf (Str.ofString "pair") = some .cell := by
    rw [g1]
    show List.lookup _ (List.map _ _) = _
    simp only [List.map]
    rw [kP, show (c.nm nmLW).env.scope.kind = .function by show c.env.scope.kind = _; rw [C.sc]; rfl]
    rfl
  have hgk : c'.env.kindOf (Str.ofString "_law_held") = some .globalImplicit := by
    rw [g1]
    show List.lookup _ (List.map _ _) = _
    simp only [List.map]
    rw [kP, show (c.nm nmLW).env.scope.kind = .function by show c.env.scope.kind = _; rw [C.sc]; rfl]
    rfl
  have g2' : c'.hb = c.hb := g2
  refine WC.compStart (fun P hp => WP.iterLit (l := fA) (i := 0) ((upd_ne i_a).trans upd_self) hp) ?_
  refine comp_cnt (b := true) (kf := kf) (pv := pv) rfl (by rw [g2']; exact hfh) (by rw [g2']; exact T.L.D) Z.hh (by lia) (by lia) (by lia) hgk hck (by rw [g1]; rfl) B.cp (B.X.kp _ hpv) B.X.df (fun v hv => B.X.kp _ (hRm v hv)) nit nacc i_a fun v D1 hD1 hacc1 => ?_
  have B1 := B.mono hD1
  have hkl := List.length_filter_le (fun d => !klt true (kf pv) (kf d)) F
  walk_at "go"
  refine WP.len hacc1 (by lia) fun t => ?_
  dsimp only [seqK, St.set, List.set]
  dsimp only [insAt] at hq
  generalize (F.filter fun d => !klt true (kf pv) (kf d)).length = k at hkl hq ⊢
  refine WP.execs_cons ?_
  refine WP.cassign kR cR ?_ (by with_unfolding_all rfl)
  walk_at "go"
  refine WP.cname kR cR B1.X.cf ?_
  walk_at "go"
  refine WP.slice ?_
  refine WP.pure ?_
  show WP _ _ _ _ (eval (.Name (Str.ofString "ahead") _) _) _ _
  walk_at "go"
  intro s1 hs1
  walk_at "go"
  have ns1 : D1 s1 = none := hs1.d
  have B2 := B1.mono (upd_le (x := slcO .none (.int k t)) ns1)
  refine WP.cut (vs := F) B2.X.df upd_self .none (.int _ _) (by lia) fun b1 hb1 => ?_
  rw [slicePick_upto']
  have nb1 : upd D1 s1 (slcO .none (.int k t)) b1 = none := hb1.d
  have k1 : ∀ a x, D1 a = some x → upd (upd D1 s1 (slcO .none (.int k t))) b1 (.list (F.take k)) a = some x := fun a x e => upd_le nb1 _ _ (upd_le ns1 _ _ e)
  have B3 := B1.mono k1
  have db1 : upd (upd D1 s1 (slcO .none (.int k t))) b1 (.list (F.take k)) b1 = some (.list (F.take k)) := upd_self
  dsimp only [St.put]
  generalize upd (upd D1 s1 (slcO .none (.int k t))) b1 (.list (F.take k)) = D3 at k1 B3 db1 ⊢
  walk_at "go"
  refine WP.cname kP cP B3.cp ?_
  walk_at "go"
  intro b2 hb2
  dsimp only [St.put]
  have nb2 : D3 b2 = none := hb2.d
  have k2 := upd_le (x := .list [pv]) nb2
  refine WP.addL (k2 _ _ db1) upd_self (by simp; lia) fun b3 hb3 => ?_
  dsimp only [St.put]
  have nb3 : upd D3 b2 (.list [pv]) b3 = none := hb3.d
  have k3 : ∀ a x, D3 a = some x → upd (upd D3 b2 (.list [pv])) b3 (.list (F.take k ++ [pv])) a = some x := fun a x e => upd_le nb3 _ _ (k2 _ _ e)
  have B4 := B3.mono k3
  have db3 : upd (upd D3 b2 (.list [pv])) b3 (.list (F.take k ++ [pv])) b3 = some (.list (F.take k ++ [pv])) := upd_self
  have k13 : ∀ a x, D1 a = some x → upd (upd D3 b2 (.list [pv])) b3 (.list (F.take k ++ [pv])) a = some x := fun a x e => k3 _ _ (k1 _ _ e)
  generalize upd (upd D3 b2 (.list [pv])) b3 (.list (F.take k ++ [pv])) = D4 at k13 B4 db3 ⊢
  walk_at "go"
  refine WP.cname kR cR B4.X.cf ?_
  walk_at "go"
  refine WP.slice ?_
  show WP _ _ _ _ (eval (.Name (Str.ofString "ahead") _) _) _ _
  walk_at "go"
  refine WP.pure ?_
  intro s2 hs2
  walk_at "go"
  have ns2 : D4 s2 = none := hs2.d
  have B5 := B4.mono (upd_le (x := slcO (.int k t) .none) ns2)
  refine WP.cut (vs := F) B5.X.df upd_self (.int _ _) .none (by lia) fun b4 hb4 => ?_
  rw [slicePick_from']
  dsimp only [St.put]
  have nb4 : upd D4 s2 (slcO (.int k t) .none) b4 = none := hb4.d
  have k5 : ∀ a x, D4 a = some x → upd (upd D4 s2 (slcO (.int k t) .none)) b4 (.list (F.drop k)) a = some x := fun a x e => upd_le nb4 _ _ (upd_le ns2 _ _ e)
  have B6 := B4.mono k5
  have db4 : upd (upd D4 s2 (slcO (.int k t) .none)) b4 (.list (F.drop k)) b4 = some (.list (F.drop k)) := upd_self
  have db5 := k5 _ _ db3
  generalize upd (upd D4 s2 (slcO (.int k t) .none)) b4 (.list (F.drop k)) = D6 at k5 B6 db4 db5 ⊢
  walk_at "go"
  refine WP.addL db5 db4 (by simp; lia) fun b5 hb5 => ?_
  dsimp only [St.put]
  have nb5 : D6 b5 = none := hb5.d
  have k6 := upd_le (x := .list (F.take k ++ [pv] ++ F.drop k)) nb5
  have B7 := B6.mono k6
  have d7 : upd D6 b5 (.list (F.take k ++ [pv] ++ F.drop k)) b5 = some (.list (F.take k ++ [pv] ++ F.drop k)) := upd_self
  have k7 : ∀ a x, D a = some x → upd D6 b5 (.list (F.take k ++ [pv] ++ F.drop k)) a = some x := fun a x e => k6 _ _ (k5 _ _ (k13 _ _ (hD1 _ _ e)))
  generalize upd D6 b5 (.list (F.take k ++ [pv] ++ F.drop k)) = D7 at B7 d7 k7 ⊢
  refine ⟨_, B7.X.cf, ?_⟩
  try dsimp only [seqK, St.put]
  refine hq k t _ b5 (fun a x e z => (upd_ne z).trans (k7 _ _ e)) ⟨B7.X.setF d7 G.hf G.rf, B7.T.but B7.X.cf (fun _ => by simp) fun a x e z => (upd_ne z).trans e, (upd_ne G.pf.symm).trans B7.cp⟩
end
end
section
open PySem PySem.W PyProof.Rows
section
variable {w : World} {c : Cf} {A : Around}
theorem ins_next {vs S : List Value} {kf : Value → Str} {b : Bool} {v : Value} {j : Nat} (nd : vs.Nodup) (hv : vs[j]? = some v) (hp : S.Perm (vs.take j)) (hs : S.Pairwise (RR vs kf b)) : (insAt b kf v S).Perm (vs.take (j + 1)) ∧ (insAt b kf v S).Pairwise (RR vs kf b) := by
  have hb : ∀ y ∈ S, bef vs y v := fun y hy => by
    obtain ⟨i, hi⟩ := List.mem_iff_getElem?.mp (hp.mem_iff.mp hy)
    have hij : i < j := by
      rcases Nat.lt_or_ge i j with q | q
      · exact q
      · rw [List.getElem?_eq_none (by simp; lia)] at hi; cases hi
    rw [List.getElem?_take_of_lt hij] at hi
    exact bef_at nd hi hv hij
  obtain ⟨q1, q2⟩ := ins_ok hs hb
  refine ⟨q2.trans ?_, q1⟩
  rw [List.take_add_one, hv]
  exact hp.append_right _
set_option maxHeartbeats 2000000 in
theorem law_b {cd P h r f p l m hl pl rA fA sc : Addr} {mg : Str → Option Value} {hs vs xs : List Value} {kf : Value → Str} {a0 n0 : Option Value} {D : Addr → Option AO} {Q : Flow → St → Prop} (G : LG c A cd P mg h r f p l m)
    (X : LD w D h r f l m hl pl rA fA hs vs [] [] kf) (hT : Tab D P lamQ) (hcp : ∃ v, D p = some (.cell v)) (nd : vs.Nodup) (h16 : vs.length ≤ 16) (hlen : vs.length = hs.length)
    (hsc : c.hb.IsList sc xs.toArray) (hxs : ∀ v ∈ xs, ∃ i t, v = .int i t)
    (hq : ∀ vv D', Tab D' P lamQ → Q (.ret (.bool true)) ⟨vv, D'⟩) :
    WP prg w (c.nm nmLW) A (execs ((bodyAt 17).drop 4) c.env) Q ⟨[some (.ref sc), some (.ref pl), a0, n0], D⟩ := by
  have Z := G.Z
  have T := Z.T
  have C := Z.C
  refine WP.execs_cons ?_
  walk_at "go"
  refine WP.iterList X.dp fun it hit => ?_
  dsimp only [St.put]
  have nit : D it = none := hit.d
  let I : Nat → St → Prop := fun k σ => ∃ j av D' rA fA R F, σ = ⟨[some (.ref sc), some (.ref pl), av, n0], D'⟩ ∧ j + k = vs.length ∧ LD w D' h r f l m hl pl rA fA hs vs R F kf ∧ Tab D' P lamQ ∧ (∃ v, D' p = some (.cell v)) ∧ D' it = some (.lit pl j) ∧ R.Perm (vs.take j) ∧ R.Pairwise (RR vs kf false) ∧ F.Perm (vs.take j) ∧ F.Pairwise (RR vs kf true)
  refine WC.forLoop I ?turn vs.length ?start
  case start =>
    have k0 := upd_le (x := .lit pl 0) nit
    exact ⟨0, a0, _, rA, fA, [], [], rfl, by lia, X.mono k0, hT.mono k0, let ⟨v, e⟩ := hcp; ⟨v, k0 _ _ e⟩, upd_self, by simp, by simp, by simp, by simp⟩
  rintro k σ ⟨j, av, D', rA', fA', R, F, rfl, hj, X', T', ⟨v0, hp'⟩, hit', r1, r2, f1, f2⟩
  cases k with
  | zero =>
    refine WP.nextListEnd Z.hh hit' X'.dp (by lia) ?_
    have X2 : LD w (del D' it) h r f l m hl pl rA' fA' hs vs R F kf := X'.but hit' (fun _ => by simp) (fun _ => by simp) (fun _ _ _ => by simp) fun a x e z => (del_ne z).trans e
    have T2 : Tab (del D' it) P lamQ := T'.but hit' (fun _ => by simp) fun a x e z => (del_ne z).trans e
    rw [List.take_of_length_le (by lia)] at r1 f1
    exact law_c Z X2 T2 nd (by lia) hlen r1 r2 f1 f2 hsc hxs hq
  | succ k =>
    have hjl : j < vs.length := by lia
    have hv : vs[j]? = some vs[j] := List.getElem?_eq_getElem hjl
    have hm := List.getElem_mem hjl
    generalize vs[j] = v at hv hm
    refine WP.nextList hit' X'.dp hv ?_
    dsimp only [St.put]
    have kk : ∀ a x, D' a = some x → a ≠ it → upd D' it (.lit pl (j + 1)) a = some x := fun a x e z => (upd_ne z).trans e
    have X2 : LD w (upd D' it (.lit pl (j + 1))) h r f l m hl pl rA' fA' hs vs R F kf := X'.but hit' (fun _ => by simp) (fun _ => by simp) (fun _ _ _ => by simp) kk
    have T2 : Tab (upd D' it (.lit pl (j + 1))) P lamQ := T'.but hit' (fun _ => by simp) kk
    have hit2 : upd D' it (.lit pl (j + 1)) it = some (.lit pl (j + 1)) := upd_self
    have hp2 := kk _ _ hp' (fun z => by rw [z, hit'] at hp'; cases hp')
    generalize upd D' it (.lit pl (j + 1)) = D2 at X2 T2 hit2 hp2 ⊢
    refine WP.lotName ?_
    refine WP.casgName (by show c.env.scope.names.lookup (Str.ofString "pair") = some .cell; rw [C.sc]; rfl) (by rw [show (c.nm nmLW).env.cells = _ from C.cells]; rfl) hp2 ?_
    dsimp only [St.put]
    have B : LB w (upd D2 p (.cell (some v))) P h r f p l m hl pl rA' fA' hs vs R F kf v := ⟨X2.setCell hp2 G.ph G.pr G.pf, T2.but hp2 (fun _ => by simp) fun a x e z => (upd_ne z).trans e, upd_self⟩
    have hit3 : upd D2 p (.cell (some v)) it = some (.lit pl (j + 1)) := (upd_ne fun z => by rw [z, hp2] at hit2; cases hit2).trans hit2
    generalize upd D2 p (.cell (some v)) = D3 at B hit3 ⊢
    have rl := r1.length_eq
    have fl := f1.length_eq
    rw [List.length_take] at rl fl
    refine ins_rising (R := R) (F := F) G B (by lia) (fun v hv => List.mem_of_mem_take (r1.mem_iff.mp hv)) hm fun n t D4 b1 k4 B4 => ?_
    have hit4 := k4 _ _ hit3 (fun z => by have := B.X.cr; rw [← z, hit3] at this; cases this)
    refine ins_falling G B4 (by lia) (fun v hv => List.mem_of_mem_take (f1.mem_iff.mp hv)) hm fun n' t' D5 b2 k5 B5 => ?_
    have hit5 := k5 _ _ hit4 (fun z => by have := B4.X.cf; rw [← z, hit4] at this; cases this)
    try (refine WP.execs_nil ?_)
    obtain ⟨r3, r4⟩ := ins_next nd hv r1 r2
    obtain ⟨f3, f4⟩ := ins_next nd hv f1 f2
    exact ⟨k, by lia, j + 1, _, D5, b1, b2, _, _, rfl, by lia, B5.X, B5.T, ⟨_, B5.cp⟩, hit5, r3, r4, f3, f4⟩
end
end
section
open PySem PySem.W PyProof.Rows
section
variable {w : World} {c : Cf} {A : Around}
/-- the cells at the start of law -/
structure L0 (D : Addr → Option AO) (P h r f p l m : Addr) : Prop where
  T : Tab D P lamQ
  h : ∃ v, D h = some (.cell v)
  r : ∃ v, D r = some (.cell v)
  f : ∃ v, D f = some (.cell v)
  p : ∃ v, D p = some (.cell v)
  l : ∃ v, D l = some (.cell v)
  m : ∃ v, D m = some (.cell v)
theorem L0.mono {D D' : Addr → Option AO} {P h r f p l m : Addr} (B : L0 D P h r f p l m) (hd : ∀ a x, D a = some x → D' a = some x) : L0 D' P h r f p l m :=
  ⟨B.T.mono hd, let ⟨v, e⟩ := B.h; ⟨v, hd _ _ e⟩, let ⟨v, e⟩ := B.r; ⟨v, hd _ _ e⟩, let ⟨v, e⟩ := B.f; ⟨v, hd _ _ e⟩, let ⟨v, e⟩ := B.p; ⟨v, hd _ _ e⟩, let ⟨v, e⟩ := B.l; ⟨v, hd _ _ e⟩, let ⟨v, e⟩ := B.m; ⟨v, hd _ _ e⟩⟩
theorem L0.set {D : Addr → Option AO} {P h r f p l m q : Addr} {v0 : Option Value} {v : Option Value} (B : L0 D P h r f p l m) (hq : D q = some (.cell v0)) : L0 (upd D q (.cell v)) P h r f p l m := by
  have kc : ∀ a, (∃ v, D a = some (.cell v)) → ∃ v', upd D q (.cell v) a = some (.cell v') := fun a ⟨v', e⟩ => by
    by_cases z : a = q
    · rw [z]; exact ⟨_, upd_self⟩
    · exact ⟨v', (upd_ne z).trans e⟩
  exact ⟨B.T.but hq (fun _ => by simp) fun a x e z => (upd_ne z).trans e, kc _ B.h, kc _ B.r, kc _ B.f, kc _ B.p, kc _ B.l, kc _ B.m⟩
theorem key_of {D : Addr → Option AO} {hs vs : List Value} {Ts : List Tr} (ht : All2 (Thing D 3) hs Ts) (hP : ∀ (i : Nat) v, vs[i]? = some v → PairOk w D hs i v) : ∃ kf : Value → Str, ∀ v ∈ vs, KP D kf v := by
  classical
  refine ⟨fun v => if q : ∃ T a x y, v = .ref a ∧ D a = some (.list [x, y]) ∧ Thing D 3 x T then (toP q.choose).shown else "", fun v hv => ?_⟩
  obtain ⟨i, hi⟩ := List.mem_iff_getElem?.mp hv
  obtain ⟨a, d, o, t, x, e1, e2, e3, e4, e5⟩ := hP i v hi
  obtain ⟨T, _, hT⟩ := ht.get e3
  have q : ∃ T a x y, v = .ref a ∧ D a = some (.list [x, y]) ∧ Thing D 3 x T := ⟨T, a, x, _, e1, e2, hT⟩
  obtain ⟨a', x', y', q1, q2, q3⟩ := q.choose_spec
  exact ⟨a', x', y', q.choose, q1, q2, q3, dif_pos q⟩
set_option maxHeartbeats 2000000 in
theorem law_a {cd P h r f p l m sc : Addr} {mg : Str → Option Value} {xs : List Value} {D : Addr → Option AO} {Q : Flow → St → Prop} (G : LG c A cd P mg h r f p l m)
    (B : L0 D P h r f p l m) (hsc : c.hb.IsList sc xs.toArray) (hz : xs.length ≤ 63) (hxs : ∀ v ∈ xs, ∃ i t, v = .int i t)
    (hq : ∀ vv D', Tab D' P lamQ → Q (.ret (.bool true)) ⟨vv, D'⟩) :
    WP prg w (c.nm nmLW) A (execs (bodyAt 17) c.env) Q ⟨[some (.ref sc), none, none, none], D⟩ := by
  have Z := G.Z
  have T := Z.T
  have C := Z.C
  have hdp := Z.hd
  obtain ⟨ft, hft⟩ := T.things
  have kH : (c.nm nmLW).env.kindOf (Str.ofString "heard") = some .cell := by show c.env.scope.names.lookup (Str.ofString "heard") = some .cell; rw [C.sc]; rfl
  have kR : (c.nm nmLW).env.kindOf (Str.ofString "rising") = some .cell := by show c.env.scope.names.lookup (Str.ofString "rising") = some .cell; rw [C.sc]; rfl
  have kF : (c.nm nmLW).env.kindOf (Str.ofString "falling") = some .cell := by show c.env.scope.names.lookup (Str.ofString "falling") = some .cell; rw [C.sc]; rfl
  have cH : (c.nm nmLW).env.cells.lookup (Str.ofString "heard") = some h := by rw [show (c.nm nmLW).env.cells = _ from C.cells]; rfl
  have cR : (c.nm nmLW).env.cells.lookup (Str.ofString "rising") = some r := by rw [show (c.nm nmLW).env.cells = _ from C.cells]; rfl
  have cF : (c.nm nmLW).env.cells.lookup (Str.ofString "falling") = some f := by rw [show (c.nm nmLW).env.cells = _ from C.cells]; rfl
  have kfun : (c.nm nmLW).env.scope.kind = .function := by show c.env.scope.kind = _; rw [C.sc]; rfl
  refine WP.execs_cons ?_
  refine WP.cassign kH cH ?_ (by with_unfolding_all rfl)
  walk_at "go"
  refine WP.gname hft.1 (by show c.env.scope.names.lookup _ = _; rw [C.sc]; rfl) (by decide) ?_
  walk_at "go"
  refine WP.slice ?_
  refine WP.pure ?_
  show WP _ _ _ _ (eval (.Constant (.int 10) 0 ⟨196, 32, 196, 34⟩) (c.nm nmLW).env) _ _
  refine WP.int fun t10 => ?_
  intro sl hsl
  dsimp only [St.put]
  have nsl : D sl = none := hsl.d
  refine WP.cutB (c := c.nm nmLW) hsc upd_self .none (.int _ _) (by lia) fun b hb => ?_
  rw [show (10 : Int) = ((10 : Nat) : Int) from rfl, slicePick_upto']
  walk_at "go"
  have nb : upd D sl (slcO .none (.int 10 t10)) b = none := hb.d
  refine ⟨FnOk.callOk (c := c.nm nmLW) hft, ?_⟩
  refine lt_call (c := c.nm nmLW) T.H.lim T.H.len hft Z.hh (by lia) (fun v hv => hxs v (List.mem_of_mem_take hv)) (by rw [List.length_take]; lia) upd_self fun r0 D1 ws Ts k1 n1 d1 t1 l1 => ?_
  have k01 : ∀ a x, D a = some x → D1 a = some x := fun a x e => k1 _ _ (upd_le nb _ _ (upd_le nsl _ _ e))
  have B1 := B.mono k01
  obtain ⟨vh, e1h⟩ := B1.h
  refine ⟨vh, e1h, ?_⟩
  have kl : ∀ a us, D1 a = some (.list us) → upd D1 h (.cell (some (.ref r0))) a = some (.list us) := fun a us e => (upd_ne fun z => by rw [z, e1h] at e; cases e).trans e
  have B2 : L0 (upd D1 h (.cell (some (.ref r0)))) P h r f p l m := B1.set e1h
  have d2h : upd D1 h (.cell (some (.ref r0))) h = some (.cell (some (.ref r0))) := upd_self
  have d2 := kl _ _ d1
  have t2 : All2 (Thing (upd D1 h (.cell (some (.ref r0)))) 3) ws Ts := t1.imp fun _ _ q => q.monoL kl
  try dsimp only [seqK, St.put]
  generalize upd D1 h (.cell (some (.ref r0))) = D2 at B2 d2h d2 t2 ⊢
  clear B1 k01 e1h kl t1 d1 k1 n1 nb nsl hb hsl B
  have co : ∀ x a, (c.nm nmLW).env.cells.lookup x = some a → cellOf (c.nm nmLW).env x = Pure.pure a := fun x a e => by unfold cellOf; rw [e]
  refine WP.execs_cons ?_
  refine WP.assignComp (names := ["i"]) (cl := [(Str.ofString "heard", h)]) ⟨rfl, by decide +kernel, by decide +kernel, by decide +kernel, by decide +kernel, by decide +kernel⟩ ?_ (by walk_at "ix") ?_ (swaps_true kfun (by show c.env.scope.names.lookup _ = _; rw [C.sc]; rfl) rfl (by decide +kernel))
  · unfold closureFor
    simp only [List.forIn_cons, List.forIn_nil]
    rw [co _ _ cH]
    rfl
  walk_at "go"
  refine WP.gname T.H.range (by show c.env.scope.names.lookup _ = _; rw [C.sc]; rfl) (by decide) ?_
  walk_at "go"
  refine WP.gname T.H.len (by show c.env.scope.names.lookup _ = _; rw [C.sc]; rfl) (by decide) ?_
  walk_at "go"
  refine WP.cname kH cH d2h ?_
  walk_at "go"
  refine WP.len d2 (by lia) fun tl => ?_
  walk_at "go"
  refine WP.range1 fun rg u1 u2 hrg => ?_
  walk_at "go"
  refine WP.iterRange upd_self (range_small (by lia)) fun it hit => ?_
  rw [show Builtin.Range.rangeSize 0 (ws.length : Int) 1 = (ws.length : Int) by rw [rangeSize_one]; split <;> lia]
  intro acc hacc c' C' g1 g2
  dsimp only [St.put]
  have nrg : D2 rg = none := hrg.d
  have kg := upd_le (x := rngO 0 (ws.length : Int) 1 u1 tl u2) nrg
  have nit : upd D2 rg (rngO 0 (ws.length : Int) 1 u1 tl u2) it = none := hit.d
  have i_a : it ≠ acc := hacc.ne upd_self
  have nacc : upd D2 rg (rngO 0 (ws.length : Int) 1 u1 tl u2) acc = none := hacc.off (upd_le nit)
  have hck : c'.env.kindOf (Str.ofString "heard") = some .cell := by
    rw [g1]
    show List.lookup _ (List.map _ _) = _
    simp only [List.map]
    rw [kH, kfun]
    rfl
  refine WC.compStart (fun P hp => WP.iterRit ((upd_ne i_a).trans upd_self) hp) ?_
  refine comp_pairs (hs := ws) Z.hh l1 hck (by rw [g1]; rfl) (kg _ _ d2h) (kg _ _ d2) nit nacc i_a fun v D3 vs hD3 hacc3 hvl hP nd => ?_
  have B3 := B2.mono fun a x e => hD3 _ _ (kg _ _ e)
  have d3h := hD3 _ _ (kg _ _ d2h)
  have d3 := hD3 _ _ (kg _ _ d2)
  have t3 : All2 (Thing D3 3) ws Ts := t2.imp fun _ _ q => q.mono fun a x e => hD3 _ _ (kg _ _ e)
  try dsimp only [seqK, St.set, List.set]
  clear hD3 kg nrg nit i_a nacc hck g1 g2 hacc hit hrg t2 d2 d2h B2
  refine WP.execs_cons ?_
  refine WP.cassign kR cR ?_ (by with_unfolding_all rfl)
  walk_at "go"
  intro rA hrA
  dsimp only [St.put]
  have nrA : D3 rA = none := hrA.d
  have k4 := upd_le (x := .list []) nrA
  obtain ⟨v4, e4⟩ := (B3.mono k4).r
  refine ⟨v4, e4, ?_⟩
  try dsimp only [seqK, St.put]
  have B4 : L0 (upd (upd D3 rA (.list [])) r (.cell (some (.ref rA)))) P h r f p l m := (B3.mono k4).set e4
  have kl4 : ∀ a x, D3 a = some x → a ≠ r → upd (upd D3 rA (.list [])) r (.cell (some (.ref rA))) a = some x := fun a x e z => (upd_ne z).trans (k4 _ _ e)
  have d4r : upd (upd D3 rA (.list [])) r (.cell (some (.ref rA))) r = some (.cell (some (.ref rA))) := upd_self
  have d4A : upd (upd D3 rA (.list [])) r (.cell (some (.ref rA))) rA = some (.list []) := (upd_ne fun z => by rw [← z, upd_self] at e4; cases e4).trans upd_self
  generalize upd (upd D3 rA (.list [])) r (.cell (some (.ref rA))) = D4 at B4 kl4 d4r d4A ⊢
  clear k4 nrA hrA e4
  refine WP.execs_cons ?_
  refine WP.cassign kF cF ?_ (by with_unfolding_all rfl)
  walk_at "go"
  intro fA hfA
  dsimp only [St.put]
  have nfA : D4 fA = none := hfA.d
  have k5 := upd_le (x := .list []) nfA
  obtain ⟨v5, e5⟩ := (B4.mono k5).f
  refine ⟨v5, e5, ?_⟩
  try dsimp only [seqK, St.put]
  have B5 : L0 (upd (upd D4 fA (.list [])) f (.cell (some (.ref fA)))) P h r f p l m := (B4.mono k5).set e5
  have kl5 : ∀ a x, D4 a = some x → a ≠ f → upd (upd D4 fA (.list [])) f (.cell (some (.ref fA))) a = some x := fun a x e z => (upd_ne z).trans (k5 _ _ e)
  have d5f : upd (upd D4 fA (.list [])) f (.cell (some (.ref fA))) f = some (.cell (some (.ref fA))) := upd_self
  have d5A : upd (upd D4 fA (.list [])) f (.cell (some (.ref fA))) fA = some (.list []) := (upd_ne fun z => by rw [← z, upd_self] at e5; cases e5).trans upd_self
  generalize upd (upd D4 fA (.list [])) f (.cell (some (.ref fA))) = D5 at B5 kl5 d5f d5A ⊢
  clear k5 nfA hfA e5
  obtain ⟨vr, e3r⟩ := B3.r
  obtain ⟨vf, e4f⟩ := B4.f
  have nl4 : ∀ a us, D3 a = some (.list us) → D4 a = some (.list us) := fun a us e => kl4 _ _ e fun z => by rw [z, e3r] at e; cases e
  have nl5 : ∀ a us, D4 a = some (.list us) → D5 a = some (.list us) := fun a us e => kl5 _ _ e fun z => by rw [z, e4f] at e; cases e
  have nl : ∀ a us, D3 a = some (.list us) → D5 a = some (.list us) := fun a us e => nl5 _ _ (nl4 _ _ e)
  have no : ∀ a o, D3 a = some (.obj o) → D5 a = some (.obj o) := fun a o e => by
    have q := kl4 _ _ e fun z => by rw [z, e3r] at e; cases e
    exact kl5 _ _ q fun z => by rw [z, e4f] at q; cases q
  have hP5 : ∀ (i : Nat) v, vs[i]? = some v → PairOk w D5 ws i v := fun i v e => by
    obtain ⟨a, d, o, t, x, e1, e2, e3, e4, e5⟩ := hP i v e
    exact ⟨a, d, o, t, x, e1, nl _ _ e2, e3, no _ _ e4, e5⟩
  have t5 : All2 (Thing D5 3) ws Ts := t3.imp fun _ _ q => q.monoL nl
  obtain ⟨kf, hkf⟩ := key_of t5 hP5
  have X : LD w D5 h r f l m r0 acc rA fA ws vs [] [] kf := ⟨kl5 _ _ (kl4 _ _ d3h G.hr) G.hf, nl _ _ d3, nl _ _ hacc3, kl5 _ _ d4r G.rf, nl5 _ _ d4A, d5f, d5A, B5.l, B5.m, hP5, hkf⟩
  exact law_b G X B5.T B5.p nd (by lia) hvl hsc hxs hq
end
end
end Mine
end
section
open PySem PySem.W PyProof.Rows
namespace Mine
noncomputable def kE (P : Params) (k : String) (t : Nat) (v : Value) : DictEntry := { hash := PyData.keyHash P (Str.ofString k), key := .str (Str.ofString k) t, val := v }
noncomputable def kF (i : Nat) (nm : Str) (dV pm cd : Value) : Obj := { cls := .type "function", data := .func (fnAt i nm dV pm cd .none) }
noncomputable def kC (vs : Array Value) : Obj := { cls := .type "code", data := .fields vs }
noncomputable def kHeap (P : Params) : Frag :=
  [(3, { cls := .type "dict", data := .dict #[kE P "__name__" 165 (Value.str (Str.ofString "law_mr0269_01") 300),
      kE P "__doc__" 166 (Value.none),
      kE P "__package__" 167 (Value.none),
      kE P "__loader__" 168 (Value.builtin "__main__.__loader__#opaque"),
      kE P "__spec__" 169 (Value.none),
      kE P "__annotations__" 170 (Value.ref 6),
      kE P "__builtins__" 171 (Value.ref 4),
      kE P "__file__" 173 (Value.str (Str.ofString "/claim/cut.py") 172),
      kE P "__cached__" 174 (Value.none),
      kE P "_MAX_LENGTH" 190 (Value.int 80 189),
      kE P "safe_repr" 199 (Value.ref 22),
      kE P "heapreplace" 210 (Value.ref 29),
      kE P "heapify" 219 (Value.ref 36),
      kE P "_heapreplace_max" 228 (Value.ref 43),
      kE P "_heapify_max" 237 (Value.ref 50),
      kE P "_siftdown" 249 (Value.ref 57),
      kE P "_siftup" 262 (Value.ref 64),
      kE P "_siftdown_max" 274 (Value.ref 71),
      kE P "_siftup_max" 287 (Value.ref 78),
      kE P "nsmallest" 293 (Value.ref 84),
      kE P "nlargest" 299 (Value.ref 90),
      kE P "_law_things" 311 (Value.ref 97),
      kE P "_law_held" 321 (Value.ref 104),
      kE P "law" 327 (Value.ref 109)] 24 }),
   (15, { cls := Value.type "tuple", data := Data.seq #[Value.bool false] }),
   (21, kC #[Value.str (Str.ofString "safe_repr") 191, Value.str (Str.ofString "safe_repr") 192, Value.str (Str.ofString "/claim/cut.py") 193, Value.int 3 0, Value.int 2 0, Value.int 0 0, Value.int 0 0, Value.int 3 0, Value.ref 16, Value.bool true, Value.int 181 0, Value.ref 17, Value.none, Value.ref 18, Value.ref 19, Value.ref 20, Value.int 197 0, Value.int 3 0, Value.str (Str.ofString "/claim/cut.py") 198]),
   (22, kF 2 "safe_repr" (Value.ref 15) (.str (Str.ofString "cpy313.unittest.util") 187) (.ref 21)),
   (28, kC #[Value.str (Str.ofString "heapreplace") 202, Value.str (Str.ofString "heapreplace") 203, Value.str (Str.ofString "/claim/cut.py") 204, Value.int 12 0, Value.int 2 0, Value.int 0 0, Value.int 0 0, Value.int 3 0, Value.ref 23, Value.bool true, Value.int 181 0, Value.ref 24, Value.none, Value.ref 25, Value.ref 26, Value.ref 27, Value.int 208 0, Value.int 12 0, Value.str (Str.ofString "/claim/cut.py") 209]),
   (29, kF 4 "heapreplace" (Value.none) (.str (Str.ofString "cpy313.heapq") 200) (.ref 28)),
   (35, kC #[Value.str (Str.ofString "heapify") 211, Value.str (Str.ofString "heapify") 212, Value.str (Str.ofString "/claim/cut.py") 213, Value.int 17 0, Value.int 1 0, Value.int 0 0, Value.int 0 0, Value.int 3 0, Value.ref 30, Value.bool true, Value.int 181 0, Value.ref 31, Value.none, Value.ref 32, Value.ref 33, Value.ref 34, Value.int 217 0, Value.int 17 0, Value.str (Str.ofString "/claim/cut.py") 218]),
   (36, kF 5 "heapify" (Value.none) (.str (Str.ofString "cpy313.heapq") 200) (.ref 35)),
   (42, kC #[Value.str (Str.ofString "_heapreplace_max") 220, Value.str (Str.ofString "_heapreplace_max") 221, Value.str (Str.ofString "/claim/cut.py") 222, Value.int 21 0, Value.int 2 0, Value.int 0 0, Value.int 0 0, Value.int 3 0, Value.ref 37, Value.bool true, Value.int 181 0, Value.ref 38, Value.none, Value.ref 39, Value.ref 40, Value.ref 41, Value.int 226 0, Value.int 21 0, Value.str (Str.ofString "/claim/cut.py") 227]),
   (43, kF 6 "_heapreplace_max" (Value.none) (.str (Str.ofString "cpy313.heapq") 200) (.ref 42)),
   (49, kC #[Value.str (Str.ofString "_heapify_max") 229, Value.str (Str.ofString "_heapify_max") 230, Value.str (Str.ofString "/claim/cut.py") 231, Value.int 26 0, Value.int 1 0, Value.int 0 0, Value.int 0 0, Value.int 3 0, Value.ref 44, Value.bool true, Value.int 181 0, Value.ref 45, Value.none, Value.ref 46, Value.ref 47, Value.ref 48, Value.int 235 0, Value.int 26 0, Value.str (Str.ofString "/claim/cut.py") 236]),
   (50, kF 7 "_heapify_max" (Value.none) (.str (Str.ofString "cpy313.heapq") 200) (.ref 49)),
   (56, kC #[Value.str (Str.ofString "_siftdown") 238, Value.str (Str.ofString "_siftdown") 239, Value.str (Str.ofString "/claim/cut.py") 240, Value.int 30 0, Value.int 3 0, Value.int 0 0, Value.int 0 0, Value.int 3 0, Value.ref 51, Value.bool true, Value.int 181 0, Value.ref 52, Value.none, Value.ref 53, Value.ref 54, Value.ref 55, Value.int 247 0, Value.int 30 0, Value.str (Str.ofString "/claim/cut.py") 248]),
   (57, kF 8 "_siftdown" (Value.none) (.str (Str.ofString "cpy313.heapq") 200) (.ref 56)),
   (63, kC #[Value.str (Str.ofString "_siftup") 250, Value.str (Str.ofString "_siftup") 251, Value.str (Str.ofString "/claim/cut.py") 252, Value.int 41 0, Value.int 2 0, Value.int 0 0, Value.int 0 0, Value.int 3 0, Value.ref 58, Value.bool true, Value.int 181 0, Value.ref 59, Value.none, Value.ref 60, Value.ref 61, Value.ref 62, Value.int 260 0, Value.int 41 0, Value.str (Str.ofString "/claim/cut.py") 261]),
   (64, kF 9 "_siftup" (Value.none) (.str (Str.ofString "cpy313.heapq") 200) (.ref 63)),
   (70, kC #[Value.str (Str.ofString "_siftdown_max") 263, Value.str (Str.ofString "_siftdown_max") 264, Value.str (Str.ofString "/claim/cut.py") 265, Value.int 55 0, Value.int 3 0, Value.int 0 0, Value.int 0 0, Value.int 3 0, Value.ref 65, Value.bool true, Value.int 181 0, Value.ref 66, Value.none, Value.ref 67, Value.ref 68, Value.ref 69, Value.int 272 0, Value.int 55 0, Value.str (Str.ofString "/claim/cut.py") 273]),
   (71, kF 10 "_siftdown_max" (Value.none) (.str (Str.ofString "cpy313.heapq") 200) (.ref 70)),
   (77, kC #[Value.str (Str.ofString "_siftup_max") 275, Value.str (Str.ofString "_siftup_max") 276, Value.str (Str.ofString "/claim/cut.py") 277, Value.int 66 0, Value.int 2 0, Value.int 0 0, Value.int 0 0, Value.int 3 0, Value.ref 72, Value.bool true, Value.int 181 0, Value.ref 73, Value.none, Value.ref 74, Value.ref 75, Value.ref 76, Value.int 285 0, Value.int 66 0, Value.str (Str.ofString "/claim/cut.py") 286]),
   (78, kF 11 "_siftup_max" (Value.none) (.str (Str.ofString "cpy313.heapq") 200) (.ref 77)),
   (79, { cls := Value.type "tuple", data := Data.seq #[Value.none] }),
   (83, kC #[Value.str (Str.ofString "nsmallest") 288, Value.str (Str.ofString "nsmallest") 289, Value.str (Str.ofString "/claim/cut.py") 290, Value.int 80 0, Value.int 3 0, Value.int 0 0, Value.int 0 0, Value.int 3 0, Value.ref 80, Value.bool true, Value.int 181 0, Value.ref 81, Value.none, Value.none, Value.none, Value.ref 82, Value.int 291 0, Value.int 80 0, Value.str (Str.ofString "/claim/cut.py") 292]),
   (84, kF 12 "nsmallest" (Value.ref 79) (.str (Str.ofString "cpy313.heapq") 200) (.ref 83)),
   (85, { cls := Value.type "tuple", data := Data.seq #[Value.none] }),
   (89, kC #[Value.str (Str.ofString "nlargest") 294, Value.str (Str.ofString "nlargest") 295, Value.str (Str.ofString "/claim/cut.py") 296, Value.int 125 0, Value.int 3 0, Value.int 0 0, Value.int 0 0, Value.int 3 0, Value.ref 86, Value.bool true, Value.int 181 0, Value.ref 87, Value.none, Value.none, Value.none, Value.ref 88, Value.int 297 0, Value.int 125 0, Value.str (Str.ofString "/claim/cut.py") 298]),
   (90, kF 13 "nlargest" (Value.ref 85) (.str (Str.ofString "cpy313.heapq") 200) (.ref 89)),
   (96, kC #[Value.str (Str.ofString "_law_things") 302, Value.str (Str.ofString "_law_things") 303, Value.str (Str.ofString "/claim/cut.py") 304, Value.int 171 0, Value.int 1 0, Value.int 0 0, Value.int 0 0, Value.int 3 0, Value.ref 91, Value.bool true, Value.int 181 0, Value.ref 92, Value.none, Value.ref 93, Value.ref 94, Value.ref 95, Value.int 309 0, Value.int 171 0, Value.str (Str.ofString "/claim/cut.py") 310]),
   (97, kF 15 "_law_things" (Value.none) (.str (Str.ofString "law_mr0269_01") 300) (.ref 96)),
   (103, kC #[Value.str (Str.ofString "_law_held") 312, Value.str (Str.ofString "_law_held") 313, Value.str (Str.ofString "/claim/cut.py") 314, Value.int 183 0, Value.int 2 0, Value.int 0 0, Value.int 0 0, Value.int 3 0, Value.ref 98, Value.bool true, Value.int 181 0, Value.ref 99, Value.none, Value.ref 100, Value.ref 101, Value.ref 102, Value.int 319 0, Value.int 183 0, Value.str (Str.ofString "/claim/cut.py") 320]),
   (104, kF 16 "_law_held" (Value.none) (.str (Str.ofString "law_mr0269_01") 300) (.ref 103)),
   (108, kC #[Value.str (Str.ofString "law") 322, Value.str (Str.ofString "law") 323, Value.str (Str.ofString "/claim/cut.py") 324, Value.int 195 0, Value.int 1 0, Value.int 0 0, Value.int 0 0, Value.int 3 0, Value.ref 105, Value.bool true, Value.int 181 0, Value.ref 106, Value.none, Value.none, Value.none, Value.ref 107, Value.int 325 0, Value.int 195 0, Value.str (Str.ofString "/claim/cut.py") 326]),
   (109, kF 17 "law" (Value.none) (.str (Str.ofString "law_mr0269_01") 300) (.ref 108))]
end Mine
end
section
open PySem PySem.W PyProof.Rows
set_option maxRecDepth 100000
namespace Mine
section
variable {K : Frag} {hb : Heap} {mg mb : Str → Option Value}
theorem fnOk_of {i : Nat} {nm : Str} {f : Addr} {o : Obj} {dV pm cd doc : Value} (X : K.In hb) (hg : hb.Ns mainGlobals mg) (hb' : hb.Ns builtinsNs mb) (e1 : nsIn K mainGlobals nm = some (some (.ref f))) (e2 : K.lookup f = some o)
    (e3 : o.data = .func (fnAt i nm dV pm cd doc)) (e4 : codeIn K cd nm = true) : FnOk hb i nm f dV :=
  ⟨⟨mg, mb, hg, hb', .inl (mg_of X hg e1)⟩, o, pm, cd, doc, X _ _ e2, e3, codeRec_of X e4⟩
theorem gnm_b {x : Str} {v : Value} (X : K.In hb) (hg : hb.Ns mainGlobals mg) (hb' : hb.Ns builtinsNs mb) (hB : ∀ x : Str, x ≠ "__name__" → mb x = bootBuiltins x) (e : nsIn K mainGlobals x = some none) (hv : bootBuiltins x = some v) (hn : x ≠ "__name__") : GNm hb x v :=
  ⟨mg, mb, hg, hb', .inr ⟨mg_none_of X hg e, (hB x hn).trans hv⟩⟩
end
set_option maxHeartbeats 4000000 in
theorem topW_of {P : Params} {hb : Heap} {mg mb : Str → Option Value} (X : (kHeap P).In hb) (hg : hb.Ns mainGlobals mg) (hb' : hb.Ns builtinsNs mb) (hB : ∀ x : Str, x ≠ "__name__" → mb x = bootBuiltins x) (hlim : hb.NoLimit)
    (hc : CodeHd hb 108 106) (hbi : hb.BuiltinsAt mg 106) : TopW hb 108 106 mg := by
  have b : ∀ {x : Str} {v : Value}, nsIn (kHeap P) mainGlobals x = some none → bootBuiltins x = some v → x ≠ "__name__" → GNm hb x v := fun e hv hn => gnm_b X hg hb' hB e hv hn
  have len : GNm hb "len" (.builtin "len") := b (by kernel_rfl) (by kernel_rfl) (by decide)
  have b_range : GNm hb "range" (.type "range") := b (by kernel_rfl) (by kernel_rfl) (by decide)
  have b_reversed : GNm hb "reversed" (.type "reversed") := b (by kernel_rfl) (by kernel_rfl) (by decide)
  have b_min : GNm hb "min" (.builtin "min") := b (by kernel_rfl) (by kernel_rfl) (by decide)
  have b_max : GNm hb "max" (.builtin "max") := b (by kernel_rfl) (by kernel_rfl) (by decide)
  have b_isinstance : GNm hb "isinstance" (.builtin "isinstance") := b (by kernel_rfl) (by kernel_rfl) (by decide)
  have b_int : GNm hb "int" (.type "int") := b (by kernel_rfl) (by kernel_rfl) (by decide)
  have b_list : GNm hb "list" (.type "list") := b (by kernel_rfl) (by kernel_rfl) (by decide)
  have b_sum : GNm hb "sum" (.builtin "sum") := b (by kernel_rfl) (by kernel_rfl) (by decide)
  have b_iter : GNm hb "iter" (.builtin "iter") := b (by kernel_rfl) (by kernel_rfl) (by decide)
  have b_object : GNm hb "object" (.type "object") := b (by kernel_rfl) (by kernel_rfl) (by decide)
  have b_sorted : GNm hb "sorted" (.builtin "sorted") := b (by kernel_rfl) (by kernel_rfl) (by decide)
  have b_zip : GNm hb "zip" (.type "zip") := b (by kernel_rfl) (by kernel_rfl) (by decide)
  have b_repr : GNm hb "repr" (.builtin "repr") := b (by kernel_rfl) (by kernel_rfl) (by decide)
  have f_safe_repr : FnOk hb 2 "safe_repr" 22 (.ref 15) := fnOk_of X hg hb' (by kernel_rfl) (by rfl) (by rfl) (by kernel_rfl)
  have f_heapreplace : FnOk hb 4 "heapreplace" 29 (.none) := fnOk_of X hg hb' (by kernel_rfl) (by rfl) (by rfl) (by kernel_rfl)
  have f_heapify : FnOk hb 5 "heapify" 36 (.none) := fnOk_of X hg hb' (by kernel_rfl) (by rfl) (by rfl) (by kernel_rfl)
  have f__heapreplace_max : FnOk hb 6 "_heapreplace_max" 43 (.none) := fnOk_of X hg hb' (by kernel_rfl) (by rfl) (by rfl) (by kernel_rfl)
  have f__heapify_max : FnOk hb 7 "_heapify_max" 50 (.none) := fnOk_of X hg hb' (by kernel_rfl) (by rfl) (by rfl) (by kernel_rfl)
  have f__siftdown : FnOk hb 8 "_siftdown" 57 (.none) := fnOk_of X hg hb' (by kernel_rfl) (by rfl) (by rfl) (by kernel_rfl)
  have f__siftup : FnOk hb 9 "_siftup" 64 (.none) := fnOk_of X hg hb' (by kernel_rfl) (by rfl) (by rfl) (by kernel_rfl)
  have f__siftdown_max : FnOk hb 10 "_siftdown_max" 71 (.none) := fnOk_of X hg hb' (by kernel_rfl) (by rfl) (by rfl) (by kernel_rfl)
  have f__siftup_max : FnOk hb 11 "_siftup_max" 78 (.none) := fnOk_of X hg hb' (by kernel_rfl) (by rfl) (by rfl) (by kernel_rfl)
  have f_nsmallest : FnOk hb 12 "nsmallest" 84 (.ref 79) := fnOk_of X hg hb' (by kernel_rfl) (by rfl) (by rfl) (by kernel_rfl)
  have f_nlargest : FnOk hb 13 "nlargest" 90 (.ref 85) := fnOk_of X hg hb' (by kernel_rfl) (by rfl) (by rfl) (by kernel_rfl)
  have f__law_things : FnOk hb 15 "_law_things" 97 (.none) := fnOk_of X hg hb' (by kernel_rfl) (by rfl) (by rfl) (by kernel_rfl)
  have f__law_held : FnOk hb 16 "_law_held" 104 (.none) := fnOk_of X hg hb' (by kernel_rfl) (by rfl) (by rfl) (by kernel_rfl)
  exact {
    L := ⟨⟨hlim, len, b_range, b_min, b_isinstance, b_int⟩, b_list, b_sum⟩
    H := ⟨hlim, len, b_range, b_reversed, ⟨_, f__siftdown_max⟩, ⟨_, f__siftup_max⟩, ⟨_, f__heapify_max⟩, ⟨_, f__heapreplace_max⟩⟩
    N := ⟨hlim, len, b_range, b_reversed, ⟨_, f__siftdown⟩, ⟨_, f__siftup⟩, ⟨_, f_heapify⟩, ⟨_, f_heapreplace⟩⟩
    S := ⟨b_iter, b_object, b_min, b_max, b_sorted, b_zip⟩
    repr := b_repr
    lam := ⟨hg, hc, hbi, by decide⟩
    sr := ⟨_, _, f_safe_repr, 15, _, _, rfl, X 15 _ rfl, rfl⟩
    ns := ⟨_, _, f_nsmallest, 79, _, _, rfl, X 79 _ rfl, rfl⟩
    nl := ⟨_, _, f_nlargest, 85, _, _, rfl, X 85 _ rfl, rfl⟩
    things := ⟨_, f__law_things⟩
    held := ⟨_, f__law_held⟩ }
end Mine
end
section
open PySem PySem.W PyProof.Rows
namespace Mine
/-- entering a def from outside: all of the heap but the table P is rigid -/
theorem enterTop {prog : Program} {w : World} {A : Around} {s : Shared} {hb : Heap} {P f : Addr} {tab o : Obj} {fd : FuncData} {body : List Stmt} {vals : List Value} {binds : List (Str × Value)} {names : List Str} {vs : List (Option Value)} {cm : Str → Option Value} {R : Value → Shared → Prop} {E : Value → Shared → Prop}
    (hbk : ∀ a o, hb.get? a = some o → s.heap.get? a = some o) (hbP : hb.get? P = none) (hP : s.heap.get? P = some tab) (hg : s.gens = #[])
    (ho : s.heap.get? f = some o) (hd : o.data = .func fd) (hlim : s.heap.NoLimit) (hcd : s.heap.CodeRec fd.code fd.qualname)
    (hbody : fd.body = .stmts body) (hclo : fd.closure = []) (hroom : A.depth < recursionLimit) (hbind : BindsTo s fd ⟨vals, []⟩ binds)
    (hkind : ∀ L, ∀ x ∈ binds, fd.scope.names.lookup x.1 = some .local ∨ (fd.scope.names.lookup x.1 = some .cell ∧ ((cellsFrom L fd.scope.names []).lookup x.1).isSome = true))
    (hlk : bindL (fun n => fd.scope.names.lookup n) binds (fun _ => none) = lk names vs) (hcm : bindC (fun n => fd.scope.names.lookup n) binds (fun _ => none) = cm) (hlen : vs.length = names.length)
    (hok : ∀ L, EnvOk (callEnvC fd L f) names)
    (h : ∀ (c' : Cf) (L : Addr) (D' : Addr → Option AO), c'.env = callEnvC fd L f → c'.hb = hb → D' P = some (.obj tab) → (∀ n a, (cellsFrom (L + 1) fd.scope.names []).lookup n = some a → D' a = some (.cell (cm n))) →
      WP prog w (c'.nm names) (A.deeper c'.env) (execs body c'.env) (fun fl σ' => fl = .ret (.bool true) ∧ ∃ ps, σ'.D P = some (.obj (tabObj ps))) ⟨vs, D'⟩)
    (hR : ∀ s', (∀ a o, s.heap.get? a = some o → a ≠ P → s'.heap.get? a = some o) → (∃ ps, s'.heap.get? P = some (tabObj ps)) → s'.gens = #[] → s'.os = s.os → R (.bool true) s')
    (hco : fd.scope.isCoroutine = false := by rfl) (hgen : fd.scope.isGenerator = false := by rfl) (hk : fd.scope.kind = .function := by rfl) :
    wpAny (model prog w) A (call (.ref f) vals) R E s := by
  refine wpAny_call (codeAny_call_function hroom ho hd hco hgen hbody hcd (hbind _ _ _ _ ?_))
  rw [hclo]
  refine wpAny_newFunctionEnv_cells hk (hkind _) fun env' he' s₁ X => ?_
  subst he'
  replace X : InCallC s (callEnvC fd s.heap.objs.size f).locals (bindL (callEnvC fd s.heap.objs.size f).kindOf binds fun _ => none) (callEnvC fd s.heap.objs.size f).cells (bindC (callEnvC fd s.heap.objs.size f).kindOf binds fun _ => none) s₁ := X
  refine ⟨hlim.keeps X.toInCall.keep, codeAny_func ?_⟩
  show wpAny _ (A.deeper (callEnvC fd s.heap.objs.size f)) (execs body (callEnvC fd s.heap.objs.size f)) _ _ _
  have hadr : ∀ {n a}, (cellsFrom (s.heap.objs.size + 1) fd.scope.names []).lookup n = some a → s.heap.objs.size < a := fun e => X.above _ _ (mem_of_lookup e)
  have hnone : ∀ {n a}, (cellsFrom (s.heap.objs.size + 1) fd.scope.names []).lookup n = some a → s.heap.get? a = none := fun {n a} e => by
    cases q : s.heap.get? a with
    | none => rfl
    | some ob => exact absurd (Heap.lt_size q) (Nat.not_lt.mpr (Nat.le_of_lt (hadr e)))
  have hinj : ∀ n m a, (cellsFrom (s.heap.objs.size + 1) fd.scope.names []).lookup n = some a → (cellsFrom (s.heap.objs.size + 1) fd.scope.names []).lookup m = some a → n = m :=
    fun n m a e1 e2 => name_of_addr X.apart (mem_of_lookup e1) (mem_of_lookup e2)
  obtain ⟨h₁, tk, e0, hext⟩ := X.done
  have hcell := X.cell
  have hcm' : (bindC (callEnvC fd s.heap.objs.size f).kindOf binds fun _ => none) = cm := hcm
  have hcell2 : ∀ n a, (cellsFrom (s.heap.objs.size + 1) fd.scope.names []).lookup n = some a → s₁.heap.IsCell a (cm n) := fun n a e => by
    have := hcell n a e
    rw [hcm'] at this
    exact this
  have hns : s₁.heap.Ns (callEnvC fd s.heap.objs.size f).locals (lk names vs) := by
    have := X.toInCall.ns
    have e : (bindL (callEnvC fd s.heap.objs.size f).kindOf binds fun _ => none) = lk names vs := hlk
    rw [e] at this
    exact this
  have hsz : s.heap.get? s.heap.objs.size = none := get_size _
  have hext' : ∀ b o, s.heap.get? b = some o → s₁.heap.get? b = some o := by rw [e0]; exact hext
  classical
  let D' : Addr → Option AO := fun a => if q : ∃ n, (cellsFrom (s.heap.objs.size + 1) fd.scope.names []).lookup n = some a then some (.cell (cm q.choose)) else if a = P then some (.obj tab) else none
  have d1 : ∀ n a, (cellsFrom (s.heap.objs.size + 1) fd.scope.names []).lookup n = some a → D' a = some (.cell (cm n)) := fun n a e => by
    have q : ∃ n, (cellsFrom (s.heap.objs.size + 1) fd.scope.names []).lookup n = some a := ⟨n, e⟩
    show (if q : ∃ n, (cellsFrom (s.heap.objs.size + 1) fd.scope.names []).lookup n = some a then some (AO.cell (cm q.choose)) else _) = _
    rw [dif_pos q, hinj _ _ _ q.choose_spec e]
  have dP : D' P = some (.obj tab) := by
    show (if q : ∃ n, (cellsFrom (s.heap.objs.size + 1) fd.scope.names []).lookup n = some P then some (AO.cell (cm q.choose)) else if P = P then some (.obj tab) else none) = _
    rw [dif_neg, if_pos rfl]
    rintro ⟨n, q⟩
    rw [hnone q] at hP; cases hP
  have dE : ∀ a x, D' a = some x → (a = P ∧ x = .obj tab) ∨ ∃ n, (cellsFrom (s.heap.objs.size + 1) fd.scope.names []).lookup n = some a ∧ x = .cell (cm n) := fun a x e => by
    by_cases q : ∃ n, (cellsFrom (s.heap.objs.size + 1) fd.scope.names []).lookup n = some a
    · obtain ⟨n, q⟩ := q
      rw [d1 n a q] at e
      cases e
      exact .inr ⟨n, q, rfl⟩
    · have : D' a = if a = P then some (.obj tab) else none := dif_neg q
      rw [this] at e
      split at e
      · rename_i z; cases e; exact .inl ⟨z, rfl⟩
      · cases e
  let c' : Cf := { env := callEnvC fd s.heap.objs.size f, names := names, R := fun a => if a = P then none else s.heap.get? a, os := s.os, hb := hb }
  have A0 : Abs c' ⟨vs, D'⟩ s₁ := {
    ok := hok _
    len := hlen
    ns := hns
    rig := fun a ob e => by
      have e' : (if a = P then none else s.heap.get? a) = some ob := e
      split at e'
      · cases e'
      · exact hext' _ _ e'
    dat := fun a x e => by
      rcases dE a x e with ⟨rfl, rfl⟩ | ⟨n, q, rfl⟩
      · exact ⟨tab, hext' _ _ hP, rfl⟩
      · obtain ⟨oc, e1, r⟩ := hcell2 n a q
        exact ⟨oc, e1, r⟩
    apart := fun a x e => by
      rcases dE a x e with ⟨rfl, rfl⟩ | ⟨n, q, rfl⟩
      · exact ⟨Nat.ne_of_lt (Heap.lt_size hP), if_pos rfl⟩
      · refine ⟨Nat.ne_of_gt (hadr q), ?_⟩
        show (if a = P then none else s.heap.get? a) = none
        split
        · rfl
        · exact hnone q
    fr := by
      show (if s.heap.objs.size = P then none else s.heap.get? s.heap.objs.size) = none
      rw [hsz]; split <;> rfl
    base := fun a ob e => by
      show (if a = P then none else s.heap.get? a) = some ob
      rw [if_neg (fun z => by rw [z, hbP] at e; cases e)]
      exact hbk _ _ e
    gens := by rw [e0]; exact hg
    os := by rw [e0] }
  have key := h c' s.heap.objs.size D' rfl rfl dP d1
  refine wpAny_mono (key s₁ A0) (fun fl s' ⟨σ', a', e1, ps, e2⟩ => ?_) fun _ _ e => e.elim
  subst e1
  exact hR s' (fun a o e z => a'.rig _ _ (show (if a = P then none else s.heap.get? a) = some o by rw [if_neg z, e])) ⟨ps, a'.obj e2⟩ a'.gens a'.os
end Mine
end
section
open PySem PySem.W PyProof.Rows
set_option maxRecDepth 100000
namespace Mine
set_option maxHeartbeats 8000000 in
theorem law_ok {w : World} {s₁ : Shared} {p : Program} {loose : List Str} {mean : ExcName → Option Value} {mg mb : Str → Option Value} {sc : Addr} {xs : List Value} {R E : Value → Shared → Prop} (T : Top p loose mean mg mb s₁.heap) (X : (kHeap w.params).In s₁.heap)
    (tabs : s₁.heap.get? 106 = some (tabObj #[])) (hg : s₁.gens = #[]) (hL : s₁.heap.IsList sc xs.toArray) (hI : ∀ v ∈ xs, ∃ i t, v = .int i t) (hz : xs.length ≤ 63)
    (hR : ∀ s', (∀ a o, s₁.heap.get? a = some o → a ≠ 106 → s'.heap.get? a = some o) → (∃ ps, s'.heap.get? 106 = some (tabObj ps)) → s'.gens = #[] → s'.os = s₁.os → R (.bool true) s') :
    wpAny (model prg w) callerA (call (.ref 109) [.ref sc]) R E s₁ := by
  have hT : TabsAt [(108, 106)] s₁.heap := fun q hq => by
    rw [List.mem_singleton.mp hq]
    exact ⟨codeHd_of_K X (by kernel_rfl), tabs⟩
  have XH := ghost_K hT X (by kernel_rfl)
  have gT := ghost_top hT T
  have hbi : (ghostOf s₁.heap [(108, 106)]).BuiltinsAt mg 106 := by
    obtain ⟨bm, ob, a1, a2, a3, r⟩ := gT.bmain
    have : mg "__builtins__" = some (.ref 4) := mg_of XH gT.g (by kernel_rfl)
    rw [this] at a1
    cases a1
    exact ⟨4, ob, this, a2, by decide, by decide, a3, r⟩
  have W := topW_of XH gT.g gT.b gT.builtins gT.nolimit (ghost_code hT).1 hbi
  refine enterTop (hb := ghostOf s₁.heap [(108, 106)]) (P := 106) (fd := fnAt 17 "law" .none (.str (Str.ofString "law_mr0269_01") 300) (.ref 108) .none) (names := nmLW) (vs := [some (.ref sc), none, none, none]) (cm := fun _ => none) (binds := [(Str.ofString "script", .ref sc)]) (fun a o e => of_hideAll _ e) (hideAll_none _ (.head _)) tabs hg
    (X 109 _ rfl) rfl T.nolimit (codeRec_of X (by kernel_rfl)) rfl rfl (by decide) (BindsTo.of_eq (by with_unfolding_all rfl)) ?_ ?_ ?_ rfl ?_ ?_ hR
  · intro L x hx
    rw [List.mem_singleton.mp hx]
    exact .inl (by show (scopeAt 17).names.lookup (Str.ofString "script") = some .local; decide +kernel)
  · have k1 : (fun n => (scopeAt 17).names.lookup n) (Str.ofString "script") = some .local := by decide +kernel
    show bindL (fun n => (scopeAt 17).names.lookup n) _ _ = _
    simp only [bindL, k1, if_true]
    funext y
    show _ = if y = Str.ofString "script" then some (Value.ref sc) else if y = Str.ofString "pairs" then none else if y = Str.ofString "ahead" then none else if y = Str.ofString "count" then none else none
    by_cases h1 : y = Str.ofString "script"
    · rw [if_pos h1, if_pos h1]
    · rw [if_neg h1, if_neg h1]; simp
  · have k1 : (fun n => (scopeAt 17).names.lookup n) (Str.ofString "script") = some .local := by decide +kernel
    show bindC (fun n => (scopeAt 17).names.lookup n) _ _ = _
    simp only [bindC, k1, if_true]
  · intro L
    exact ⟨rfl, by show ∀ x ∈ nmLW, (scopeAt 17).names.lookup x = some .local; decide +kernel, by decide +kernel, by decide +kernel, rfl, rfl⟩
  · intro c' L D' g1 g2 dP dC
    have dc : ∀ n a, (cellsFrom (L + 1) (scopeAt 17).names []).lookup n = some a → D' a = some (.cell none) := dC
    have W' : TopW c'.hb 108 106 mg := by rw [g2]; exact W
    have G : LG c' (callerA.deeper c'.env) 108 106 mg (L + 1) (L + 1 + 1) (L + 1 + 1 + 1) (L + 1 + 1 + 1 + 1) (L + 1 + 1 + 1 + 1 + 1) (L + 1 + 1 + 1 + 1 + 1 + 1) := {
      Z := {
        T := W'
        C := ⟨by rw [g1]; rfl, by rw [g1]; rfl⟩
        code := by rw [g1]; rfl
        qual := by rw [g1]; show (Str.ofString "law" ++ ".<locals>." : Str) ++ "<lambda>" = lamQ; decide +kernel
        hh := rfl
        hg := rfl
        hu := by show 4 + 3 + 60 < cLine; decide
        hd := by show 1 + claimMargin + 1 + 10 < recursionLimit; decide
        lh := by k_ne
        lr := by k_ne
        lf := by k_ne
        lm := by k_ne
        mh := by k_ne
        mr := by k_ne
        mf := by k_ne }
      ph := by k_ne
      pr := by k_ne
      pf := by k_ne
      hr := by k_ne
      hf := by k_ne
      rf := by k_ne }
    have B : L0 D' 106 (L + 1) (L + 1 + 1) (L + 1 + 1 + 1) (L + 1 + 1 + 1 + 1) (L + 1 + 1 + 1 + 1 + 1) (L + 1 + 1 + 1 + 1 + 1 + 1) :=
      ⟨⟨#[], dP, trivial, fun pos => .inl rfl⟩, ⟨_, dc (Str.ofString "heard") _ rfl⟩, ⟨_, dc (Str.ofString "rising") _ rfl⟩, ⟨_, dc (Str.ofString "falling") _ rfl⟩, ⟨_, dc (Str.ofString "pair") _ rfl⟩, ⟨_, dc (Str.ofString "least") _ rfl⟩, ⟨_, dc (Str.ofString "most") _ rfl⟩⟩
    exact law_a G B (by rw [g2]; exact ghost_list hT hL) hz hI fun vv D'' t => ⟨rfl, let ⟨ps, e, _⟩ := t; ⟨ps, e⟩⟩
end Mine
end
section
open PySem PySem.W PyProof.Rows
set_option maxRecDepth 100000
namespace Mine
theorem ints_all {xs : List Value} {ns : List Int} (h : IntsAre xs ns) : (∀ v ∈ xs, ∃ i t, v = .int i t) ∧ xs.length = ns.length := by
  induction h with
  | nil => exact ⟨fun v hv => by simp at hv, rfl⟩
  | cons n t _ ih => exact ⟨fun v hv => by
      rcases List.mem_cons.mp hv with rfl | hv
      · exact ⟨n, t, rfl⟩
      · exact ih.1 v hv, by simp [ih.2]⟩
theorem oldK_of {h h' : Heap} {ps : Array Value} (hc : CodeHd h 108 106) (ht : h.get? 106 = some (tabObj #[])) (hk : ∀ a o, h.get? a = some o → a ≠ 106 → h'.get? a = some o) (ht' : h'.get? 106 = some (tabObj ps)) : OldK h h' := by
  have hx : Heap.ExtBut 106 h h' := fun b o z e => hk b o e z
  have hc' : CodeHd h' 108 106 := by
    obtain ⟨o, vs, file, tf, flags, tg, inF, text, tt, e1, r⟩ := hc
    exact ⟨o, vs, file, tf, flags, tg, inF, text, tt, hk _ _ e1 (by decide), r⟩
  exact (OldK.refl h).step_table (hc.tab ht) (hc.tab ht) (ps := #[]) (more := ps) (by simpa using hc'.tab ht') hx (by decide)
end Mine
set_option maxHeartbeats 8000000 in
theorem PySem.Challenge.cw_mr0269_01_holds : PySem.Challenge.rw_mr0269_01.Holds := by
  w_on
  o_law
  o_head (kmHook (fun P =>
    [(3, { cls := .type "dict", data := .dict #[Mine.kE P "__name__" 165 (Value.str (Str.ofString "law_mr0269_01") 300),
          Mine.kE P "__doc__" 166 (Value.none),
          Mine.kE P "__package__" 167 (Value.none),
          Mine.kE P "__loader__" 168 (Value.builtin "__main__.__loader__#opaque"),
          Mine.kE P "__spec__" 169 (Value.none),
          Mine.kE P "__annotations__" 170 (Value.ref 6),
          Mine.kE P "__builtins__" 171 (Value.ref 4),
          Mine.kE P "__file__" 173 (Value.str (Str.ofString "/claim/cut.py") 172),
          Mine.kE P "__cached__" 174 (Value.none),
          Mine.kE P "_MAX_LENGTH" 190 (Value.int 80 189),
          Mine.kE P "safe_repr" 199 (Value.ref 22),
          Mine.kE P "heapreplace" 210 (Value.ref 29),
          Mine.kE P "heapify" 219 (Value.ref 36),
          Mine.kE P "_heapreplace_max" 228 (Value.ref 43),
          Mine.kE P "_heapify_max" 237 (Value.ref 50),
          Mine.kE P "_siftdown" 249 (Value.ref 57),
          Mine.kE P "_siftup" 262 (Value.ref 64),
          Mine.kE P "_siftdown_max" 274 (Value.ref 71),
          Mine.kE P "_siftup_max" 287 (Value.ref 78),
          Mine.kE P "nsmallest" 293 (Value.ref 84),
          Mine.kE P "nlargest" 299 (Value.ref 90),
          Mine.kE P "_law_things" 311 (Value.ref 97),
          Mine.kE P "_law_held" 321 (Value.ref 104),
          Mine.kE P "law" 327 (Value.ref 109)] 24 }),
       (15, { cls := Value.type "tuple", data := Data.seq #[Value.bool false] }),
       (21, Mine.kC #[Value.str (Str.ofString "safe_repr") 191, Value.str (Str.ofString "safe_repr") 192, Value.str (Str.ofString "/claim/cut.py") 193, Value.int 3 0, Value.int 2 0, Value.int 0 0, Value.int 0 0, Value.int 3 0, Value.ref 16, Value.bool true, Value.int 181 0, Value.ref 17, Value.none, Value.ref 18, Value.ref 19, Value.ref 20, Value.int 197 0, Value.int 3 0, Value.str (Str.ofString "/claim/cut.py") 198]),
       (22, Mine.kF 2 "safe_repr" (Value.ref 15) (.str (Str.ofString "cpy313.unittest.util") 187) (.ref 21)),
       (28, Mine.kC #[Value.str (Str.ofString "heapreplace") 202, Value.str (Str.ofString "heapreplace") 203, Value.str (Str.ofString "/claim/cut.py") 204, Value.int 12 0, Value.int 2 0, Value.int 0 0, Value.int 0 0, Value.int 3 0, Value.ref 23, Value.bool true, Value.int 181 0, Value.ref 24, Value.none, Value.ref 25, Value.ref 26, Value.ref 27, Value.int 208 0, Value.int 12 0, Value.str (Str.ofString "/claim/cut.py") 209]),
       (29, Mine.kF 4 "heapreplace" (Value.none) (.str (Str.ofString "cpy313.heapq") 200) (.ref 28)),
       (35, Mine.kC #[Value.str (Str.ofString "heapify") 211, Value.str (Str.ofString "heapify") 212, Value.str (Str.ofString "/claim/cut.py") 213, Value.int 17 0, Value.int 1 0, Value.int 0 0, Value.int 0 0, Value.int 3 0, Value.ref 30, Value.bool true, Value.int 181 0, Value.ref 31, Value.none, Value.ref 32, Value.ref 33, Value.ref 34, Value.int 217 0, Value.int 17 0, Value.str (Str.ofString "/claim/cut.py") 218]),
       (36, Mine.kF 5 "heapify" (Value.none) (.str (Str.ofString "cpy313.heapq") 200) (.ref 35)),
       (42, Mine.kC #[Value.str (Str.ofString "_heapreplace_max") 220, Value.str (Str.ofString "_heapreplace_max") 221, Value.str (Str.ofString "/claim/cut.py") 222, Value.int 21 0, Value.int 2 0, Value.int 0 0, Value.int 0 0, Value.int 3 0, Value.ref 37, Value.bool true, Value.int 181 0, Value.ref 38, Value.none, Value.ref 39, Value.ref 40, Value.ref 41, Value.int 226 0, Value.int 21 0, Value.str (Str.ofString "/claim/cut.py") 227]),
       (43, Mine.kF 6 "_heapreplace_max" (Value.none) (.str (Str.ofString "cpy313.heapq") 200) (.ref 42)),
       (49, Mine.kC #[Value.str (Str.ofString "_heapify_max") 229, Value.str (Str.ofString "_heapify_max") 230, Value.str (Str.ofString "/claim/cut.py") 231, Value.int 26 0, Value.int 1 0, Value.int 0 0, Value.int 0 0, Value.int 3 0, Value.ref 44, Value.bool true, Value.int 181 0, Value.ref 45, Value.none, Value.ref 46, Value.ref 47, Value.ref 48, Value.int 235 0, Value.int 26 0, Value.str (Str.ofString "/claim/cut.py") 236]),
       (50, Mine.kF 7 "_heapify_max" (Value.none) (.str (Str.ofString "cpy313.heapq") 200) (.ref 49)),
       (56, Mine.kC #[Value.str (Str.ofString "_siftdown") 238, Value.str (Str.ofString "_siftdown") 239, Value.str (Str.ofString "/claim/cut.py") 240, Value.int 30 0, Value.int 3 0, Value.int 0 0, Value.int 0 0, Value.int 3 0, Value.ref 51, Value.bool true, Value.int 181 0, Value.ref 52, Value.none, Value.ref 53, Value.ref 54, Value.ref 55, Value.int 247 0, Value.int 30 0, Value.str (Str.ofString "/claim/cut.py") 248]),
       (57, Mine.kF 8 "_siftdown" (Value.none) (.str (Str.ofString "cpy313.heapq") 200) (.ref 56)),
       (63, Mine.kC #[Value.str (Str.ofString "_siftup") 250, Value.str (Str.ofString "_siftup") 251, Value.str (Str.ofString "/claim/cut.py") 252, Value.int 41 0, Value.int 2 0, Value.int 0 0, Value.int 0 0, Value.int 3 0, Value.ref 58, Value.bool true, Value.int 181 0, Value.ref 59, Value.none, Value.ref 60, Value.ref 61, Value.ref 62, Value.int 260 0, Value.int 41 0, Value.str (Str.ofString "/claim/cut.py") 261]),
       (64, Mine.kF 9 "_siftup" (Value.none) (.str (Str.ofString "cpy313.heapq") 200) (.ref 63)),
       (70, Mine.kC #[Value.str (Str.ofString "_siftdown_max") 263, Value.str (Str.ofString "_siftdown_max") 264, Value.str (Str.ofString "/claim/cut.py") 265, Value.int 55 0, Value.int 3 0, Value.int 0 0, Value.int 0 0, Value.int 3 0, Value.ref 65, Value.bool true, Value.int 181 0, Value.ref 66, Value.none, Value.ref 67, Value.ref 68, Value.ref 69, Value.int 272 0, Value.int 55 0, Value.str (Str.ofString "/claim/cut.py") 273]),
       (71, Mine.kF 10 "_siftdown_max" (Value.none) (.str (Str.ofString "cpy313.heapq") 200) (.ref 70)),
       (77, Mine.kC #[Value.str (Str.ofString "_siftup_max") 275, Value.str (Str.ofString "_siftup_max") 276, Value.str (Str.ofString "/claim/cut.py") 277, Value.int 66 0, Value.int 2 0, Value.int 0 0, Value.int 0 0, Value.int 3 0, Value.ref 72, Value.bool true, Value.int 181 0, Value.ref 73, Value.none, Value.ref 74, Value.ref 75, Value.ref 76, Value.int 285 0, Value.int 66 0, Value.str (Str.ofString "/claim/cut.py") 286]),
       (78, Mine.kF 11 "_siftup_max" (Value.none) (.str (Str.ofString "cpy313.heapq") 200) (.ref 77)),
       (79, { cls := Value.type "tuple", data := Data.seq #[Value.none] }),
       (83, Mine.kC #[Value.str (Str.ofString "nsmallest") 288, Value.str (Str.ofString "nsmallest") 289, Value.str (Str.ofString "/claim/cut.py") 290, Value.int 80 0, Value.int 3 0, Value.int 0 0, Value.int 0 0, Value.int 3 0, Value.ref 80, Value.bool true, Value.int 181 0, Value.ref 81, Value.none, Value.none, Value.none, Value.ref 82, Value.int 291 0, Value.int 80 0, Value.str (Str.ofString "/claim/cut.py") 292]),
       (84, Mine.kF 12 "nsmallest" (Value.ref 79) (.str (Str.ofString "cpy313.heapq") 200) (.ref 83)),
       (85, { cls := Value.type "tuple", data := Data.seq #[Value.none] }),
       (89, Mine.kC #[Value.str (Str.ofString "nlargest") 294, Value.str (Str.ofString "nlargest") 295, Value.str (Str.ofString "/claim/cut.py") 296, Value.int 125 0, Value.int 3 0, Value.int 0 0, Value.int 0 0, Value.int 3 0, Value.ref 86, Value.bool true, Value.int 181 0, Value.ref 87, Value.none, Value.none, Value.none, Value.ref 88, Value.int 297 0, Value.int 125 0, Value.str (Str.ofString "/claim/cut.py") 298]),
       (90, Mine.kF 13 "nlargest" (Value.ref 85) (.str (Str.ofString "cpy313.heapq") 200) (.ref 89)),
       (96, Mine.kC #[Value.str (Str.ofString "_law_things") 302, Value.str (Str.ofString "_law_things") 303, Value.str (Str.ofString "/claim/cut.py") 304, Value.int 171 0, Value.int 1 0, Value.int 0 0, Value.int 0 0, Value.int 3 0, Value.ref 91, Value.bool true, Value.int 181 0, Value.ref 92, Value.none, Value.ref 93, Value.ref 94, Value.ref 95, Value.int 309 0, Value.int 171 0, Value.str (Str.ofString "/claim/cut.py") 310]),
       (97, Mine.kF 15 "_law_things" (Value.none) (.str (Str.ofString "law_mr0269_01") 300) (.ref 96)),
       (103, Mine.kC #[Value.str (Str.ofString "_law_held") 312, Value.str (Str.ofString "_law_held") 313, Value.str (Str.ofString "/claim/cut.py") 314, Value.int 183 0, Value.int 2 0, Value.int 0 0, Value.int 0 0, Value.int 3 0, Value.ref 98, Value.bool true, Value.int 181 0, Value.ref 99, Value.none, Value.ref 100, Value.ref 101, Value.ref 102, Value.int 319 0, Value.int 183 0, Value.str (Str.ofString "/claim/cut.py") 320]),
       (104, Mine.kF 16 "_law_held" (Value.none) (.str (Str.ofString "law_mr0269_01") 300) (.ref 103)),
       (108, Mine.kC #[Value.str (Str.ofString "law") 322, Value.str (Str.ofString "law") 323, Value.str (Str.ofString "/claim/cut.py") 324, Value.int 195 0, Value.int 1 0, Value.int 0 0, Value.int 0 0, Value.int 3 0, Value.ref 105, Value.bool true, Value.int 181 0, Value.ref 106, Value.none, Value.none, Value.none, Value.ref 107, Value.int 325 0, Value.int 195 0, Value.str (Str.ofString "/claim/cut.py") 326]),
       (109, Mine.kF 17 "law" (Value.none) (.str (Str.ofString "law_mr0269_01") 300) (.ref 108))]) [3, 15, 21, 22, 28, 29, 35, 36, 42, 43, 49, 50, 56, 57, 63, 64, 70, 71, 77, 78, 79, 83, 84, 85, 89, 90, 96, 97, 103, 104, 108, 109] (fun _ => by kernel_rfl) [106])
  (case hw => w_witness2)
  intro w s₀ s₁ mg mb G Y fa o pm cd doc dV kV ho hd' hcd hD hmg hg args vals as hpre hlay hrd hwl hlo
  have T := G.T
  have X : (Mine.kHeap w.params).In s₁.heap := km_in_of Y
  have tabs := km_tabs_of Y 106 (.head _)
  have efa : fa = 109 := by
    have e : mg (Str.ofString "law") = some (.ref 109) := mg_of X T.g (by kernel_rfl)
    have e' : mg (Str.ofString "law") = some (.ref fa) := hmg
    rw [e] at e'
    cases e'
    rfl
  subst efa
  clear G Y hD hcd hd' hmg
  wrow_args hpre hlay hrd hwl hlo
  rename_i ns _ _ _ _ _ _ _ sc xs _ hL _ _ _ hI _ hcond _
  obtain ⟨i1, i2⟩ := Mine.ints_all hI
  refine Mine.law_ok T X tabs hg hL i1 (by lia) fun s' hk ⟨ps, hP⟩ hgs hos => ?_
  refine ⟨.inl ⟨_, _, _, rfl, raisesW_false allW_false_nil, .bool true, postW_of (X := true) (by wrow_shape) (by wtm_val) (by w_fin), fun _ => ⟨by simp, fun _ h => by simp at h⟩⟩, ?_, hos, .of_eq hgs⟩
  exact Mine.oldK_of (codeHd_of_K X (by kernel_rfl)) tabs hk hP
end
