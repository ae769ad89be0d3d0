import PyProof.Rows.All
import Wide.All
import OpenK.AllK
import Wide.FinOn
import PySem.Challenge.RW_oy0274_01
open PySem PySem.W PyProof.Rows PySem.Calls
set_option Elab.async false
set_option linter.all false
set_option genSizeOf false
set_option maxRecDepth 100000
set_option maxHeartbeats 8000000
section
open PySem PySem.W PyProof.Rows PySem.Calls
set_option maxRecDepth 100000
namespace Mine
noncomputable def er : Value → Value
  | .int i _ => .int i 0
  | .float b _ => .float b 0
  | .str s _ => .str s 0
  | .bytes b _ => .bytes b 0
  | v => v
noncomputable def erF : Flow → Flow
  | .ret v => .ret (er v)
  | f => f
noncomputable def erp {α : Type} (p : α × Value) : α × Value := (p.1, er p.2)
theorem er_int {v : Value} {i : Int} {k : Tok} (h : er v = .int i k) : ∃ t, v = .int i t := by
  cases v <;> simp only [er, Value.int.injEq, reduceCtorEq] at h
  exact ⟨_, by rw [h.1]⟩
theorem er_str {v : Value} {i : Str} {k : Tok} (h : er v = .str i k) : ∃ t, v = .str i t := by
  cases v <;> simp only [er, Value.str.injEq, reduceCtorEq] at h
  exact ⟨_, by rw [h.1]⟩
theorem er_ref {v : Value} {a : Addr} (h : er v = .ref a) : v = .ref a := by
  cases v <;> simp only [er, Value.ref.injEq, reduceCtorEq] at h
  rw [h]
theorem er_type {v : Value} {b : String} (h : er v = .type b) : v = .type b := by
  cases v <;> simp only [er, Value.type.injEq, reduceCtorEq] at h
  rw [h]
theorem er_builtin {v : Value} {b : String} (h : er v = .builtin b) : v = .builtin b := by
  cases v <;> simp only [er, Value.builtin.injEq, reduceCtorEq] at h
  rw [h]
theorem er_none {v : Value} (h : er v = .none) : v = .none := by
  cases v <;> simp only [er, reduceCtorEq] at h
  rfl
theorem er_bool {v : Value} {b : Bool} (h : er v = .bool b) : v = .bool b := by
  cases v <;> simp only [er, Value.bool.injEq, reduceCtorEq] at h
  rw [h]
set_option genInjectivity false in
inductive AObj where
  | list (xs : List Value)
  | tup (xs : List Value)
  | sd (kvs : List (Str × Value)) (ep : Nat)
  | idt (kvs : List (Int × Value))
  | ss (S : List Str)
  | inst (C dx : Addr) (sl : List (Option Value))
  | nd (fs : List (Str × Value))
  | lit (l : Addr) (i : Nat)
  | mw (it : Addr)
  | ro (xs : List Value)
  | rod (kvs : List (Int × Value))
noncomputable abbrev litObj (l : Addr) (i : Nat) : Obj := { cls := .type "list_iterator", data := .fields #[.ref l, .int i 0] }
noncomputable def AObj.fixed : AObj → Bool
  | .ro _ => true
  | .rod _ => true
  | _ => false
noncomputable def NdIs (w : World) : List DictEntry → List (Str × Value) → Prop
  | [], [] => True
  | e :: es, (x, v) :: fs => (∃ t, e.key = .str x t) ∧ e.hash = PyData.keyHash w.params x ∧ er e.val = v ∧ NdIs w es fs
  | _, _ => False
noncomputable def RepA (prog : Program) (w : World) (h : Heap) (a : Addr) : AObj → Prop
  | .list xs => ∃ items, h.PlainList a items ∧ items.toList.map er = xs
  | .tup xs => ∃ items, h.IsTuple a items ∧ items.toList.map er = xs
  | .sd kvs ep => ∃ kvs', h.DictAt (strKind prog w) a kvs' ep ∧ kvs'.map erp = kvs
  | .idt kvs => ∃ kvs', h.DictOf (intKind prog w) a kvs' ∧ kvs'.map erp = kvs
  | .ss S => h.SetOf (strKind prog w) a (fun k => decide (k ∈ S)) S.length
  | .inst C dx sl => ∃ sl', h.get? a = some ⟨.ref C, some dx, .plain, sl'⟩ ∧ sl'.toList.map (Option.map er) = sl
  | .nd fs => ∃ es n, h.get? a = some (W.dictOf es n) ∧ NdIs w es fs
  | .lit l i => h.get? a = some (litObj l i)
  | .mw it => h.get? a = some { cls := .type "method-wrapper", data := .fields #[.builtin "list_iterator.__next__", .ref it] }
  | .ro xs => ∃ items, h.IsList a items ∧ items.toList.map er = xs
  | .rod kvs => (a == sysModules) = false ∧ ∃ kvs', h.DictOf (intKind prog w) a kvs' ∧ kvs'.map erp = kvs
theorem RepA.live {prog : Program} {w : World} {h : Heap} {a : Addr} {ao : AObj} (r : RepA prog w h a ao) : ∃ o, h.get? a = some o := by
  cases ao with
  | list xs => obtain ⟨_, ⟨_, e⟩, _⟩ := r; exact ⟨_, e⟩
  | tup xs => obtain ⟨_, ⟨_, e, _⟩, _⟩ := r; exact ⟨_, e⟩
  | sd kvs ep => obtain ⟨_, ⟨_, _, e, _⟩, _⟩ := r; exact ⟨_, e⟩
  | idt kvs => obtain ⟨_, r, _⟩ := r; obtain ⟨_, e, _⟩ := Heap.dictOf_iff.mp r; exact ⟨_, e⟩
  | ss S => obtain ⟨_, _, _, _, e, _⟩ := r; exact ⟨_, e⟩
  | inst C dx sl => obtain ⟨_, e, _⟩ := r; exact ⟨_, e⟩
  | nd fs => obtain ⟨_, _, e, _⟩ := r; exact ⟨_, e⟩
  | lit l i => exact ⟨_, r⟩
  | mw it => exact ⟨_, r⟩
  | ro xs => obtain ⟨_, ⟨_, e, _⟩, _⟩ := r; exact ⟨_, e⟩
  | rod kvs => obtain ⟨_, _, r, _⟩ := r; obtain ⟨_, e, _⟩ := Heap.dictOf_iff.mp r; exact ⟨_, e⟩
theorem RepA.at {prog : Program} {w : World} {h h' : Heap} {a : Addr} {ao : AObj} (r : RepA prog w h a ao) (k : ∀ o, h.get? a = some o → h'.get? a = some o) : RepA prog w h' a ao := by
  cases ao with
  | list xs => obtain ⟨i, ⟨n, e⟩, z⟩ := r; exact ⟨i, ⟨n, k _ e⟩, z⟩
  | tup xs => obtain ⟨i, ⟨n, e, q⟩, z⟩ := r; exact ⟨i, ⟨n, k _ e, q⟩, z⟩
  | sd kvs ep => obtain ⟨i, ⟨o, es, e, q⟩, z⟩ := r; exact ⟨i, ⟨o, es, k _ e, q⟩, z⟩
  | idt kvs => obtain ⟨i, r, z⟩ := r; obtain ⟨o, e, q⟩ := Heap.dictOf_iff.mp r; exact ⟨i, Heap.dictOf_iff.mpr ⟨o, k _ e, q⟩, z⟩
  | ss S => obtain ⟨o, es, ep, t, e, q⟩ := r; exact ⟨o, es, ep, t, k _ e, q⟩
  | inst C dx sl => obtain ⟨i, e, z⟩ := r; exact ⟨i, k _ e, z⟩
  | nd fs => obtain ⟨i, n, e, z⟩ := r; exact ⟨i, n, k _ e, z⟩
  | lit l i => exact k _ r
  | mw it => exact k _ r
  | ro xs => obtain ⟨i, ⟨o, e, q⟩, z⟩ := r; exact ⟨i, ⟨o, k _ e, q⟩, z⟩
  | rod kvs => obtain ⟨q0, i, r, z⟩ := r; obtain ⟨o, e, q⟩ := Heap.dictOf_iff.mp r; exact ⟨q0, i, Heap.dictOf_iff.mpr ⟨o, k _ e, q⟩, z⟩
theorem push_le (h : Heap) (o : Obj) : h.objs.size ≤ (h.push o).objs.size := by rw [Heap.size_push]; exact Nat.le_succ _
noncomputable abbrev H := Addr → Option AObj
noncomputable def H.set (h : H) (a : Addr) (o : AObj) : H := fun b => if b = a then some o else h b
theorem H.set_self (h : H) (a : Addr) (o : AObj) : h.set a o a = some o := if_pos rfl
theorem H.set_ne (h : H) {a b : Addr} (o : AObj) (e : b ≠ a) : h.set a o b = h b := if_neg e
set_option genInjectivity false in
structure St where
  l : Str → Option Value
  h : H
noncomputable def St.put (σ : St) (x : Str) (v : Value) : St := ⟨fun y => match y == x with | true => some v | false => σ.l y, σ.h⟩
theorem St.put_l (σ : St) (x y : Str) (v : Value) : (σ.put x v).l y = if y = x then some v else σ.l y := by
  show (match y == x with | true => some v | false => σ.l y) = _
  by_cases h : y = x
  · rw [if_pos h, beq_iff_eq.mpr h]
  · rw [if_neg h, beq_eq_false_iff_ne.mpr h]
noncomputable def St.seth (σ : St) (a : Addr) (o : AObj) : St := ⟨σ.l, σ.h.set a o⟩
noncomputable abbrev Keep := List (Addr × Obj)
set_option genInjectivity false in
structure Gnd where
  prog : Program
  w : World
  h₀ : Heap
  os₀ : OsState
  K : Frag
  mg : Str → Option Value
  mb : Str → Option Value
  X : K.In h₀
  g : h₀.Ns mainGlobals mg
  b : h₀.Ns builtinsNs mb
  nolimit : h₀.NoLimit
  builtins : ∀ x : Str, x ≠ "__name__" → mb x = bootBuiltins x
  mods : sysModules < h₀.objs.size
noncomputable abbrev Gnd.M (G : Gnd) : Model := model G.prog G.w
noncomputable def Kept (h : Heap) (p : Addr × Obj) : Prop := ∃ o, h.get? p.1 = some o ∧ (o = p.2 ∨ ∃ es ep, p.2.data = .dict es ep ∧ o.data = .dict es ep)
theorem Kept.of {h : Heap} {p : Addr × Obj} (e : h.get? p.1 = some p.2) : Kept h p := ⟨p.2, e, .inl rfl⟩
theorem Kept.at {h h' : Heap} {p : Addr × Obj} (k : Kept h p) (e : ∀ o, h.get? p.1 = some o → h'.get? p.1 = some o) : Kept h' p := let ⟨o, x, y⟩ := k; ⟨o, e o x, y⟩
theorem Kept.lt {h : Heap} {p : Addr × Obj} (k : Kept h p) : p.1 < h.objs.size := let ⟨_, x, _⟩ := k; Heap.lt_size x
noncomputable def notDict (o : Obj) : Bool := match o.data with
  | .dict _ _ => false
  | _ => true
theorem notDict_fields {o : Obj} {vs : Array Value} (h : o.data = .fields vs) : notDict o = true := by unfold notDict; rw [h]
theorem Kept.get {h : Heap} {p : Addr × Obj} (k : Kept h p) (e : notDict p.2 = true) : h.get? p.1 = some p.2 := by
  obtain ⟨o, x, y | ⟨es, ep, y, _⟩⟩ := k
  · rw [← y]; exact x
  · unfold notDict at e; rw [y] at e; cases e
theorem Kept.dict {h : Heap} {p : Addr × Obj} {es : Array DictEntry} {ep : Nat} (k : Kept h p) (e : p.2.data = .dict es ep) : ∃ o, h.get? p.1 = some o ∧ o.data = .dict es ep := by
  obtain ⟨o, x, y | ⟨es', ep', q1, q2⟩⟩ := k
  · exact ⟨o, x, by rw [y]; exact e⟩
  · exact ⟨o, x, by rw [e] at q1; rw [q2, ← q1]⟩
theorem Kept.ns {h h' : Heap} {C : Addr} {o : Obj} {m : Str → Option Value} (k : Kept h (C, o)) (k' : Kept h' (C, o)) (n : h.Ns C m) : h'.Ns C m := by
  obtain ⟨o₁, es, ep, h1, h2, h3⟩ := n
  have : o.data = .dict es ep := by
    obtain ⟨o₂, x, y | ⟨es', ep', q1, q2⟩⟩ := k
    · rw [h1] at x; cases x; exact (congrArg Obj.data y).symm.trans h2
    · rw [h1] at x; cases x; rw [h2] at q2; rw [q1, ← q2]
  obtain ⟨o₂, x, y⟩ := k'.dict this
  exact ⟨o₂, es, ep, x, y, h3⟩
set_option genInjectivity false in
structure HR (G : Gnd) (keep : Keep) (h : H) (s : Shared) : Prop where
  base : ∀ b o, G.h₀.get? b = some o → s.heap.get? b = some o
  size : G.h₀.objs.size ≤ s.heap.objs.size
  kept : ∀ p ∈ keep, Kept s.heap p
  cell : ∀ a ao, h a = some ao → RepA G.prog G.w s.heap a ao
  apart : ∀ a ao, h a = some ao → ∀ p ∈ keep, p.1 ≠ a
  fresh : ∀ a ao, h a = some ao → ao.fixed = false → G.h₀.objs.size ≤ a
  gens : s.gens = #[]
  os : s.os = G.os₀
set_option genInjectivity false in
structure Fd where
  env : Env
  own : Str → Bool
  fenv : Env
  outer : List Env
noncomputable def StackAt (G : Gnd) (keep : Keep) (env : Env) : Prop := env.scope.kind ≠ .module ∧ ∃ L o es ep, env.frame = some L ∧ (L, o) ∈ keep ∧ o.data = .dict es ep ∧ G.h₀.objs.size ≤ L
set_option genInjectivity false in
structure FR (G : Gnd) (keep : Keep) (F : Fd) (σ : St) (s : Shared) : Prop where
  hr : HR G keep σ.h s
  ns : ∃ m, s.heap.Ns F.env.locals m ∧ ∀ x v, F.env.kindOf x = some .local → σ.l x = some v → (m x).map er = some v
  cl : ∀ x ca, F.env.cells.lookup x = some ca → ∃ v, s.heap.IsCell ca v ∧ ∀ v', (F.env.kindOf x = some .cell ∨ F.env.kindOf x = some .free) → σ.l x = some v' → v.map er = some v'
  lk : ∀ p ∈ keep, p.1 ≠ F.env.locals
  lb : G.h₀.objs.size ≤ F.env.locals
  lh : σ.h F.env.locals = none
  lc : ∀ x ca, F.env.cells.lookup x = some ca → ca ≠ F.env.locals
  ck : ∀ x ca, F.env.cells.lookup x = some ca → F.own x = true → ∀ p ∈ keep, p.1 ≠ ca
  cb : ∀ x ca, F.env.cells.lookup x = some ca → G.h₀.objs.size ≤ ca
  ch : ∀ x ca, F.env.cells.lookup x = some ca → σ.h ca = none
  ci : ∀ x y ca, F.env.cells.lookup x = some ca → F.env.cells.lookup y = some ca → x = y
  hasc : ∀ x, F.env.kindOf x = some .cell ∨ F.env.kindOf x = some .free → ∃ ca, F.env.cells.lookup x = some ca
  stk : ∀ env ∈ F.outer, StackAt G keep env
  top : (F.fenv = F.env ∧ F.env.scope.kind ≠ .module ∧ F.env.frame = some F.env.locals) ∨ StackAt G keep F.fenv
section HRs
variable {G : Gnd} {keep : Keep} {F : Fd} {h : H} {σ : St} {s s' : Shared}
theorem HR.X (R : HR G keep h s) : G.K.In s.heap := G.X.keeps R.base
theorem HR.lt (R : HR G keep h s) {a : Addr} {ao : AObj} (e : h a = some ao) : a < s.heap.objs.size := by
  obtain ⟨o, q⟩ := (R.cell a ao e).live
  exact Heap.lt_size q
theorem HR.none_of_le (R : HR G keep h s) {a : Addr} (e : s.heap.objs.size ≤ a) : h a = none := by
  cases q : h a with
  | none => rfl
  | some ao => exact absurd (R.lt q) (Nat.not_lt.mpr e)
theorem HR.keep_lt (R : HR G keep h s) {p : Addr × Obj} (e : p ∈ keep) : p.1 < s.heap.objs.size := (R.kept p e).lt
theorem HR.ne_mods (R : HR G keep h s) {a : Addr} {ao : AObj} (e : h a = some ao) (hf : ao.fixed = false) : (a == sysModules) = false := by
  have h1 := R.fresh a ao e hf
  have h2 := G.mods
  have : a ≠ sysModules := fun q => by rw [q] at h1; exact absurd h2 (Nat.not_lt.mpr h1)
  simpa using this
theorem HR.toks (R : HR G keep h s) (t : Nat) : HR G keep h { s with toks := t } := ⟨R.base, R.size, R.kept, R.cell, R.apart, R.fresh, R.gens, R.os⟩
theorem HR.ext (R : HR G keep h s) {hp : Heap} {t : Nat} (hk : ∀ b o, s.heap.get? b = some o → hp.get? b = some o) (hsz : s.heap.objs.size ≤ hp.objs.size) : HR G keep h { s with heap := hp, toks := t } :=
  ⟨fun b o e => hk b o (R.base b o e), Nat.le_trans R.size hsz, fun p e => (R.kept p e).at fun o q => hk _ _ q, fun a ao e => (R.cell a ao e).at fun o q => hk _ _ q, R.apart, R.fresh, R.gens, R.os⟩
theorem HR.sub (R : HR G keep h s) {keep' : Keep} {h' : H} (hk : ∀ p ∈ keep', p ∈ keep) (hh : ∀ a ao, h' a = some ao → h a = some ao) : HR G keep' h' s :=
  ⟨R.base, R.size, fun p e => R.kept p (hk p e), fun a ao e => R.cell a ao (hh a ao e), fun a ao e p q => R.apart a ao (hh a ao e) p (hk p q), fun a ao e => R.fresh a ao (hh a ao e), R.gens, R.os⟩
theorem HR.alloc (R : HR G keep h s) {hp : Heap} {t : Nat} {ao : AObj} {a : Addr} (ha : s.heap.objs.size ≤ a) (hk : ∀ b o, s.heap.get? b = some o → hp.get? b = some o) (hsz : s.heap.objs.size ≤ hp.objs.size) (hr : RepA G.prog G.w hp a ao) :
    HR G keep (h.set a ao) { s with heap := hp, toks := t } where
  base := fun b o e => hk b o (R.base b o e)
  size := Nat.le_trans R.size hsz
  kept := fun p e => (R.kept p e).at fun o q => hk _ _ q
  cell := fun b bo e => by
    unfold H.set at e
    split at e
    · rename_i q; cases e; exact q ▸ hr
    · exact (R.cell b bo e).at fun o q => hk _ _ q
  apart := fun b bo e p q => by
    unfold H.set at e
    split at e
    · rename_i z; rw [z]; exact Nat.ne_of_lt (Nat.lt_of_lt_of_le (R.keep_lt q) ha)
    · exact R.apart b bo e p q
  fresh := fun b bo e hf => by
    unfold H.set at e
    split at e
    · rename_i z; rw [z]; exact Nat.le_trans R.size ha
    · exact R.fresh b bo e hf
  gens := R.gens
  os := R.os
theorem HR.upd (R : HR G keep h s) {hp : Heap} {t : Nat} {a : Addr} {ao ao' : AObj} (ha : h a = some ao) (hf : ao.fixed = false) (hs : Heap.SameBut a s.heap hp) (hr : RepA G.prog G.w hp a ao') :
    HR G keep (h.set a ao') { s with heap := hp, toks := t } where
  base := fun b o e => (hs.2 b (fun q => by
    have := R.fresh a ao ha hf
    have h2 := Heap.lt_size e
    rw [q] at h2
    exact absurd h2 (Nat.not_lt.mpr this))).trans (R.base b o e)
  size := by show _ ≤ hp.objs.size; rw [hs.1]; exact R.size
  kept := fun p e => (R.kept p e).at fun o q => (hs.2 _ (R.apart a ao ha p e)).trans q
  cell := fun b bo e => by
    unfold H.set at e
    split at e
    · rename_i q; cases e; exact q ▸ hr
    · rename_i q; exact (R.cell b bo e).at fun o z => (hs.2 b q).trans z
  apart := fun b bo e p q => by
    unfold H.set at e
    split at e
    · rename_i z; rw [z]; exact R.apart a ao ha p q
    · exact R.apart b bo e p q
  fresh := fun b bo e hf' => by
    unfold H.set at e
    split at e
    · rename_i z; rw [z]; exact R.fresh a ao ha hf
    · exact R.fresh b bo e hf'
  gens := R.gens
  os := R.os
end HRs
section FRs
variable {G : Gnd} {keep : Keep} {F : Fd} {h : H} {σ : St} {s s' : Shared}
theorem FR.X (R : FR G keep F σ s) : G.K.In s.heap := R.hr.X
theorem FR.toks (R : FR G keep F σ s) (t : Nat) : FR G keep F σ { s with toks := t } :=
  ⟨R.hr.toks t, R.ns, R.cl, R.lk, R.lb, R.lh, R.lc, R.ck, R.cb, R.ch, R.ci, R.hasc, R.stk, R.top⟩
theorem FR.ext (R : FR G keep F σ s) {hp : Heap} {t : Nat} (hk : ∀ b o, s.heap.get? b = some o → hp.get? b = some o) (hsz : s.heap.objs.size ≤ hp.objs.size) : FR G keep F σ { s with heap := hp, toks := t } := by
  refine ⟨R.hr.ext hk hsz, ?_, ?_, R.lk, R.lb, R.lh, R.lc, R.ck, R.cb, R.ch, R.ci, R.hasc, R.stk, R.top⟩
  · obtain ⟨m, hn, hm⟩ := R.ns
    exact ⟨m, hn.keeps hk, hm⟩
  · intro x ca e
    obtain ⟨v, hv, q⟩ := R.cl x ca e
    exact ⟨v, hv.keeps hk, q⟩
theorem FR.locals_lt (R : FR G keep F σ s) : F.env.locals < s.heap.objs.size := let ⟨_, hn, _⟩ := R.ns; hn.lt
theorem FR.cell_lt (R : FR G keep F σ s) {x : Str} {ca : Addr} (e : F.env.cells.lookup x = some ca) : ca < s.heap.objs.size := let ⟨_, hn, _⟩ := R.cl x ca e; hn.lt
theorem FR.alloc (R : FR G keep F σ s) {hp : Heap} {t : Nat} {ao : AObj} {a : Addr} (ha : s.heap.objs.size ≤ a) (hk : ∀ b o, s.heap.get? b = some o → hp.get? b = some o) (hsz : s.heap.objs.size ≤ hp.objs.size) (hr : RepA G.prog G.w hp a ao) :
    FR G keep F (σ.seth a ao) { s with heap := hp, toks := t } := by
  refine ⟨R.hr.alloc ha hk hsz hr, ?_, ?_, R.lk, R.lb, ?_, R.lc, R.ck, R.cb, ?_, R.ci, R.hasc, R.stk, R.top⟩
  · obtain ⟨m, hn, hm⟩ := R.ns
    exact ⟨m, hn.keeps hk, hm⟩
  · intro x ca e
    obtain ⟨v, hv, q⟩ := R.cl x ca e
    exact ⟨v, hv.keeps hk, q⟩
  · exact (H.set_ne _ _ (Nat.ne_of_lt (Nat.lt_of_lt_of_le R.locals_lt ha))).trans R.lh
  · intro x ca e
    exact (H.set_ne _ _ (Nat.ne_of_lt (Nat.lt_of_lt_of_le (R.cell_lt e) ha))).trans (R.ch x ca e)
theorem FR.upd (R : FR G keep F σ s) {hp : Heap} {t : Nat} {a : Addr} {ao ao' : AObj} (ha : σ.h a = some ao) (hf : ao.fixed = false) (hs : Heap.SameBut a s.heap hp) (hr : RepA G.prog G.w hp a ao') :
    FR G keep F (σ.seth a ao') { s with heap := hp, toks := t } := by
  have h1 : F.env.locals ≠ a := fun q => by have := R.lh; rw [q, ha] at this; cases this
  have h2 : ∀ x ca, F.env.cells.lookup x = some ca → ca ≠ a := fun x ca e q => by have := R.ch x ca e; rw [q, ha] at this; cases this
  refine ⟨R.hr.upd ha hf hs hr, ?_, ?_, R.lk, R.lb, ?_, R.lc, R.ck, R.cb, ?_, R.ci, R.hasc, R.stk, R.top⟩
  · obtain ⟨m, hn, hm⟩ := R.ns
    exact ⟨m, hn.sameBut hs h1, hm⟩
  · intro x ca e
    obtain ⟨v, hv, q⟩ := R.cl x ca e
    exact ⟨v, hv.sameBut hs (h2 x ca e), q⟩
  · exact (H.set_ne _ _ h1).trans R.lh
  · intro x ca e
    exact (H.set_ne _ _ (h2 x ca e)).trans (R.ch x ca e)
noncomputable def St.le (σ' σ : St) : Prop := (∀ x v, σ'.l x = some v → σ.l x = some v) ∧ ∀ a ao, σ'.h a = some ao → σ.h a = some ao
theorem St.le_refl (σ : St) : σ.le σ := ⟨fun _ _ e => e, fun _ _ e => e⟩
theorem FR.weak (R : FR G keep F σ s) {σ' : St} (hle : σ'.le σ) : FR G keep F σ' s := by
  have hn : ∀ a, σ.h a = none → σ'.h a = none := fun a e => by
    cases q : σ'.h a with
    | none => rfl
    | some ao => rw [hle.2 a ao q] at e; cases e
  refine ⟨R.hr.sub (fun _ e => e) hle.2, ?_, ?_, R.lk, R.lb, hn _ R.lh, R.lc, R.ck, R.cb, fun x ca e => hn _ (R.ch x ca e), R.ci, R.hasc, R.stk, R.top⟩
  · obtain ⟨m, h1, h2⟩ := R.ns
    exact ⟨m, h1, fun x v hk e => h2 x v hk (hle.1 x v e)⟩
  · intro x ca e
    obtain ⟨v, h1, h2⟩ := R.cl x ca e
    exact ⟨v, h1, fun v' hk q => h2 v' hk (hle.1 x v' q)⟩
theorem FR.putL (R : FR G keep F σ s) {x : Str} {v : Value} {hp : Heap} {t : Nat} {m : Str → Option Value} (hkx : F.env.kindOf x = some .local)
    (h2 : ∀ y u, F.env.kindOf y = some .local → σ.l y = some u → (m y).map er = some u)
    (hn : hp.Ns F.env.locals (fun y => if y = x then some v else m y)) (hs : Heap.SameBut F.env.locals s.heap hp) : FR G keep F (σ.put x (er v)) { s with heap := hp, toks := t } := by
  have hext : ∀ b o, b ≠ F.env.locals → s.heap.get? b = some o → hp.get? b = some o := fun b o q e => (hs.2 b q).trans e
  have hl : ∀ {a : Addr} {ao : AObj}, σ.h a = some ao → a ≠ F.env.locals := fun e q => by rw [q, R.lh] at e; cases e
  refine ⟨⟨fun b o e => hext b o (fun q => ?_) (R.hr.base b o e), ?_, fun p e => (R.hr.kept p e).at fun o q => hext _ _ (R.lk p e) q, fun a ao e => (R.hr.cell a ao e).at fun _ q => hext _ _ (hl e) q, R.hr.apart, R.hr.fresh, R.hr.gens, R.hr.os⟩,
    ?_, ?_, R.lk, R.lb, R.lh, R.lc, R.ck, R.cb, R.ch, R.ci, R.hasc, R.stk, R.top⟩
  · have h2 := Heap.lt_size e
    rw [q] at h2
    exact absurd h2 (Nat.not_lt.mpr R.lb)
  · show _ ≤ hp.objs.size; rw [hs.1]; exact R.hr.size
  · refine ⟨_, hn, fun y u hk e => ?_⟩
    rw [St.put_l] at e
    by_cases q : y = x
    · rw [if_pos q] at e ⊢; exact e
    · rw [if_neg q] at e ⊢; exact h2 y u hk e
  · intro y ca e
    obtain ⟨u, h1, h2⟩ := R.cl y ca e
    refine ⟨u, h1.sameBut hs (R.lc y ca e), fun v' hk q => h2 v' hk ?_⟩
    rw [St.put_l] at q
    split at q
    · rename_i z; rw [z] at hk; rw [hkx] at hk; rcases hk with hk | hk <;> cases hk
    · exact q
theorem FR.putC (R : FR G keep F σ s) {x : Str} {v : Value} {ca : Addr} {hp : Heap} {t : Nat} (hkx : F.env.kindOf x = some .cell) (hca : F.env.cells.lookup x = some ca) (ho : F.own x = true)
    (hn : hp.IsCell ca (some v)) (hs : Heap.SameBut ca s.heap hp) : FR G keep F (σ.put x (er v)) { s with heap := hp, toks := t } := by
  have hext : ∀ b o, b ≠ ca → s.heap.get? b = some o → hp.get? b = some o := fun b o q e => (hs.2 b q).trans e
  have hl : ∀ {a : Addr} {ao : AObj}, σ.h a = some ao → a ≠ ca := fun e q => by rw [q, R.ch x ca hca] at e; cases e
  refine ⟨⟨fun b o e => hext b o (fun q => ?_) (R.hr.base b o e), ?_, fun p e => (R.hr.kept p e).at fun o q => hext _ _ (R.ck x ca hca ho p e) q, fun a ao e => (R.hr.cell a ao e).at fun _ q => hext _ _ (hl e) q, R.hr.apart, R.hr.fresh, R.hr.gens, R.hr.os⟩,
    ?_, ?_, R.lk, R.lb, R.lh, R.lc, R.ck, R.cb, R.ch, R.ci, R.hasc, R.stk, R.top⟩
  · have h2 := Heap.lt_size e
    rw [q] at h2
    exact absurd h2 (Nat.not_lt.mpr (R.cb x ca hca))
  · show _ ≤ hp.objs.size; rw [hs.1]; exact R.hr.size
  · obtain ⟨m, h1, h2⟩ := R.ns
    refine ⟨m, h1.sameBut hs (R.lc x ca hca).symm, fun y u hk e => h2 y u hk ?_⟩
    rw [St.put_l] at e
    split at e
    · rename_i q; rw [q, hkx] at hk; cases hk
    · exact e
  · intro y cb e
    by_cases hy : y = x
    · subst hy
      rw [hca] at e; cases e
      refine ⟨some v, hn, fun v' hk q => ?_⟩
      rw [St.put_l, if_pos rfl] at q
      exact q
    · have hne : cb ≠ ca := fun q => hy (R.ci y x ca (q ▸ e) hca)
      obtain ⟨u, h1, h2⟩ := R.cl y cb e
      refine ⟨u, h1.sameBut hs hne, fun v' hk q => h2 v' hk ?_⟩
      rw [St.put_l, if_neg hy] at q
      exact q
end FRs
end Mine
end
section
open PySem PySem.W PyProof.Rows PySem.Calls
set_option maxRecDepth 100000
namespace Mine
noncomputable abbrev Sm (β : Type) := (β → St → Prop) → St → Prop
noncomputable def bindM {β γ : Type} (m : Sm β) (k : β → Sm γ) : Sm γ := fun Q σ => m (fun b σ' => k b Q σ') σ
noncomputable def pureM {β : Type} (b : β) : Sm β := fun Q σ => Q b σ
noncomputable def failM {β : Type} : Sm β := fun _ _ => False
set_option genInjectivity false in
structure Room (n : Nat) (A : Around) : Prop where
  depth : A.depth + n < recursionLimit
  units : A.units + 20 * n + 20 < cLine
  handled : A.handled = none
set_option genInjectivity false in
structure RA {α β : Type} (G : Gnd) (A : Around) (F : Fd) (t : Sem α) (ab : α → β) (m : Sm β) : Prop where
  run : ∀ (keep : Keep) (σ : St) (s : Shared) (Q : β → St → Prop) (E : Value → Shared → Prop), FR G keep F σ s → m Q σ →
    wpAny G.M A t (fun a s' => ∃ σ', FR G keep F σ' s' ∧ Q (ab a) σ') E s
noncomputable abbrev RV (G : Gnd) (A : Around) (F : Fd) (t : Sem Value) (m : Sm Value) : Prop := RA G A F t er m
noncomputable abbrev RB (G : Gnd) (A : Around) (F : Fd) (t : Sem Bool) (m : Sm Bool) : Prop := RA G A F t id m
noncomputable abbrev RU (G : Gnd) (A : Around) (F : Fd) (t : Sem Unit) (m : Sm Unit) : Prop := RA G A F t id m
noncomputable abbrev RF (G : Gnd) (A : Around) (F : Fd) (t : Sem Flow) (m : Sm Flow) : Prop := RA G A F t erF m
noncomputable abbrev RL (G : Gnd) (A : Around) (F : Fd) (t : Sem (List Value)) (m : Sm (List Value)) : Prop := RA G A F t (List.map er) m
section
variable {α β γ δ : Type} {G : Gnd} {A : Around} {F : Fd}
theorem RA.bind {t : Sem α} {f : α → Sem γ} {ab : α → β} {ab' : γ → δ} {m : Sm β} {k : β → Sm δ} (h1 : RA G A F t ab m) (h2 : ∀ a, RA G A F (f a) ab' (k (ab a))) :
    RA G A F (t >>= f) ab' (bindM m k) := RA.mk fun keep σ s Q E R hm =>
  wpAny_bind (wpAny_mono (h1.run keep σ s _ E R hm) (fun a s' ⟨σ', R', hq⟩ => (h2 a).run keep σ' s' Q E R' hq) fun _ _ e => e)
theorem RA.pure {a : α} {ab : α → β} : RA G A F (pure a : Sem α) ab (pureM (ab a)) := RA.mk fun _ σ _ _ _ R hm => wpAny_pure ⟨σ, R, hm⟩
theorem RA.fail {t : Sem α} {ab : α → β} : RA G A F t ab failM := RA.mk fun _ _ _ _ _ _ hm => hm.elim
theorem RA.at {t : Sem α} {ab : α → β} {m : Sm β} {pos : Pos} (h : RA G A F t ab m) : RA G A F (standAt pos >>= fun _ => t) ab m := RA.mk fun keep σ s Q E R hm =>
  wpAny_bind (wpAny_standAt (h.run keep σ s Q E R hm))
theorem RA.hold {t : Sem α} {ab : α → β} {m : Sm β} {vs : List Value} (h : RA G A F t ab m) : RA G A F (holding vs t) ab m := RA.mk fun keep σ s Q E R hm =>
  wpAny_holding (h.run keep σ s Q E R hm)
theorem RA.oper {t : Sem Value} {m : Sm Value} {vs : List Value} (h : RV G A F t m) : RV G A F (operate vs t) m := RA.mk fun keep σ s Q E R hm =>
  wpAny_operating (h.run keep σ s Q E R hm)
theorem RA.use {t : Sem α} {ab : α → β} {m : Sm β} (h : RA G A F t ab m) {keep : Keep} {σ : St} {s : Shared} {Q : β → St → Prop} {E : Value → Shared → Prop} {P : α → Shared → Prop} (R : FR G keep F σ s) (hm : m Q σ)
    (hp : ∀ a s' σ', FR G keep F σ' s' → Q (ab a) σ' → P a s') : wpAny G.M A t P E s :=
  wpAny_mono (h.run keep σ s Q E R hm) (fun a s' ⟨σ', R', hq⟩ => hp a s' σ' R' hq) fun _ _ e => e
theorem RA.conv {t : Sem α} {ab : α → β} {m m' : Sm β} (h : RA G A F t ab m) (hm : ∀ Q σ, m' Q σ → m Q σ) : RA G A F t ab m' := RA.mk fun keep σ s Q E R h' => h.run keep σ s Q E R (hm Q σ h')
theorem RA.tok {t : Sem Value} {v : Value} (h : ∀ (s : Shared) (Q : Value → Shared → Prop) (E : Value → Shared → Prop), (∀ u k, er u = v → Q u { s with toks := k }) → wpAny G.M A t Q E s) : RV G A F t (pureM v) :=
  RA.mk fun _ σ s _ _ R hm => h s _ _ fun u k e => ⟨σ, R.toks k, by rw [e]; exact hm⟩
end
noncomputable def varM (x : Str) : Sm Value := fun Q σ => ∃ v, σ.l x = some v ∧ Q v σ
noncomputable def putM (x : Str) (v : Value) : Sm Unit := fun Q σ => Q () (σ.put x v)
section
variable {G : Gnd} {A : Around} {F : Fd}
theorem loadName_R {x : Str} (hk : F.env.scope.kind = .function) (hl : F.env.kindOf x = some .local ∨ F.env.kindOf x = some .cell ∨ F.env.kindOf x = some .free) (hn : (x == ("__classdict__" : Str)) = false) : RV G A F (loadName F.env x) (varM x) := by
  refine RA.mk fun keep σ s Q E R hm => ?_
  obtain ⟨v, hv, hq⟩ := hm
  rcases hl with hl | hl | hl
  · obtain ⟨m, h1, h2⟩ := R.ns
    have := h2 x v hl hv
    cases hmx : m x with
    | none => rw [hmx] at this; cases this
    | some u =>
      rw [hmx] at this
      exact wpAny_loadName_local hk hl h1 hmx ⟨σ, R, by rw [show er u = v from Option.some.inj this]; exact hq⟩
  · obtain ⟨ca, hca⟩ := R.hasc x (.inl hl)
    obtain ⟨u, h1, h2⟩ := R.cl x ca hca
    have := h2 v (.inl hl) hv
    cases u with
    | none => cases this
    | some u => exact wpAny_loadName_cell hk hl hca h1 ⟨σ, R, by rw [show er u = v from Option.some.inj this]; exact hq⟩
  · obtain ⟨ca, hca⟩ := R.hasc x (.inr hl)
    obtain ⟨u, h1, h2⟩ := R.cl x ca hca
    have := h2 v (.inr hl) hv
    cases u with
    | none => cases this
    | some u => exact wpAny_loadName_free hk hl hca h1 ⟨σ, R, by rw [show er u = v from Option.some.inj this]; exact hq⟩ hn
noncomputable def seenKind (k : Option NameKind) : Bool := match k with
  | some .local | some .cell | some .free => true
  | _ => false
theorem seen_of {F : Fd} {x : Str} (h : seenKind (F.env.kindOf x) = true) : F.env.kindOf x = some .local ∨ F.env.kindOf x = some .cell ∨ F.env.kindOf x = some .free := by
  unfold seenKind at h
  split at h <;> simp_all
theorem R_Name {x : Str} {pos : Pos} (hl : seenKind (F.env.kindOf x) = true) (hk : F.env.scope.kind = .function) (hd : (x == ("__debug__" : Str)) = false) (hn : (x == ("__classdict__" : Str)) = false) :
    RV G A F (eval (.Name x pos) F.env) (varM x) := RA.mk fun keep σ s Q E R hm =>
  wpAny_Name ((loadName_R hk (seen_of hl) hn).run keep σ s Q E R hm) hd
theorem R_Global {x : Str} {pos : Pos} {v : Value} (e : nsIn G.K mainGlobals x = some (some v)) (hl : F.env.kindOf x = some .globalImplicit) (hk : F.env.scope.kind = .function) (hg : F.env.globals = mainGlobals) (hd : (x == ("__debug__" : Str)) = false) :
    RV G A F (eval (.Name x pos) F.env) (pureM (er v)) := RA.mk fun _ σ _ _ _ R hm => by
  refine Calls.Name_function_global hk hl ?_ hd
  exact Calls.loadGlobal_global (by rw [hg]; exact G.g.keeps R.hr.base) (mg_of G.X G.g e) ⟨σ, R, hm⟩
theorem R_Builtin {x : Str} {pos : Pos} {v : Value} (e : nsIn G.K mainGlobals x = some none) (hv : bootBuiltins x = some v) (hx : x ≠ "__name__") (hl : F.env.kindOf x = some .globalImplicit) (hk : F.env.scope.kind = .function)
    (hg : F.env.globals = mainGlobals) (hb : F.env.builtins = builtinsNs) (hd : (x == ("__debug__" : Str)) = false) :
    RV G A F (eval (.Name x pos) F.env) (pureM (er v)) := RA.mk fun _ σ _ _ _ R hm => by
  refine Calls.Name_function_global hk hl ?_ hd
  exact Calls.loadGlobal_builtin (by rw [hg]; exact G.g.keeps R.hr.base) (mg_none_of G.X G.g e) (by rw [hb]; exact G.b.keeps R.hr.base) ((G.builtins x hx).trans hv) ⟨σ, R, hm⟩
theorem store_R {x : Str} {v : Value} (hl : F.env.kindOf x = some .local ∨ (F.env.kindOf x = some .cell ∧ F.own x = true)) (hk : F.env.scope.kind = .function) : RU G A F (storeName F.env x v) (putM x (er v)) := by
  refine RA.mk fun keep σ s Q E R hm => ?_
  rcases hl with hl | ⟨hl, ho⟩
  · obtain ⟨m, h1, h2⟩ := R.ns
    exact wpAny_storeName_local hl h1 (fun h' hn hs => ⟨_, R.putL hl h2 hn hs, hm⟩) (by rw [hk]; rfl)
  · obtain ⟨ca, hca⟩ := R.hasc x (.inl hl)
    obtain ⟨u, h1, _⟩ := R.cl x ca hca
    exact wpAny_storeName_cell hk hl hca h1 fun h' hn hs => ⟨_, R.putC (t := s.toks) hl hca ho hn hs, hm⟩
noncomputable def ownKind (F : Fd) (x : Str) : Bool := match F.env.kindOf x with
  | some .local => true
  | some .cell => F.own x
  | _ => false
theorem own_of {x : Str} (h : ownKind F x = true) : F.env.kindOf x = some .local ∨ (F.env.kindOf x = some .cell ∧ F.own x = true) := by
  unfold ownKind at h
  split at h <;> simp_all
theorem assign_Name_R {x : Str} {pos : Pos} {v : Value} (hl : ownKind F x = true) (hk : F.env.scope.kind = .function) : RU G A F (assign (.Name x pos) F.env v) (putM x (er v)) := RA.mk fun keep σ s Q E R hm => by
  show wpAny _ _ (standAt pos >>= fun _ => bindName F.env x v) _ _ _
  exact wpAny_bind (wpAny_standAt (wpAny_bindName ((store_R (own_of hl) hk).run keep σ s Q E R hm)))
end
noncomputable def constV : Const → Option Value
  | .none => some .none
  | .bool b => some (.bool b)
  | .int i => some (.int i 0)
  | .str s => some (.str s 0)
  | _ => none
section
variable {G : Gnd} {A : Around} {F : Fd}
theorem R_Const {c : Const} {k : Nat} {pos : Pos} {v : Value} (h : constV c = some v) : RV G A F (eval (.Constant c k pos) F.env) (pureM v) := RA.mk fun keep σ s Q E R hm => by
  rw [eval_Constant]
  cases c <;> simp only [constV, Option.some.injEq, reduceCtorEq] at h <;> subst h
  · exact wpAny_pure ⟨σ, R, hm⟩
  · exact wpAny_pure ⟨σ, R, hm⟩
  · exact wpAny_mkInt ⟨σ, R.toks _, hm⟩
  · exact wpAny_mkText ⟨σ, R.toks _, hm⟩
end
noncomputable def seqM (a b : Sm Flow) : Sm Flow := fun Q σ => a (fun f σ' => match f with | .next => b Q σ' | f => Q f σ') σ
noncomputable def iteM {β : Type} (c : Sm Bool) (a b : Sm β) : Sm β := fun Q σ => c (fun t σ' => (t = true → a Q σ') ∧ (t = false → b Q σ')) σ
section
variable {G : Gnd} {A : Around} {F : Fd}
theorem RS_nil : RF G A F (execs [] F.env) (pureM .next) := RA.mk fun _ σ _ _ _ R hm => wpAny_execs_nil ⟨σ, R, hm⟩
theorem RS_cons {st : Stmt} {rest : List Stmt} {a b : Sm Flow} (h1 : RF G A F (exec st F.env) a) (h2 : RF G A F (execs rest F.env) b) : RF G A F (execs (st :: rest) F.env) (seqM a b) := RA.mk fun keep σ s Q E R hm => by
  refine wpAny_execs_cons (wpAny_mono (h1.run keep σ s _ E R hm) (fun f s' ⟨σ', R', hq⟩ => ?_) fun _ _ e => e)
  cases f <;> first | exact h2.run keep σ' s' Q E R' hq | exact ⟨σ', R', hq⟩
theorem RS_one {st : Stmt} {a : Sm Flow} (h1 : RF G A F (exec st F.env) a) : RF G A F (execs [st] F.env) a := RA.mk fun keep σ s Q E R hm => by
  refine wpAny_execs_cons (wpAny_mono (h1.run keep σ s _ E R hm) (fun f s' ⟨σ', R', hq⟩ => ?_) fun _ _ e => e)
  cases f <;> first | exact wpAny_execs_nil ⟨σ', R', hq⟩ | exact ⟨σ', R', hq⟩
theorem R_Break {pos : Pos} : RF G A F (exec (.Break pos) F.env) (pureM .brk) := RA.mk fun _ σ _ _ _ R hm => wpAny_bind (wpAny_standAt (wpAny_pure ⟨σ, R, hm⟩))
theorem R_Continue {pos : Pos} : RF G A F (exec (.Continue pos) F.env) (pureM .cont) := RA.mk fun _ σ _ _ _ R hm => wpAny_bind (wpAny_standAt (wpAny_pure ⟨σ, R, hm⟩))
noncomputable def retM (m : Sm Value) : Sm Flow := fun Q σ => m (fun v σ' => Q (.ret v) σ') σ
theorem R_Return {e : Expr} {pos : Pos} {m : Sm Value} (h : RV G A F (eval e F.env) m) : RF G A F (exec (.Return (some e) pos) F.env) (retM m) := RA.mk fun keep σ s Q E R hm =>
  wpAny_Return_some (h.run keep σ s _ E R hm)
theorem R_If {test : Expr} {body orelse : List Stmt} {pos : Pos} {c : Sm Bool} {a b : Sm Flow} (hc : RB G A F (isTrue test F.env (eval test F.env)) c) (ha : RF G A F (execs body F.env) a) (hb : RF G A F (execs orelse F.env) b) :
    RF G A F (exec (.If test body orelse pos) F.env) (iteM c a b) := RA.mk fun keep σ s Q E R hm => by
  refine wpAny_If (wpAny_mono (hc.run keep σ s _ E R hm) (fun t s' ⟨σ', R', hq⟩ => ?_) fun _ _ e => e)
  cases t
  · exact hb.run keep σ' s' Q E R' (hq.2 rfl)
  · exact ha.run keep σ' s' Q E R' (hq.1 rfl)
noncomputable def asgM (x : Str) (m : Sm Value) : Sm Flow := fun Q σ => m (fun v σ' => Q .next (σ'.put x v)) σ
theorem R_Assign_Name {x : Str} {pos pos' : Pos} {value : Expr} {m : Sm Value} (hs : swapsWith value (some (.Name x pos')) pos.line F.env = pure false) (hl : ownKind F x = true) (hk : F.env.scope.kind = .function) (h : RV G A F (eval value F.env) m) :
    RF G A F (exec (.Assign [.Name x pos'] value pos) F.env) (asgM x m) := RA.mk fun keep σ s Q E R hm => by
  refine wpAny_Assign_Name (wpAny_mono (h.run keep σ s _ E R hm) (fun v s' ⟨σ', R', hq⟩ => ?_) fun _ _ e => e) hs
  exact (store_R (own_of hl) hk).run keep σ' s' (fun _ => Q .next) E R' hq
noncomputable def exprM (m : Sm Value) : Sm Flow := fun Q σ => m (fun _ σ' => Q .next σ') σ
noncomputable def augM (x : Str) (m : Sm Value) (op : Value → Value → Sm Value) : Sm Flow := fun Q σ => varM x (fun old σ₁ => m (fun v σ₂ => op old v (fun r σ₃ => Q .next (σ₃.put x r)) σ₂) σ₁) σ
theorem R_Aug_Name {x : Str} {pos pos' : Pos} {op : Operator} {value : Expr} {m : Sm Value} {om : Value → Value → Sm Value} (hl : ownKind F x = true) (hk : F.env.scope.kind = .function) (hn : (x == ("__classdict__" : Str)) = false)
    (ho : ∀ a b, RV G A F (inplaceOp op a b) (om (er a) (er b))) (h : RV G A F (eval value F.env) m) :
    RF G A F (exec (.AugAssign (.Name x pos') op value pos) F.env) (augM x m om) := RA.mk fun keep σ s Q E R hm => by
  have hl' : F.env.kindOf x = some .local ∨ F.env.kindOf x = some .cell ∨ F.env.kindOf x = some .free := (own_of hl).imp id fun y => .inl y.1
  refine wpAny_AugAssign_Name (wpAny_mono ((loadName_R hk hl' hn).run keep σ s _ E R hm) (fun old s₁ ⟨σ₁, R₁, hq⟩ => ?_) fun _ _ e => e)
  refine wpAny_mono (h.run keep σ₁ s₁ _ E R₁ hq) (fun v s₂ ⟨σ₂, R₂, hq⟩ => ?_) fun _ _ e => e
  refine wpAny_mono ((ho old v).run keep σ₂ s₂ _ E R₂ hq) (fun r s₃ ⟨σ₃, R₃, hq⟩ => ?_) fun _ _ e => e
  exact (store_R (own_of hl) hk).run keep σ₃ s₃ (fun _ => Q .next) E R₃ hq
theorem R_BinOp {l r : Expr} {op : Operator} {pos : Pos} {a b : Sm Value} {om : Value → Value → Sm Value} (ho : ∀ x y, RV G A F (binaryOp op x y) (om (er x) (er y))) (h1 : RV G A F (eval l F.env) a) (h2 : RV G A F (eval r F.env) b) :
    RV G A F (eval (.BinOp l op r pos) F.env) (bindM a fun x => bindM b fun y => om x y) := RA.mk fun keep σ s Q E R hm => by
  refine wpAny_BinOp (wpAny_mono (h1.run keep σ s _ E R hm) (fun x s₁ ⟨σ₁, R₁, hq⟩ => ?_) fun _ _ e => e)
  refine wpAny_mono (h2.run keep σ₁ s₁ _ E R₁ hq) (fun y s₂ ⟨σ₂, R₂, hq⟩ => ?_) fun _ _ e => e
  exact (ho x y).run keep σ₂ s₂ Q E R₂ hq
theorem R_UnaryOp {x : Expr} {op : UnaryOp} {pos : Pos} {a : Sm Value} {om : Value → Sm Value} (ho : ∀ x, RV G A F (unaryOp op x) (om (er x))) (h1 : RV G A F (eval x F.env) a) :
    RV G A F (eval (.UnaryOp op x pos) F.env) (bindM a fun x => om x) := RA.mk fun keep σ s Q E R hm => by
  refine wpAny_UnaryOp (wpAny_mono (h1.run keep σ s _ E R hm) (fun x s₁ ⟨σ₁, R₁, hq⟩ => ?_) fun _ _ e => e)
  exact (ho x).run keep σ₁ s₁ Q E R₁ hq
theorem R_Named {x : Str} {value : Expr} {pos pos' : Pos} {m : Sm Value} (hl : ownKind F x = true) (hk : F.env.scope.kind = .function) (h : RV G A F (eval value F.env) m) :
    RV G A F (eval (.NamedExpr (.Name x pos') value pos) F.env) (fun Q σ => m (fun v σ' => Q v (σ'.put x v)) σ) := RA.mk fun keep σ s Q E R hm => by
  show wpAny _ _ (eval value F.env >>= fun v => holding [v] (assign (.Name x pos') F.env v) >>= fun _ => pure v) _ _ _
  refine wpAny_bind (wpAny_mono (h.run keep σ s _ E R hm) (fun v s' ⟨σ', R', hq⟩ => ?_) fun _ _ e => e)
  exact wpAny_bind (wpAny_holding (wpAny_mono ((assign_Name_R hl hk).run keep σ' s' (fun _ => Q (er v)) E R' hq) (fun _ s'' ⟨σ'', R'', hq''⟩ => wpAny_pure ⟨σ'', R'', hq''⟩) fun _ _ e => e))
noncomputable def plainTest : Expr → Bool
  | .UnaryOp .Not _ _ | .BoolOp .. | .IfExp .. | .Compare .. => false
  | _ => true
theorem isTrue_plain_eq {e : Expr} {env : Env} {w : Sem Value} (h : plainTest e = true) : isTrue e env w = (do let v ← w; standAt e.pos; holding [v] (truthy v)) := by
  cases e with
  | UnaryOp op x p => cases op <;> first | rfl | cases h
  | BoolOp | IfExp | Compare => cases h
  | _ => rfl
noncomputable def testM (m : Sm Value) (tr : Value → Sm Bool) : Sm Bool := bindM m tr
theorem RB_plain {e : Expr} {m : Sm Value} {tr : Value → Sm Bool} (hp : plainTest e = true) (ht : ∀ v, RB G A F (truthy v) (tr (er v))) (h : RV G A F (eval e F.env) m) : RB G A F (isTrue e F.env (eval e F.env)) (bindM m tr) := by
  rw [isTrue_plain_eq hp]
  exact RA.bind h fun v => RA.at (RA.hold (ht v))
theorem RB_Not {x : Expr} {pos : Pos} {whole : Sem Value} {c : Sm Bool} (h : RB G A F (isTrue x F.env (eval x F.env)) c) : RB G A F (isTrue (.UnaryOp .Not x pos) F.env whole) (bindM c fun t => pureM (!t)) := by
  show RA G A F (isTrue x F.env (eval x F.env) >>= fun t => pure (!t)) id _
  exact RA.bind h fun t => RA.pure
noncomputable def truM : Value → Sm Bool
  | .none => pureM false
  | .bool b => pureM b
  | .int i _ => pureM (i != 0)
  | .str s _ => fun Q σ => s.length ≤ 1000000 ∧ Q (s.length != 0) σ
  | .ref a => fun Q σ => match σ.h a with
    | some (.list xs) => xs.length ≤ 1000000 ∧ Q (xs.length != 0) σ
    | _ => False
  | _ => failM
theorem isTrue_Cmp1 {l r : Expr} {op : CmpOp} {pos : Pos} {whole : Sem Value} {env : Env} (hm : behindInMarks op r = false) : isTrue (.Compare l [op] [r] pos) env whole =
    (eval l env >>= fun a => holding [a] (eval r env) >>= fun b => standAt pos >>= fun _ => operate [a, b] (compareOp op a b) >>= fun c => holding [c] (truthy c)) := by
  rw [isTrue_Compare1]
  simp only [markedBehindIn_of_false hm]
theorem RB_cmp {l r : Expr} {op : CmpOp} {pos : Pos} {whole : Sem Value} {a b : Sm Value} {cm : Value → Value → Sm Value} (hm : behindInMarks op r = false) (ht : ∀ v, RB G A F (truthy v) (truM (er v)))
    (hc : ∀ x y, RV G A F (compareOp op x y) (cm (er x) (er y))) (h1 : RV G A F (eval l F.env) a) (h2 : RV G A F (eval r F.env) b) :
    RB G A F (isTrue (.Compare l [op] [r] pos) F.env whole) (bindM a fun x => bindM b fun y => bindM (cm x y) truM) := by
  rw [isTrue_Cmp1 hm]
  exact RA.bind h1 fun x => RA.bind (RA.hold h2) fun y => RA.at (RA.bind (RA.oper (hc x y)) fun c => RA.hold (ht c))
theorem eval_Cmp1 {l r : Expr} {op : CmpOp} {pos : Pos} {env : Env} (hm : behindInMarks op r = false) : eval (.Compare l [op] [r] pos) env =
    (eval l env >>= fun a => holding [a] (eval r env) >>= fun b => standAt pos >>= fun _ => operate [a, b] (compareOp op a b)) := by
  show (eval l env >>= fun a => holding [a] (markedBehindIn op r (eval r env)) >>= fun b => standAt pos >>= fun _ => operate [a, b] (compareOp op a b)) = _
  simp only [markedBehindIn_of_false hm]
theorem R_cmp {l r : Expr} {op : CmpOp} {pos : Pos} {a b : Sm Value} {cm : Value → Value → Sm Value} (hm : behindInMarks op r = false)
    (hc : ∀ x y, RV G A F (compareOp op x y) (cm (er x) (er y))) (h1 : RV G A F (eval l F.env) a) (h2 : RV G A F (eval r F.env) b) :
    RV G A F (eval (.Compare l [op] [r] pos) F.env) (bindM a fun x => bindM b fun y => cm x y) := by
  rw [eval_Cmp1 hm]
  exact RA.bind h1 fun x => RA.bind (RA.hold h2) fun y => RA.at (RA.oper (hc x y))
noncomputable def andB (a b : Sm Bool) : Sm Bool := fun Q σ => a (fun t σ' => (t = true → b Q σ') ∧ (t = false → Q false σ')) σ
noncomputable def orB (a b : Sm Bool) : Sm Bool := fun Q σ => a (fun t σ' => (t = false → b Q σ') ∧ (t = true → Q true σ')) σ
theorem allTrue_and_nil {G : Gnd} {A : Around} {F : Fd} : RB G A F (allTrue .And [] F.env) (pureM true) := RA.pure (a := true)
theorem allTrue_and {x : Expr} {rest : List Expr} {a b : Sm Bool} (h1 : RB G A F (isTrue x F.env (eval x F.env)) a) (h2 : RB G A F (allTrue .And rest F.env) b) : RB G A F (allTrue .And (x :: rest) F.env) (andB a b) := RA.mk fun keep σ s Q E R hm => by
  show wpAny _ _ (isTrue x F.env (eval x F.env) >>= fun t => _) _ _ _
  refine wpAny_bind (wpAny_mono (h1.run keep σ s _ E R hm) (fun t s' ⟨σ', R', hq⟩ => ?_) fun _ _ e => e)
  cases t
  · exact wpAny_pure ⟨σ', R', hq.2 rfl⟩
  · exact h2.run keep σ' s' Q E R' (hq.1 rfl)
theorem RB_Bool {op : BoolOp} {es : List Expr} {pos : Pos} {whole : Sem Value} {m : Sm Bool} (h : RB G A F (allTrue op es F.env) m) : RB G A F (isTrue (.BoolOp op es pos) F.env whole) m := h
noncomputable def boolM (op : BoolOp) (a b : Sm Value) : Sm Value := fun Q σ => a (fun v σ₁ => truM v (fun t σ₂ => (t = (op == .Or) → Q v σ₂) ∧ (t = (op == .And) → b Q σ₂)) σ₁) σ
theorem R_Bool2 {op : BoolOp} {x y : Expr} {pos : Pos} {a b : Sm Value} (ht : ∀ v, RB G A F (truthy v) (truM (er v))) (h1 : RV G A F (eval x F.env) a) (h2 : RV G A F (eval y F.env) b) :
    RV G A F (eval (.BoolOp op [x, y] pos) F.env) (boolM op a b) := RA.mk fun keep σ s Q E R hm => by
  show wpAny _ _ (eval x F.env >>= fun v => standAt pos >>= fun _ => holding [v] (truthy v) >>= fun t => (match op, t with
    | .And, false | .Or, true => pure v
    | _, _ => eval y F.env)) _ _ _
  refine wpAny_bind (wpAny_mono (h1.run keep σ s _ E R hm) (fun v s₁ ⟨σ₁, R₁, hq⟩ => ?_) fun _ _ e => e)
  refine wpAny_bind (wpAny_standAt (wpAny_bind (wpAny_holding (wpAny_mono ((ht v).run keep σ₁ s₁ _ E R₁ hq) (fun t s₂ ⟨σ₂, R₂, hq⟩ => ?_) fun _ _ e => e))))
  cases op <;> cases t
  · exact wpAny_pure ⟨σ₂, R₂, hq.1 rfl⟩
  · exact h2.run keep σ₂ s₂ Q E R₂ (hq.2 rfl)
  · exact h2.run keep σ₂ s₂ Q E R₂ (hq.2 rfl)
  · exact wpAny_pure ⟨σ₂, R₂, hq.1 rfl⟩
end
end Mine
end
section
open PySem PySem.W PyProof.Rows PySem.Calls
set_option maxRecDepth 100000
set_option maxHeartbeats 4000000
namespace Mine
noncomputable def strOf : Value → Option Str
  | .str x _ => some x
  | _ => none
theorem valueAt_erp {K : Type} [DecidableEq K] (kvs : List (K × Value)) (k : K) : valueAt (kvs.map erp) k = (valueAt kvs k).map er := by
  unfold valueAt
  induction kvs with
  | nil => rfl
  | cons p r ih =>
    simp only [List.map_cons, List.find?_cons, erp]
    by_cases h : p.1 = k
    · simp [h, erp]
    · simp only [h, decide_false]
      exact ih
theorem stored_erp {K : Type} [DecidableEq K] (kvs : List (K × Value)) (k : K) (v : Value) : (stored kvs k v).map erp = stored (kvs.map erp) k (er v) := by
  unfold stored
  have h : (kvs.map erp).any (fun kv => decide (kv.1 = k)) = kvs.any (fun kv => decide (kv.1 = k)) := by
    rw [List.any_map]; rfl
  rw [h]
  split
  · rw [List.map_map, List.map_map]
    apply List.map_congr_left
    intro p _
    simp only [Function.comp, erp]
    by_cases h : p.1 = k <;> simp [h, erp]
  · rw [List.map_append]; rfl
theorem without_erp {K : Type} [DecidableEq K] (kvs : List (K × Value)) (k : K) : (without kvs k).map erp = without (kvs.map erp) k := by
  unfold without
  rw [List.filter_map]
  rfl
section
variable {G : Gnd} {A : Around} {F : Fd}
theorem PlainList.upd {h : Heap} {a : Addr} {items : Array Value} (f : Array Value → Array Value) (x : h.PlainList a items) : (h.update a (Obj.mapSeq f)).PlainList a (f items) := by
  obtain ⟨n, e⟩ := x
  exact ⟨_, Heap.get?_update_self _ e rfl⟩
theorem toList_eq {items : Array Value} {xs : List Value} (h : items.toList.map er = xs) : items.size = xs.length := by
  rw [← h, List.length_map, Array.length_toList]
theorem truthy_R (v : Value) : RB G A F (truthy v) (truM (er v)) := by
  refine RA.mk fun keep σ s Q E R hm => ?_
  cases v with
  | none => exact wpAny_pure ⟨σ, R, hm⟩
  | bool b => exact wpAny_pure ⟨σ, R, hm⟩
  | int i t => exact PySem.P.truthy_int ⟨σ, R, hm⟩
  | str x t =>
    obtain ⟨h1, h2⟩ := hm
    refine PySem.P.truthy_str (by omega) ⟨σ, R.toks _, ?_⟩
    have : ((x.length : Int) != 0) = (x.length != 0) := by
      rw [Bool.eq_iff_iff]; simp
    show Q _ _
    rw [id, this]; exact h2
  | ref a =>
    simp only [er, truM] at hm
    split at hm
    · rename_i xs e
      obtain ⟨items, hp, hi⟩ := R.hr.cell a _ e
      have hsz := toList_eq hi
      refine wpAny_truthy_list hp.isList (by rw [hsz]; have := hm.1; omega) ⟨σ, R.toks _, ?_⟩
      have : (!items.isEmpty) = (xs.length != 0) := by
        rw [← hsz]; rfl
      show Q _ _
      rw [id, this]; exact hm.2
    · exact hm.elim
  | _ => exact hm.elim
noncomputable def binII (op : Operator) (i j : Int) : Sm Value := fun Q σ => match op with
  | .Add => Q (.int (i + j) 0) σ
  | .Sub => Q (.int (i - j) 0) σ
  | .Mult => i.natAbs < 2 ^ 60 ∧ Q (.int (i * j) 0) σ
  | .Mod => 0 < j ∧ Q (.int (i % j) 0) σ
  | .FloorDiv => 0 < j ∧ j < 1000000 ∧ Q (.int (i / j) 0) σ
  | .LShift => 0 ≤ j ∧ j ≤ 1000 ∧ i.natAbs < 2 ^ 60 ∧ Q (.int (i * 2 ^ j.toNat) 0) σ
  | .RShift => 0 ≤ j ∧ Q (.int (i / 2 ^ j.toNat) 0) σ
  | .BitAnd => Q (.int (Builtin.bitAnd i j) 0) σ
  | .BitOr => Q (.int (Builtin.bitOr i j) 0) σ
  | .BitXor => Q (.int (Builtin.bitXor i j) 0) σ
  | _ => False
noncomputable def binSS (op : Operator) (a b : Str) : Sm Value := fun Q σ => match op with
  | .Add => a.length + b.length ≤ 1000000 ∧ Q (.str (a ++ b) 0) σ
  | _ => False
noncomputable def binSI (op : Operator) (a : Str) (n : Int) : Sm Value := fun Q σ => match op with
  | .Mult => 0 ≤ n ∧ n ≤ 1000 ∧ a.length = 1 ∧ Q (.str (Txt.mul a n) 0) σ
  | _ => False
noncomputable def listOf : Option AObj → Option (List Value)
  | some (.list xs) => some xs
  | _ => none
noncomputable def binRR (op : Operator) (a b : Addr) : Sm Value := fun Q σ => match op with
  | .Add => match listOf (σ.h a) with
    | some xs => (match listOf (σ.h b) with
      | some ys => xs.length + ys.length ≤ 1000000 ∧ ∀ c, σ.h c = none → Q (.ref c) (σ.seth c (.list (xs ++ ys)))
      | none => False)
    | none => False
  | _ => False
noncomputable def binRI (op : Operator) (a : Addr) (n : Int) : Sm Value := fun Q σ => match op with
  | .Mult => match listOf (σ.h a) with
    | some xs => xs.length = 1 ∧ 0 ≤ n ∧ n ≤ 1000 ∧ ∀ c, σ.h c = none → Q (.ref c) (σ.seth c (.list (List.replicate n.toNat (xs.headD .none))))
    | none => False
  | _ => False
noncomputable def binM (op : Operator) (x y : Value) : Sm Value := match x with
  | .int i _ => (match y with | .int j _ => binII op i j | _ => fun _ _ => False)
  | .str a _ => (match y with | .str b _ => binSS op a b | .int n _ => binSI op a n | _ => fun _ _ => False)
  | .ref a => (match y with | .ref b => binRR op a b | .int n _ => binRI op a n | _ => fun _ _ => False)
  | _ => fun _ _ => False
theorem listOf_some {o : Option AObj} {xs : List Value} (h : listOf o = some xs) : o = some (.list xs) := by
  cases o with
  | none => cases h
  | some a => cases a <;> first | (cases h; rfl) | cases h
theorem RA.val {t : Sem Value} {keep : Keep} {σ : St} {s : Shared} {Q : Value → St → Prop} {E : Value → Shared → Prop} {v : Value} (R : FR G keep F σ s) (hm : Q v σ)
    (h : ∀ Q' : Value → Shared → Prop, (∀ u k, er u = v → Q' u { s with toks := k }) → wpAny G.M A t Q' E s) : wpAny G.M A t (fun a s' => ∃ σ', FR G keep F σ' s' ∧ Q (er a) σ') E s :=
  h _ fun u k e => ⟨σ, R.toks k, by rw [e]; exact hm⟩
theorem flatRep (x : Value) : ∀ n : Nat, List.foldl (fun x1 x2 => x1 ++ x2) (#[] : Array Value) (List.replicate n #[x]) = (List.replicate n x).toArray := by
  have key : ∀ (n : Nat) (acc : Array Value), List.foldl (fun x1 x2 => x1 ++ x2) acc (List.replicate n #[x]) = acc ++ (List.replicate n x).toArray := by
    intro n
    induction n with
    | zero => intro acc; simp
    | succ n ih =>
      intro acc
      rw [List.replicate_succ, List.foldl_cons, ih, List.replicate_succ]
      apply Array.toList_inj.mp
      simp
  intro n
  rw [key]; simp
theorem PlainList.push {h : Heap} (items : Array Value) : (h.push { cls := .type "list", data := .seq items }).PlainList h.objs.size items := ⟨0, Heap.get?_push_size _ rfl⟩
theorem bin_R (op : Operator) (x y : Value) : RV G A F (binaryOp op x y) (binM op (er x) (er y)) := by
  refine RA.mk fun keep σ s Q E R hm => ?_
  cases x with
  | int i t => cases y with
    | int j u => cases op with
      | Add => exact wpAny_add_int ⟨σ, R.toks _, hm⟩
      | Sub => exact PyProof.Rows.sub_int' ⟨σ, R.toks _, hm⟩
      | Mult => exact PyProof.Rows.mul_int ⟨σ, R.toks _, hm.2⟩ (IntMulOk.of_left (intBits_le (by have := hm.1; omega)))
      | Mod =>
        refine PyProof.Rows.mod_int' (by have := hm.1; omega) ⟨σ, R.toks _, ?_⟩
        rw [Int.fmod_eq_emod_of_nonneg _ (by have := hm.1; omega)]; exact hm.2
      | FloorDiv =>
        refine PyProof.Rows.floordiv_int (by have := hm.1; omega) ⟨σ, R.toks _, ?_⟩ (Or.inl (PyProof.noPylong_small (by have := hm.1; have := hm.2.1; omega)))
        rw [Int.fdiv_eq_ediv_of_nonneg _ (by have := hm.1; omega)]; exact hm.2.2
      | LShift => exact PyProof.Rows.lshift_int_small hm.1 (by have := hm.2.1; omega) (by have := hm.2.2.1; omega) ⟨σ, R.toks _, hm.2.2.2⟩
      | RShift =>
        refine PyProof.Rows.rshift_int hm.1 ⟨σ, R.toks _, ?_⟩
        rw [Int.fdiv_eq_ediv_of_nonneg _ (Int.pow_nonneg (by decide))]; exact hm.2
      | BitAnd => exact PyProof.Rows.and_int ⟨σ, R.toks _, hm⟩
      | BitOr => exact PyProof.Rows.or_int ⟨σ, R.toks _, hm⟩
      | BitXor => exact PyProof.Rows.xor_int ⟨σ, R.toks _, hm⟩
      | _ => exact hm.elim
    | _ => exact hm.elim
  | str a t => cases y with
    | str b u => cases op with
      | Add => exact PyProof.Rows.add_str (fun t' k => ⟨σ, R.toks _, hm.2⟩) (by have := hm.1; simp only [sizeLine]; omega)
      | _ => exact hm.elim
    | int n u => cases op with
      | Mult =>
        obtain ⟨h1, h2, h3, h4⟩ := hm
        refine SB.mul ⟨by simp; omega, fun h _ => ?_, fun _ _ => ?_⟩ fun t' k => ⟨σ, R.toks _, h4⟩
        · rw [h3]
          have h9 : (1 : Int) ≤ (2 ^ 63 - 1) / n := Int.le_ediv_of_mul_le (by omega) (by omega)
          have h8 : ((1 : Nat) : Int) = 1 := rfl
          rw [h8]
          omega
        · rw [h3]; exact decide_eq_false (by simp only [sizeLine]; omega)
      | _ => exact hm.elim
    | _ => exact hm.elim
  | ref a => cases y with
    | ref b => cases op with
      | Add =>
        replace hm : binRR .Add a b Q σ := hm
        unfold binRR at hm
        cases h1 : listOf (σ.h a) with
        | none => rw [h1] at hm; exact hm.elim
        | some xs => cases h2 : listOf (σ.h b) with
          | none => rw [h1, h2] at hm; exact hm.elim
          | some ys =>
            rw [h1, h2] at hm
            obtain ⟨i1, ⟨n1, p1⟩, z1⟩ := R.hr.cell a _ (listOf_some h1)
            obtain ⟨i2, ⟨n2, p2⟩, z2⟩ := R.hr.cell b _ (listOf_some h2)
            have hz : i1.size + i2.size ≤ sizeLine := by rw [toList_eq z1, toList_eq z2]; have := hm.1; simp only [sizeLine]; omega
            exact P.add_list p1 p2 ⟨_, R.alloc (t := s.toks) (Nat.le_refl _) (fun b o e => Heap.get?_push_of_some _ e) (push_le _ _) (ao := .list (xs ++ ys)) ⟨_, PlainList.push _, by simp [z1, z2]⟩, hm.2 _ (R.hr.none_of_le (Nat.le_refl _))⟩ hz
      | _ => exact hm.elim
    | int n u => cases op with
      | Mult =>
        replace hm : binRI .Mult a n Q σ := hm
        unfold binRI at hm
        cases h1 : listOf (σ.h a) with
        | none => rw [h1] at hm; exact hm.elim
        | some xs =>
          rw [h1] at hm
          obtain ⟨i1, ⟨n1, p1⟩, z1⟩ := R.hr.cell a _ (listOf_some h1)
          obtain ⟨hx, h0, hn, hm⟩ := hm
          obtain ⟨y, rfl, hy⟩ : ∃ y, i1 = #[y] ∧ er y = xs.headD .none := by
            obtain ⟨l⟩ := i1
            match l, z1 with
            | [y], z => exact ⟨y, rfl, by subst z; rfl⟩
            | [], z => subst z; cases hx
            | y :: z :: r, q => subst q; cases hx
          refine wpAny_binaryOp_repeat_ref (T := "list") (U := "int") (by decide) ⟨_, p1, rfl⟩ (fun s' => typeIs_int s' n u) noFill_list_mul PySem.F.fills_int_mul PySem.F.slot_int_rmul repeat_list PySem.F.slot_int_index.lookup
            (call_meets PySem.F.slot_int_rmul (typeIs_int s n u) PySem.F.entry_int_rmul (PySem.F.args_int_rmul_2 _ _) (int___rmul___int_list n u a _ n1)
              ⟨p1, rfl, ⟨_, p1, rfl⟩, call_meets PySem.F.slot_list_mul ⟨_, p1, rfl⟩ PySem.F.entry_list_mul (PySem.F.args_list_mul_2 _ _)
                (AutoListH.list___mul___list_int_3 a _ n1 n u (by simp [Builtin.List.listFitsIndex]; omega) (by simp; omega) (by simp [Builtin.List.listTooLong, sizeLine]; omega))
                ⟨p1, ?_⟩⟩)
          refine ⟨_, R.alloc (t := s.toks) (Nat.le_refl _) (fun b o e => Heap.get?_push_of_some _ e) (push_le _ _) (ao := .list (List.replicate n.toNat (xs.headD .none))) ⟨_, PlainList.push _, ?_⟩, hm _ (R.hr.none_of_le (Nat.le_refl _))⟩
          rw [if_neg (by simp), flatRep]
          simp [hy]
      | _ => exact hm.elim
    | _ => exact hm.elim
  | _ => exact hm.elim
theorem seq_list_iadd : seqSlot? (.type "list") (dunderI "add") = pure (some (.builtin "list.__iadd__")) := PySem.seqSlot_of PySem.F.slot_list_iadd.lookup (by decide +kernel)
theorem noInp_list_iadd : fillsInplaceSlot (.type "list") "add" (Operator.Add == .Add) = pure false := by
  unfold fillsInplaceSlot
  show (typeLookup (.type "list") (dunderI "add") >>= fun fi => pure (fi.isSome && !isSeqSlot fi)) = pure false
  rw [PySem.F.slot_list_iadd.lookup]
  rfl
theorem inplace_list {M : Model} {A : Around} {E : Value → Shared → Prop} {s : Shared} {a b : Value} {Q : Value → Shared → Prop} (ha : s.TypeIs a "list") (hb : s.TypeIs b "list")
    (hc : wpAny M A (call (.builtin "list.__iadd__") [a, b]) Q E s) : wpAny M A (inplaceOp .Add a b) Q E s := by
  unfold inplaceOp
  refine wpAny_holding ?_
  refine wpAny_bind (wpAny_typeOf ha (wpAny_bind (wpAny_of_eq noInp_list_iadd ?_)))
  show wpAny M A (if false = true then _ else _) Q E s
  rw [if_neg Bool.false_ne_true]
  refine wpAny_bind (wpAny_binaryOp1_none (nm := "add") ha hb noFill_list_add ?_)
  refine wpAny_bind (wpAny_of_eq seq_list_iadd ?_)
  exact wpAny_bind (wpAny_rule hc)
noncomputable def augII (op : Operator) (i j : Int) : Sm Value := fun Q σ => match op with
  | .Add => Q (.int (i + j) 0) σ
  | .Sub => Q (.int (i - j) 0) σ
  | .BitOr => Q (.int (Builtin.bitOr i j) 0) σ
  | .BitXor => Q (.int (Builtin.bitXor i j) 0) σ
  | _ => False
noncomputable def augRR (op : Operator) (a b : Addr) : Sm Value := fun Q σ => match op with
  | .Add => a ≠ b ∧ match listOf (σ.h a) with
    | some xs => (match listOf (σ.h b) with
      | some ys => xs.length + ys.length ≤ 1000000 ∧ Q (.ref a) (σ.seth a (.list (xs ++ ys)))
      | none => False)
    | none => False
  | _ => False
noncomputable def augOp (op : Operator) (x y : Value) : Sm Value := match x with
  | .int i _ => (match y with | .int j _ => augII op i j | _ => fun _ _ => False)
  | .ref a => (match y with | .ref b => augRR op a b | _ => fun _ _ => False)
  | _ => fun _ _ => False
theorem aug_R (op : Operator) (x y : Value) : RV G A F (inplaceOp op x y) (augOp op (er x) (er y)) := by
  refine RA.mk fun keep σ s Q E R hm => ?_
  cases x with
  | int i t => cases y with
    | int j u => cases op with
      | Add => exact wpAny_iadd_int ⟨σ, R.toks _, hm⟩
      | Sub => exact PyProof.Rows.isub_int ⟨σ, R.toks _, hm⟩
      | BitOr => exact PyProof.Rows.ior_int ⟨σ, R.toks _, hm⟩
      | BitXor => exact PyProof.Rows.ixor_int ⟨σ, R.toks _, hm⟩
      | _ => exact hm.elim
    | _ => exact hm.elim
  | ref a => cases y with
    | ref b => cases op with
      | Add =>
        replace hm : augRR .Add a b Q σ := hm
        unfold augRR at hm
        obtain ⟨hab, hm⟩ := hm
        cases h1 : listOf (σ.h a) with
        | none => rw [h1] at hm; exact hm.elim
        | some xs => cases h2 : listOf (σ.h b) with
          | none => rw [h1, h2] at hm; exact hm.elim
          | some ys =>
            rw [h1, h2] at hm
            obtain ⟨i1, ⟨n1, p1⟩, z1⟩ := R.hr.cell a _ (listOf_some h1)
            obtain ⟨i2, ⟨n2, p2⟩, z2⟩ := R.hr.cell b _ (listOf_some h2)
            have l1 := toList_eq z1
            have l2 := toList_eq z2
            refine inplace_list ⟨_, p1, rfl⟩ ⟨_, p2, rfl⟩ ?_
            refine call_meets PySem.F.slot_list_iadd ⟨_, p1, rfl⟩ PySem.F.entry_list_iadd (PySem.F.args_list_iadd_2 _ _)
              (AutoSeq1.list___iadd___list_list_0 a i1 n1 b i2 n2 (by have := hm.1; simp [Builtin.List.listTooLong, sizeLine]; omega) (by have := hm.1; simp only [sizeLine]; omega) (by have := hm.1; simp only [sizeLine]; omega)) ⟨p1, p2, ?_⟩
            exact ⟨_, R.upd (t := s.toks) (listOf_some h1) rfl (Heap.SameBut.update ..) (ao' := .list (xs ++ ys)) ⟨i1 ++ i2, PlainList.upd (fun x => x ++ i2) ⟨n1, p1⟩, by simp [z1, z2]⟩, hm.2⟩
      | _ => exact hm.elim
    | _ => exact hm.elim
  | _ => exact hm.elim
noncomputable def unM (op : UnaryOp) (x : Value) : Sm Value := fun Q σ => match op, x with
  | .USub, .int i _ => Q (.int (-i) 0) σ
  | .Invert, .int i _ => Q (.int (Builtin.bitNot i) 0) σ
  | .Not, v => truM v (fun b σ' => Q (.bool (!b)) σ') σ
  | _, _ => False
theorem un_R (op : UnaryOp) (x : Value) : RV G A F (unaryOp op x) (unM op (er x)) := by
  refine RA.mk fun keep σ s Q E R hm => ?_
  unfold unM at hm
  split at hm
  · rename_i i _ e1
    obtain ⟨t, rfl⟩ := er_int e1
    exact PySem.P.neg_int ⟨σ, R.toks _, hm⟩
  · rename_i i _ e1
    obtain ⟨t, rfl⟩ := er_int e1
    exact PyProof.Rows.invert_int ⟨σ, R.toks _, hm⟩
  · exact PyProof.Rows.not_of (wpAny_mono ((truthy_R x).run keep σ s _ E R hm) (fun b s' ⟨σ', R', hq⟩ => ⟨σ', R', hq⟩) fun _ _ e => e)
  · exact hm.elim
noncomputable def eqE : Value → Value → Option Bool
  | .int i _, .int j _ => some (i == j)
  | .str a _, .str b _ => some (a == b)
  | _, _ => none
noncomputable def inM (k : Bool → Bool) (x y : Value) : Sm Value := fun Q σ => match y with
  | .ref a => match σ.h a, x with
    | some (.ss S), .str w _ => Q (Value.bool (k (decide (w ∈ S)))) σ
    | some (.sd kvs _), .str w _ => Q (Value.bool (k (valueAt kvs w).isSome)) σ
    | some (.list xs), v => (∀ x ∈ xs, ∃ b, eqE x v = some b) ∧ Q (Value.bool (k (xs.any fun x => eqE x v == some true))) σ
    | _, _ => False
  | _ => False
noncomputable def onII (x y : Value) (k : Int → Int → Prop) : Prop := match x with
  | .int i _ => (match y with | .int j _ => k i j | _ => False)
  | _ => False
noncomputable def onN (x y : Value) (k : Bool → Prop) : Prop := match y with
  | .none => (match x with | .none => k true | .ref _ => k false | _ => False)
  | _ => False
noncomputable def cmpM (op : CmpOp) (x y : Value) : Sm Value := fun Q σ => match op with
  | .Lt => onII x y fun i j => Q (.bool (decide (i < j))) σ
  | .LtE => onII x y fun i j => Q (.bool (decide (i ≤ j))) σ
  | .Gt => onII x y fun i j => Q (.bool (decide (i > j))) σ
  | .GtE => onII x y fun i j => Q (.bool (decide (i ≥ j))) σ
  | .Eq => onII x y fun i j => Q (.bool (i == j)) σ
  | .NotEq => onII x y fun i j => Q (.bool (i != j)) σ
  | .Is => onN x y fun b => Q (.bool b) σ
  | .IsNot => onN x y fun b => Q (.bool (!b)) σ
  | .In => inM id x y Q σ
  | .NotIn => inM not x y Q σ
theorem onII.of {x y : Value} {k : Int → Int → Prop} (h : onII (er x) (er y) k) : ∃ i t j u, x = .int i t ∧ y = .int j u ∧ k i j := by
  cases x with
  | int i t => cases y with
    | int j u => exact ⟨i, t, j, u, rfl, rfl, h⟩
    | _ => exact False.elim h
  | _ => exact False.elim h
theorem onN.of {x y : Value} {k : Bool → Prop} (h : onN (er x) (er y) k) : y = .none ∧ ((x = .none ∧ k true) ∨ (∃ a, x = .ref a ∧ k false)) := by
  cases y with
  | none => cases x with
    | none => exact ⟨rfl, .inl ⟨rfl, h⟩⟩
    | ref a => exact ⟨rfl, .inr ⟨a, rfl, h⟩⟩
    | _ => exact False.elim h
  | _ => exact False.elim h
theorem eqE_at {A : Around} {s : Shared} {y x : Value} {b : Bool} (h : eqE (er y) (er x) = some b) : SeqAt.EqAt A s y x b := by
  unfold eqE at h
  split at h
  · rename_i i _ j _ e1 e2
    obtain ⟨t, rfl⟩ := er_int e1
    obtain ⟨u, rfl⟩ := er_int e2
    exact fun prog w E Q hq => wpAny_eqBool_int (by rw [Option.some.inj h]; exact hq)
  · rename_i i _ j _ e1 e2
    obtain ⟨t, rfl⟩ := er_str e1
    obtain ⟨u, rfl⟩ := er_str e2
    exact fun prog w E Q hq => wpAny_eqBool_str (by
      have : decide (i = j) = b := by rw [← Option.some.inj h]; by_cases z : i = j <;> simp [z]
      rw [this]; exact hq)
  · cases h
theorem in_list_R {items : Array Value} {xs : List Value} {v : Value} {s : Shared} (hi : items.toList.map er = xs) (hb : ∀ x ∈ xs, ∃ b, eqE x (er v) = some b) :
    ∃ e : Value → Bool, items.any e = (xs.any fun x => eqE x (er v) == some true) ∧ ∀ y ∈ items, SeqAt.EqAt A.in1 s y v (e y) := by
  refine ⟨fun y => eqE (er y) (er v) == some true, ?_, fun y hy => ?_⟩
  · rw [← hi, List.any_map, ← Array.any_toList]; rfl
  · obtain ⟨b, hb⟩ := hb (er y) (by rw [← hi]; exact List.mem_map_of_mem (Array.mem_toList_iff.mpr hy))
    refine eqE_at ?_
    simp only [hb]
    cases b <;> rfl
theorem valueAt_isSome {K : Type} [DecidableEq K] (kvs' : List (K × Value)) (k : K) : (valueAt (kvs'.map erp) k).isSome = (valueAt kvs' k).isSome := by
  rw [valueAt_erp]; cases valueAt kvs' k <;> rfl
theorem in_R (k : Bool → Bool) (op : CmpOp) (hop : (op = .In ∧ k = id) ∨ (op = .NotIn ∧ k = not)) (x y : Value) : RV G A F (compareOp op x y) (inM k (er x) (er y)) := by
  refine RA.mk fun keep σ s Q E R hm => ?_
  unfold inM at hm
  split at hm
  · rename_i a e
    have e := er_ref e
    subst e
    split at hm
    · rename_i S w _ h1 e2
      obtain ⟨u, rfl⟩ := er_str e2
      have r := R.hr.cell a _ h1
      rcases hop with ⟨rfl, rfl⟩ | ⟨rfl, rfl⟩
      · exact wpAny_inSet_of (knd := strKind G.prog G.w) (strKind_is _ _ _ _) rfl r ⟨σ, R.toks _, hm⟩
      · exact wpAny_notInSet_of (knd := strKind G.prog G.w) (strKind_is _ _ _ _) rfl r ⟨σ, R.toks _, hm⟩
    · rename_i kvs _ w _ h1 e2
      obtain ⟨u, rfl⟩ := er_str e2
      obtain ⟨kvs', hd, hk⟩ := R.hr.cell a _ h1
      have hmods := R.hr.ne_mods h1 rfl
      subst hk
      rw [valueAt_isSome] at hm
      rcases hop with ⟨rfl, rfl⟩ | ⟨rfl, rfl⟩
      · exact wpAny_in_of (knd := strKind G.prog G.w) (strKind_is _ _ _ _) hmods hd.dictOf.mapOf ⟨σ, R.toks _, hm⟩
      · exact wpAny_notIn_of (knd := strKind G.prog G.w) (strKind_is _ _ _ _) hmods hd.dictOf.mapOf ⟨σ, R.toks _, hm⟩
    · rename_i xs h1
      obtain ⟨items, hp, hi⟩ := R.hr.cell a _ h1
      obtain ⟨e, he, hq⟩ := in_list_R (A := A) (v := x) (s := s) hi hm.1
      rcases hop with ⟨rfl, rfl⟩ | ⟨rfl, rfl⟩
      · exact SeqAt.in_listAt e hp.isList hq ⟨σ, R, by rw [he]; exact hm.2⟩
      · exact SeqAt.notIn_listAt e hp.isList hq ⟨σ, R, by rw [he]; exact hm.2⟩
    · exact hm.elim
  · exact hm.elim
theorem cmp_R (op : CmpOp) (x y : Value) : RV G A F (compareOp op x y) (cmpM op (er x) (er y)) := by
  refine RA.mk fun keep σ s Q E R hm => ?_
  cases op with
  | Lt => obtain ⟨i, t, j, u, rfl, rfl, hm⟩ := onII.of (x := x) (y := y) hm; exact PySem.P.lt_int ⟨σ, R, hm⟩
  | LtE => obtain ⟨i, t, j, u, rfl, rfl, hm⟩ := onII.of (x := x) (y := y) hm; exact PySem.P.le_int ⟨σ, R, hm⟩
  | Gt => obtain ⟨i, t, j, u, rfl, rfl, hm⟩ := onII.of (x := x) (y := y) hm; exact PySem.P.gt_int ⟨σ, R, hm⟩
  | GtE => obtain ⟨i, t, j, u, rfl, rfl, hm⟩ := onII.of (x := x) (y := y) hm; exact PySem.P.ge_int ⟨σ, R, hm⟩
  | Eq => obtain ⟨i, t, j, u, rfl, rfl, hm⟩ := onII.of (x := x) (y := y) hm; exact PySem.P.eq_int ⟨σ, R, hm⟩
  | NotEq => obtain ⟨i, t, j, u, rfl, rfl, hm⟩ := onII.of (x := x) (y := y) hm; exact PySem.P.ne_int ⟨σ, R, hm⟩
  | Is =>
    obtain ⟨rfl, ⟨rfl, hm⟩ | ⟨a, rfl, hm⟩⟩ := onN.of (x := x) (y := y) (k := fun b => Q (.bool b) σ) hm
    · exact wpAny_is_plain rfl ⟨σ, R, hm⟩
    · exact wpAny_is_other rfl (fun q => by cases q) ⟨σ, R, hm⟩
  | IsNot =>
    obtain ⟨rfl, ⟨rfl, hm⟩ | ⟨a, rfl, hm⟩⟩ := onN.of (x := x) (y := y) (k := fun b => Q (.bool (!b)) σ) hm
    · exact wpAny_isNot_plain rfl ⟨σ, R, hm⟩
    · exact wpAny_isNot_other rfl (fun q => by cases q) ⟨σ, R, hm⟩
  | In => exact (in_R id .In (.inl ⟨rfl, rfl⟩) x y).run keep σ s Q E R hm
  | NotIn => exact (in_R not .NotIn (.inr ⟨rfl, rfl⟩) x y).run keep σ s Q E R hm
end
end Mine
end
section
open PySem PySem.W PyProof.Rows PySem.Calls
set_option maxRecDepth 100000
namespace Mine
noncomputable def at? (xs : List Value) (k : Int) : Option Value := if 0 ≤ k then (if k < 2 ^ 62 then xs[k.toNat]? else none) else (if -(2 ^ 62) < k ∧ 0 ≤ k + xs.length then xs[(k + xs.length).toNat]? else none)
noncomputable def itemM (o i : Value) : Sm Value := fun Q σ => match o, i with
  | .ref a, .int k _ => match σ.h a with
    | some (.list xs) => ∃ v, at? xs k = some v ∧ Q v σ
    | some (.ro xs) => ∃ v, at? xs k = some v ∧ Q v σ
    | some (.idt kvs) => ∃ v, valueAt kvs k = some v ∧ Q v σ
    | _ => False
  | .ref a, .str w _ => match σ.h a with
    | some (.sd kvs _) => ∃ v, valueAt kvs w = some v ∧ Q v σ
    | _ => False
  | .str x _, .int k _ => 0 ≤ k ∧ k < 2 ^ 62 ∧ ∃ c, x.cps[k.toNat]? = some c ∧ Q (.str ⟨#[c]⟩ 0) σ
  | _, _ => False
section
variable {G : Gnd} {A : Around} {F : Fd}
theorem items_get {items : Array Value} {xs : List Value} {n : Nat} {v : Value} (hi : items.toList.map er = xs) (h : xs[n]? = some v) : ∃ u, items[n]? = some u ∧ er u = v := by
  rw [← hi, List.getElem?_map, Array.getElem?_toList] at h
  cases q : items[n]? with
  | none => rw [q] at h; cases h
  | some u => rw [q] at h; exact ⟨u, rfl, by simpa using h⟩
theorem listItem_R {a : Addr} {items : Array Value} {xs : List Value} {k : Int} {t : Tok} {v : Value} {keep : Keep} {σ : St} {s : Shared} {Q : Value → St → Prop} {E : Value → Shared → Prop} (R : FR G keep F σ s)
    (hl : s.heap.IsList a items) (hi : items.toList.map er = xs) (hv : at? xs k = some v) (hq : Q v σ) : wpAny G.M A (getItem (.ref a) (.int k t)) (fun a s' => ∃ σ', FR G keep F σ' s' ∧ Q (er a) σ') E s := by
  have hsz := toList_eq hi
  unfold at? at hv
  by_cases h0 : 0 ≤ k
  · rw [if_pos h0] at hv
    by_cases h1 : k < 2 ^ 62
    · rw [if_pos h1] at hv
      obtain ⟨u, hu, rfl⟩ := items_get hi hv
      exact wpAny_getItem_list hl h0 (by omega) hu ⟨σ, R, hq⟩
    · rw [if_neg h1] at hv; cases hv
  · rw [if_neg h0] at hv
    by_cases h1 : -(2 ^ 62) < k ∧ 0 ≤ k + xs.length
    · rw [if_pos h1] at hv
      obtain ⟨u, hu, rfl⟩ := items_get hi hv
      exact wpAny_getItem_list_neg hl (by omega) (by omega) (by omega) (by rw [hsz]; exact hu) ⟨σ, R, hq⟩
    · rw [if_neg h1] at hv; cases hv
theorem dictItem_R {K : Type} [DecidableEq K] {knd : KeyKind G.prog G.w K} {a : Addr} {kvs : List (K × Value)} {kvs' : List (K × Value)} {k : K} {key : Value} {v : Value} {keep : Keep} {σ : St} {s : Shared} {Q : Value → St → Prop} {E : Value → Shared → Prop} (R : FR G keep F σ s)
    (hkey : knd.is k key = true) (hd : s.heap.DictOf knd a kvs') (hk : kvs'.map erp = kvs) (hv : valueAt kvs k = some v) (hq : Q v σ) : wpAny G.M A (getItem (.ref a) key) (fun a s' => ∃ σ', FR G keep F σ' s' ∧ Q (er a) σ') E s := by
  subst hk
  rw [valueAt_erp] at hv
  cases q : valueAt kvs' k with
  | none => rw [q] at hv; cases hv
  | some u => rw [q] at hv; cases hv; exact wpAny_getItem_of hkey hd.mapOf q ⟨σ, R.toks _, hq⟩
theorem item_R (o i : Value) : RV G A F (getItem o i) (itemM (er o) (er i)) := by
  refine RA.mk fun keep σ s Q E R hm => ?_
  unfold itemM at hm
  split at hm
  · rename_i a k _ e1 e2
    have e1 := er_ref e1
    obtain ⟨t, rfl⟩ := er_int e2
    subst e1
    split at hm
    · rename_i xs h1
      obtain ⟨items, hp, hi⟩ := R.hr.cell a _ h1
      obtain ⟨v, hv, hq⟩ := hm
      exact listItem_R R hp.isList hi hv hq
    · rename_i xs h1
      obtain ⟨items, hp, hi⟩ := R.hr.cell a _ h1
      obtain ⟨v, hv, hq⟩ := hm
      exact listItem_R R hp hi hv hq
    · rename_i kvs h1
      obtain ⟨kvs', hd, hk⟩ := R.hr.cell a _ h1
      obtain ⟨v, hv, hq⟩ := hm
      exact dictItem_R R (intKind_is _ _ _ _) hd hk hv hq
    · exact hm.elim
  · rename_i a w _ e1 e2
    have e1 := er_ref e1
    obtain ⟨t, rfl⟩ := er_str e2
    subst e1
    split at hm
    · rename_i kvs _ h1
      obtain ⟨kvs', hd, hk⟩ := R.hr.cell a _ h1
      obtain ⟨v, hv, hq⟩ := hm
      exact dictItem_R R (strKind_is _ _ _ _) hd.dictOf hk hv hq
    · exact hm.elim
  · rename_i x _ k _ e1 e2
    obtain ⟨t, rfl⟩ := er_str e1
    obtain ⟨u, rfl⟩ := er_int e2
    obtain ⟨h0, h1, c, hc, hq⟩ := hm
    have hlt : k.toNat < x.cps.size := (Array.getElem?_eq_some_iff.mp hc).1
    refine PySem.P.getItem_str (c := c) (by simp; omega) ?_ ⟨σ, R.toks _, hq⟩
    rw [seqIndex_of h0 (by show k < (x.cps.size : Int); omega)]
    exact hc
  · exact hm.elim
noncomputable def hasItem (o : Value) (σ : St) : Prop := match o with
  | .ref a => match σ.h a with
    | some (.list _) | some (.ro _) | some (.idt _) | some (.sd _ _) => True
    | _ => False
  | .str _ _ => True
  | _ => False
theorem itemM_has {o i : Value} {Q : Value → St → Prop} {σ : St} (h : itemM o i Q σ) : hasItem o σ := by
  unfold itemM at h
  unfold hasItem
  split at h
  · split at h
    · rename_i q; simp only [q]
    · rename_i q; simp only [q]
    · rename_i q; simp only [q]
    · exact h.elim
  · split at h
    · rename_i q; simp only [q]
    · exact h.elim
  · trivial
  · exact h.elim
theorem inPython_R {o : Value} {keep : Keep} {σ : St} {s : Shared} {Q : Bool → Shared → Prop} {E : Value → Shared → Prop} (R : FR G keep F σ s) (h : hasItem (er o) σ) (hq : Q false s) : wpAny G.M A (getitemInPython o) Q E s := by
  have go : ∀ {T id : String}, s.TypeIs o T → typeLookup (.type T) (Str.ofString "__getitem__") = pure (some (.builtin id)) → wpAny G.M A (getitemInPython o) Q E s := fun hT hl => by
    rw [getitemInPython_of_ne hT.not_modules]
    exact wpAny_bind (wpAny_specialOf hT hl (wpAny_pure hq))
  unfold hasItem at h
  split at h
  · rename_i a e
    have e := er_ref e
    subst e
    split at h
    · rename_i q; obtain ⟨_, hp, _⟩ := R.hr.cell a _ q; exact go hp.isList.typeIs PySem.F.slot_list_getitem.lookup
    · rename_i q; obtain ⟨_, hp, _⟩ := R.hr.cell a _ q; exact go hp.typeIs PySem.F.slot_list_getitem.lookup
    · rename_i q; obtain ⟨_, hp, _⟩ := R.hr.cell a _ q; exact go hp.mapOf.typeIs PySem.F.slot_dict_getitem.lookup
    · rename_i q; obtain ⟨_, hp, _⟩ := R.hr.cell a _ q; exact go hp.dictOf.mapOf.typeIs PySem.F.slot_dict_getitem.lookup
    · exact h.elim
  · rename_i x _ e
    obtain ⟨t, rfl⟩ := er_str e
    exact go (typeIs_str s x t) PySem.F.slot_str_getitem.lookup
  · exact h.elim
noncomputable def plainSlice : Expr → Bool
  | .Slice .. => false
  | _ => true
theorem subscripted_plain {slice : Expr} {o i : Value} (h : plainSlice slice = true) : subscripted slice false o i = operate [o, i] (getItem o i) := by
  cases slice <;> first | rfl | cases h
theorem R_Sub {value slice : Expr} {pos : Pos} {a b : Sm Value} (hs : plainSlice slice = true) (h1 : RV G A F (eval value F.env) a) (h2 : RV G A F (eval slice F.env) b) :
    RV G A F (eval (.Subscript value slice pos) F.env) (bindM a fun o => bindM b fun i => itemM o i) := RA.mk fun keep σ s Q E R hm => by
  rw [eval_Subscript]
  refine wpAny_bind (wpAny_mono (h1.run keep σ s _ E R hm) (fun o s₁ ⟨σ₁, R₁, hq⟩ => ?_) fun _ _ e => e)
  refine wpAny_bind (wpAny_holding (wpAny_mono (h2.run keep σ₁ s₁ _ E R₁ hq) (fun i s₂ ⟨σ₂, R₂, hq⟩ => wpAny_bind (wpAny_standAt ?_)) fun _ _ e => e))
  refine wpAny_bind (inPython_R R₂ (itemM_has hq) ?_)
  rw [subscripted_plain hs]
  exact wpAny_bind (wpAny_operating (wpAny_mono ((item_R o i).run keep σ₂ s₂ Q E R₂ hq) (fun r s₃ h₃ => wpAny_bind (wpAny_letTemporaryGo (wpAny_pure h₃))) fun _ _ e => e))
noncomputable def sliceFrom (o k : Value) : Sm Value := fun Q σ => match o, k with
  | .ref a, .int i _ => match σ.h a with
    | some (.list xs) => 0 ≤ i ∧ i ≤ xs.length ∧ xs.length ≤ 1000000 ∧ ∀ c, σ.h c = none → Q (.ref c) (σ.seth c (.list (xs.drop i.toNat)))
    | _ => False
  | _, _ => False
theorem R_SliceFrom {value lo : Expr} {p pos : Pos} {a b : Sm Value} (h1 : RV G A F (eval value F.env) a) (h2 : RV G A F (eval lo F.env) b) :
    RV G A F (eval (.Subscript value (.Slice (some lo) none none p) pos) F.env) (bindM a fun o => bindM b fun i => sliceFrom o i) := RA.mk fun keep σ s Q E R hm => by
  rw [eval_Subscript]
  refine wpAny_bind (wpAny_mono (h1.run keep σ s _ E R hm) (fun o s₁ ⟨σ₁, R₁, hq⟩ => ?_) fun _ _ e => e)
  refine wpAny_bind (wpAny_holding ?_)
  show wpAny _ _ (eval lo F.env >>= fun l => holding [l] (pure .none) >>= fun u => holding [l, u] (pure .none) >>= fun st => newFields "slice" [l, u, st]) _ _ _
  refine wpAny_bind (wpAny_mono (h2.run keep σ₁ s₁ _ E R₁ hq) (fun i s₂ ⟨σ₂, R₂, hq⟩ => ?_) fun _ _ e => e)
  refine wpAny_bind (wpAny_holding (wpAny_pure (wpAny_bind (wpAny_holding (wpAny_pure ?_)))))
  have hz : sliceFrom (er o) (er i) Q σ₂ := hq
  unfold sliceFrom at hz
  split at hz
  · rename_i a k _ e1 e2
    have e1 := er_ref e1
    obtain ⟨t, rfl⟩ := er_int e2
    subst e1
    split at hz
    · rename_i xs h1
      obtain ⟨items, hp, hi⟩ := R₂.hr.cell a _ h1
      obtain ⟨k0, k1, k2, hz⟩ := hz
      have hsz := toList_eq hi
      refine wpAny_newObj_type (T := "slice") (wpAny_bind (wpAny_standAt ?_))
      have R₃ : FR G keep F σ₂ { s₂ with heap := s₂.heap.push { cls := .type "slice", data := .fields #[.int k t, .none, .none] } } := R₂.ext (t := s₂.toks) (fun b o e => Heap.get?_push_of_some _ e) (push_le _ _)
      refine wpAny_bind (inPython_R R₃ (by unfold hasItem er; simp only [h1]) ?_)
      refine wpAny_bind (wpAny_operating (wpAny_getItem_list_slice (hp.isList.push _) (Heap.IsSliceOf.new ..) (.int k t) .none .none (by simp) (wpAny_bind (wpAny_letTemporaryGo (wpAny_pure ?_))) ?_))
      · obtain ⟨n, rfl⟩ := Int.eq_ofNat_of_zero_le k0
        refine ⟨_, R₃.alloc (t := s₂.toks) (Nat.le_refl _) (fun b o e => Heap.get?_push_of_some _ e) (push_le _ _) (ao := .list (xs.drop n)) ⟨_, PlainList.push _, ?_⟩, hz _ (R₃.hr.none_of_le (Nat.le_refl _))⟩
        rw [slicePick_from _ _ (by omega), List.toList_toArray, List.map_drop, hi]
      · show items.size ≤ 2 ^ 24; omega
    · exact hz.elim
  · exact hz.elim
end
end Mine
end
section
open PySem PySem.W PyProof.Rows PySem.Calls
set_option maxRecDepth 100000
namespace Mine
noncomputable def allObjs (c : Heap) (P : Addr → Bool) : List (Addr × Obj) := (List.range c.objs.size).filterMap fun a => if P a then (c.get? a).map fun o => (a, o) else none
theorem mem_allObjs {c : Heap} {P : Addr → Bool} {a : Addr} {o : Obj} : (a, o) ∈ allObjs c P ↔ P a = true ∧ c.get? a = some o := by
  unfold allObjs
  rw [List.mem_filterMap]
  constructor
  · rintro ⟨b, _, hb⟩
    split at hb
    · rename_i hp
      cases q : c.get? b with
      | none => rw [q] at hb; cases hb
      | some x => rw [q] at hb; cases hb; exact ⟨hp, q⟩
    · cases hb
  · rintro ⟨hp, q⟩
    refine ⟨a, List.mem_range.mpr (Heap.lt_size q), ?_⟩
    rw [if_pos hp, q]; rfl
theorem allObjs_nodup (c : Heap) (P : Addr → Bool) : ((allObjs c P).map (·.1)).Nodup := by
  unfold allObjs
  have key : ∀ l : List Nat, l.Nodup → ((l.filterMap fun a => if P a then (c.get? a).map fun o => (a, o) else none).map (·.1)).Nodup ∧ ∀ b ∈ (l.filterMap fun a => if P a then (c.get? a).map fun o => (a, o) else none).map (·.1), b ∈ l := by
    intro l
    induction l with
    | nil => intro _; exact ⟨List.nodup_nil, fun b hb => by cases hb⟩
    | cons a l ih =>
      intro hn
      obtain ⟨h1, h2⟩ := List.nodup_cons.mp hn
      obtain ⟨i1, i2⟩ := ih h2
      rw [List.filterMap_cons]
      split
      · exact ⟨i1, fun b hb => List.mem_cons_of_mem _ (i2 b hb)⟩
      · rename_i p hp
        have hpa : p.1 = a := by
          split at hp
          · cases q : c.get? a with
            | none => rw [q] at hp; cases hp
            | some x => rw [q] at hp; cases hp; rfl
          · cases hp
        rw [List.map_cons, hpa]
        exact ⟨List.nodup_cons.mpr ⟨fun q => h1 (i2 a q), i1⟩, fun b hb => by
          rcases List.mem_cons.mp hb with rfl | hb
          · exact List.mem_cons_self
          · exact List.mem_cons_of_mem _ (i2 b hb)⟩
  exact (key _ List.nodup_range).1
theorem split_of_nodup {a : Addr} {o : Obj} : ∀ {l : List (Addr × Obj)}, (l.map (·.1)).Nodup → (a, o) ∈ l → ∃ pre post, l = pre ++ (a, o) :: post ∧ (∀ p ∈ pre, p.1 ≠ a) ∧ ∀ p ∈ post, p.1 ≠ a
  | p :: l, hn, hm => by
    rw [List.map_cons] at hn
    obtain ⟨h1, h2⟩ := List.nodup_cons.mp hn
    rcases List.mem_cons.mp hm with rfl | hm'
    · exact ⟨[], l, rfl, (fun _ h => by cases h), fun p hp e => h1 (by rw [← show p.1 = a from e]; exact List.mem_map_of_mem (f := (·.1)) hp)⟩
    · obtain ⟨pre, post, rfl, h3, h4⟩ := split_of_nodup h2 hm'
      refine ⟨p :: pre, post, rfl, fun q hq => ?_, h4⟩
      rcases List.mem_cons.mp hq with rfl | hq
      · exact fun e => h1 (by rw [show q.1 = a from e]; exact List.mem_map_of_mem (f := (·.1)) hm')
      · exact h3 q hq
section
variable {G : Gnd} {A : Around} {F : Fd} {keep : Keep} {σ : St} {s : Shared}
noncomputable def othersP (G : Gnd) (L : Addr) (a : Addr) : Bool := (a != L) && (G.h₀.get? a).isNone
theorem FR.news (R : FR G keep F σ s) : News G.h₀ F.env.locals s.heap (allObjs s.heap (othersP G F.env.locals)) := fun p hp => by
  obtain ⟨h1, h2⟩ := mem_allObjs.mp hp
  unfold othersP at h1
  simp only [Bool.and_eq_true, bne_iff_ne, ne_eq, Option.isNone_iff_eq_none] at h1
  exact ⟨h2, h1.1, h1.2⟩
theorem FR.fr (R : FR G keep F σ s) {m : Str → Option Value} (hn : s.heap.Ns F.env.locals m) : Fr G.h₀ F.env.locals s.heap m := ⟨hn, R.hr.base, R.lb⟩
theorem FR.h_ne_locals (R : FR G keep F σ s) {a : Addr} {ao : AObj} (e : σ.h a = some ao) : a ≠ F.env.locals := fun q => by rw [q, R.lh] at e; cases e
theorem FR.in_others (R : FR G keep F σ s) {a : Addr} {ao : AObj} (e : σ.h a = some ao) (hf : ao.fixed = false) {o : Obj} (ho : s.heap.get? a = some o) : (a, o) ∈ allObjs s.heap (othersP G F.env.locals) := by
  refine mem_allObjs.mpr ⟨?_, ho⟩
  unfold othersP
  simp only [Bool.and_eq_true, bne_iff_ne, ne_eq, Option.isNone_iff_eq_none]
  refine ⟨R.h_ne_locals e, ?_⟩
  cases q : G.h₀.get? a with
  | none => rfl
  | some x => exact absurd (R.hr.fresh a ao e hf) (Nat.not_le.mpr (Heap.lt_size q))
theorem FR.upd2 (R : FR G keep F σ s) {hp : Heap} {t : Nat} {a : Addr} {ao ao' : AObj} {m : Str → Option Value} (ha : σ.h a = some ao) (hf : ao.fixed = false) (hs : ∀ b o, b ≠ a → b ≠ F.env.locals → s.heap.get? b = some o → hp.get? b = some o)
    (hm : ∀ y u, F.env.kindOf y = some .local → σ.l y = some u → (m y).map er = some u) (hn : hp.Ns F.env.locals m) (hr : RepA G.prog G.w hp a ao') : FR G keep F (σ.seth a ao') { s with heap := hp, toks := t } := by
  have h1 := R.h_ne_locals ha
  have h2 : ∀ x ca, F.env.cells.lookup x = some ca → ca ≠ a := fun x ca e q => by have := R.ch x ca e; rw [q, ha] at this; cases this
  have hfr := R.hr.fresh a ao ha hf
  refine ⟨⟨fun b o e => ?_, Nat.le_trans R.lb (Nat.le_of_lt hn.lt), fun p e => (R.hr.kept p e).at fun o q => hs _ _ (R.hr.apart a ao ha p e) (R.lk p e) q, fun b bo e => ?_, fun b bo e p q => ?_, fun b bo e hb => ?_, R.hr.gens, R.hr.os⟩, ⟨m, hn, hm⟩, ?_, R.lk, R.lb, ?_, R.lc, R.ck, R.cb, ?_, R.ci, R.hasc, R.stk, R.top⟩
  · have hlt := Heap.lt_size e
    exact hs b o (fun q => by rw [q] at hlt; exact absurd hlt (Nat.not_lt.mpr hfr)) (fun q => by rw [q] at hlt; exact absurd hlt (Nat.not_lt.mpr R.lb)) (R.hr.base b o e)
  · unfold St.seth H.set at e
    simp only at e
    split at e
    · rename_i q; cases e; exact q ▸ hr
    · rename_i q; exact (R.hr.cell b bo e).at fun o z => hs b o q (R.h_ne_locals e) z
  · unfold St.seth H.set at e
    simp only at e
    split at e
    · rename_i z; rw [z]; exact R.hr.apart a ao ha p q
    · exact R.hr.apart b bo e p q
  · unfold St.seth H.set at e
    simp only at e
    split at e
    · rename_i z; rw [z]; exact hfr
    · exact R.hr.fresh b bo e hb
  · intro x ca e
    obtain ⟨v, ⟨o, ho, hd⟩, q⟩ := R.cl x ca e
    exact ⟨v, ⟨o, hs ca o (h2 x ca e) (R.lc x ca e) ho, hd⟩, q⟩
  · exact (H.set_ne _ _ h1.symm).trans R.lh
  · intro x ca e
    exact (H.set_ne _ _ (h2 x ca e)).trans (R.ch x ca e)
theorem FR.back (R : FR G keep F σ s) {hp : Heap} {t : Nat} {a : Addr} {ao ao' : AObj} {m : Str → Option Value} {pre post : List (Addr × Obj)} {o o' : Obj} (ha : σ.h a = some ao) (hf : ao.fixed = false)
    (hm : ∀ y u, F.env.kindOf y = some .local → σ.l y = some u → (m y).map er = some u) (hall : allObjs s.heap (othersP G F.env.locals) = pre ++ (a, o) :: post)
    (F' : Fr G.h₀ F.env.locals hp m) (N' : News G.h₀ F.env.locals hp (pre ++ (a, o') :: post)) (hr : hp.get? a = some o' → RepA G.prog G.w hp a ao') : FR G keep F (σ.seth a ao') { s with heap := hp, toks := t } := by
  refine R.upd2 ha hf (fun b x hb hL e => ?_) hm F'.ns (hr (N' (a, o') (by simp)).1)
  cases q : G.h₀.get? b with
  | some z =>
    have := R.hr.base b z q
    rw [e] at this; cases this
    exact F'.keep b x q
  | none =>
    have hin : (b, x) ∈ allObjs s.heap (othersP G F.env.locals) := mem_allObjs.mpr ⟨by unfold othersP; simp [hL, q], e⟩
    rw [hall] at hin
    have : (b, x) ∈ pre ++ (a, o') :: post := by
      rcases List.mem_append.mp hin with h | h
      · exact List.mem_append_left _ h
      · rcases List.mem_cons.mp h with h | h
        · exact absurd (congrArg (·.1) h) hb
        · exact List.mem_append_right _ (List.mem_cons_of_mem _ h)
    exact (N' _ this).1
end
noncomputable def ndGet (fs : List (Str × Value)) (name : Str) : Option Value := (fs.find? fun p => p.1 == name).map (·.2)
noncomputable def ndPut (fs : List (Str × Value)) (name : Str) (v : Value) : List (Str × Value) := match fs with
  | [] => [(name, v)]
  | p :: r => if p.1 == name then (p.1, v) :: r else p :: ndPut r name v
theorem ndIs_get {w : World} {name : Str} : ∀ {es : List DictEntry} {fs : List (Str × Value)}, NdIs w es fs → ∀ {v}, ndGet fs name = some v → ∃ u, getL name es = some (some u) ∧ er u = v
  | [], [], _, v, h => by cases h
  | e :: es, (x, u) :: fs, ⟨⟨t, hk⟩, hh, hv, hr⟩, v, h => by
    unfold ndGet at h
    rw [List.find?_cons] at h
    unfold getL
    rw [List.find?_cons]
    by_cases hx : x = name
    · subst hx
      simp only [beq_self_eq_true, Option.map_some, Option.some.injEq] at h
      simp only [hk, Value.isStr, beq_self_eq_true]
      exact ⟨_, rfl, hv.trans h⟩
    · have hb : (x == name) = false := beq_eq_false_iff_ne.mpr hx
      simp only [hb] at h
      simp only [hk, Value.isStr, hb]
      obtain ⟨u', h1, h2⟩ := ndIs_get hr (v := v) h
      refine ⟨u', ?_, h2⟩
      unfold getL at h1
      show (match es.find? (fun x => x.key.isStr name) with
        | some e => some (some e.val)
        | none => if ((e :: es).any fun x => x.refKey) = true then none else some none) = _
      cases q : es.find? (fun x => x.key.isStr name) with
      | some z => rw [q] at h1; exact h1
      | none =>
        rw [q] at h1
        simp only at h1
        split at h1 <;> cases h1
  | [], _ :: _, h, _, _ => h.elim
  | _ :: _, [], h, _, _ => h.elim
theorem ndIs_refKey {w : World} : ∀ {es : List DictEntry} {fs : List (Str × Value)}, NdIs w es fs → es.any (·.refKey) = false
  | [], [], _ => rfl
  | e :: es, (x, u) :: fs, ⟨⟨t, hk⟩, hh, hv, hr⟩ => by
    rw [List.any_cons, ndIs_refKey hr, Bool.or_false]
    simp [DictEntry.refKey, hk]
  | [], _ :: _, h => h.elim
  | _ :: _, [], h => h.elim
theorem ndIs_none {w : World} {name : Str} {es : List DictEntry} {fs : List (Str × Value)} (h : NdIs w es fs) (hn : ndGet fs name = none) : getL name es = some none := by
  have h1 := ndIs_refKey h
  unfold getL
  cases q : es.find? (·.key.isStr name) with
  | none => simp only [h1, Bool.false_eq_true, if_false]
  | some e =>
    exfalso
    have : ∀ {es : List DictEntry} {fs : List (Str × Value)}, NdIs w es fs → ndGet fs name = none → es.find? (·.key.isStr name) = none := by
      intro es
      induction es with
      | nil => intro fs _ _; rfl
      | cons e es ih =>
        intro fs h hn
        cases fs with
        | nil => exact h.elim
        | cons p fs =>
          obtain ⟨x, u⟩ := p
          obtain ⟨⟨t, hk⟩, hh, hv, hr⟩ := h
          unfold ndGet at hn
          rw [List.find?_cons] at hn
          rw [List.find?_cons]
          by_cases hx : x = name
          · subst hx; simp at hn
          · have hb : (x == name) = false := beq_eq_false_iff_ne.mpr hx
            simp only [hb] at hn
            simp only [hk, Value.isStr, hb]
            exact ih hr hn
    rw [this h hn] at q; cases q
theorem ndIs_put {w : World} {name : Str} {tk : Tok} {v : Value} : ∀ {es : List DictEntry} {fs : List (Str × Value)}, NdIs w es fs → NdIs w (putL name (PyData.keyHash w.params name) (.str name tk) v es) (ndPut fs name (er v))
  | [], [], _ => ⟨⟨_, rfl⟩, rfl, rfl, trivial⟩
  | e :: es, (x, u) :: fs, ⟨⟨t, hk⟩, hh, hv, hr⟩ => by
    unfold putL ndPut
    by_cases hx : x = name
    · subst hx
      have h1 : e.key.isStr x = true := by simp [hk, Value.isStr]
      simp only [h1, if_true, beq_self_eq_true]
      exact ⟨⟨t, hk⟩, hh, rfl, hr⟩
    · have hb : (x == name) = false := beq_eq_false_iff_ne.mpr hx
      have h1 : e.key.isStr name = false := by simp [hk, Value.isStr, hx]
      simp only [h1, hb, Bool.false_eq_true, if_false]
      exact ⟨⟨t, hk⟩, hh, hv, ndIs_put hr⟩
  | [], _ :: _, h => h.elim
  | _ :: _, [], h => h.elim
theorem ndIs_length {w : World} : ∀ {es : List DictEntry} {fs : List (Str × Value)}, NdIs w es fs → es.length = fs.length
  | [], [], _ => rfl
  | _ :: _, _ :: _, ⟨_, _, _, hr⟩ => by rw [List.length_cons, List.length_cons, ndIs_length hr]
  | [], _ :: _, h => h.elim
  | _ :: _, [], h => h.elim
theorem ndPut_length (fs : List (Str × Value)) (name : Str) (v : Value) : (ndPut fs name v).length ≤ fs.length + 1 := by
  induction fs with
  | nil => simp [ndPut]
  | cons p r ih =>
    unfold ndPut
    split <;> simp; omega
end Mine
end
section
open PySem PySem.W PyProof.Rows PySem.Calls
set_option maxRecDepth 100000
namespace Mine
noncomputable def dictAttrOk (K : Frag) (C : Addr) (name : Str) : Bool :=
  plainGet K C name && hasDictIn K C && (match findIn K (.ref C) name with | some a => noGet K a | none => false) &&
  (findIn K (.ref C) "__setattr__" == some (some (.builtin "object.__setattr__"))) && plainOver K C && (takerIn K C name == some none)
noncomputable def slotAttrOk (K : Frag) (C : Addr) (name : Str) (i : Nat) : Bool :=
  plainGet K C name && isClsIn K C && (match findIn K (.ref C) name with
    | some (some (.ref p)) => (specialIn K (.ref p) "__get__" == some (some (.builtin "member_descriptor.__get__"))) && (takesIn K (.ref p) == some true) && (slotIn K p C == some i) && (takerIn K C name == some (some (.ref p))) && (typeIn K (.ref p) == some (.type "member_descriptor"))
    | _ => false) &&
  (findIn K (.ref C) "__setattr__" == some (some (.builtin "object.__setattr__"))) && plainOver K C && decide (i < 1000)
noncomputable def methOk (K : Frag) (C : Addr) (name : Str) (f : Addr) : Bool :=
  plainGet K C name && hasDictIn K C && (findIn K (.ref C) name == some (some (.ref f))) && isFn K (.ref f)
noncomputable def okV : Value → Bool
  | .builtin _ => false
  | _ => true
theorem handed_ok {v u : Value} (h : okV v = true) (e : er u = v) : handedIn u = true := by
  subst e; cases u <;> first | rfl | cases h
noncomputable def dattrM (C : Addr) (name : Str) (o : Value) : Sm Value := fun Q σ => match o with
  | .ref a => match σ.h a with
    | some (.inst C' dx _) => C' = C ∧ match σ.h dx with
      | some (.nd fs) => ∃ v, ndGet fs name = some v ∧ okV v = true ∧ Q v σ
      | _ => False
    | _ => False
  | _ => False
noncomputable def sattrM (C : Addr) (i : Nat) (o : Value) : Sm Value := fun Q σ => match o with
  | .ref a => match σ.h a with
    | some (.inst C' dx sl) => C' = C ∧ match σ.h dx with
      | some (.nd _) => ∃ v, sl[i]? = some (some v) ∧ okV v = true ∧ Q v σ
      | _ => False
    | _ => False
  | _ => False
noncomputable def dsetM (name : Str) (C : Addr) (o v : Value) : Sm Unit := fun Q σ => match o with
  | .ref a => match σ.h a with
    | some (.inst C' dx _) => C' = C ∧ match σ.h dx with
      | some (.nd fs) => fs.length ≤ 100 ∧ Q () (σ.seth dx (.nd (ndPut fs name v)))
      | _ => False
    | _ => False
  | _ => False
noncomputable def slotPut (sl : List (Option Value)) (i : Nat) (v : Value) : List (Option Value) := (sl ++ List.replicate (i + 1 - sl.length) none).set i (some v)
noncomputable def ssetM (i : Nat) (C : Addr) (o v : Value) : Sm Unit := fun Q σ => match o with
  | .ref a => match σ.h a with
    | some (.inst C' dx sl) => C' = C ∧ match σ.h dx with
      | some (.nd _) => Q () (σ.seth a (.inst C dx (slotPut sl i v)))
      | _ => False
    | _ => False
  | _ => False
theorem upd_of_split {a : Addr} {o o' : Obj} : ∀ {pre post : List (Addr × Obj)}, (∀ p ∈ pre, p.1 ≠ a) → (∀ p ∈ post, p.1 ≠ a) → Upd a o o' (pre ++ (a, o) :: post) (pre ++ (a, o') :: post)
  | [], _, _, h => .head h
  | p :: pre, post, h, h' => .tail (h p (.head _)) (upd_of_split (fun q hq => h q (.tail _ hq)) h')
section
variable {G : Gnd} {A : Around} {F : Fd}
theorem instAt {keep : Keep} {σ : St} {s : Shared} (R : FR G keep F σ s) {a C dx : Addr} {sl : List (Option Value)} {fs : List (Str × Value)} (h1 : σ.h a = some (.inst C dx sl)) (h2 : σ.h dx = some (.nd fs)) :
    ∃ sl' es n, s.heap.get? a = some ⟨.ref C, some dx, .plain, sl'⟩ ∧ sl'.toList.map (Option.map er) = sl ∧ s.heap.get? dx = some (W.dictOf es n) ∧ NdIs G.w es fs ∧ InstAt s.heap a ⟨.ref C, some dx, .plain, sl'⟩ C (some (W.dictOf es n)) := by
  obtain ⟨sl', e1, z1⟩ := R.hr.cell a _ h1
  obtain ⟨es, n, e2, z2⟩ := R.hr.cell dx _ h2
  exact ⟨sl', es, n, e1, z1, e2, z2, e1, rfl, rfl, e2⟩
theorem getAttr_dict_R {C : Addr} {name : Str} (hst : dictAttrOk G.K C name = true) (o : Value) (b : Bool) : RV G A F (getAttr o name b) (dattrM C name (er o)) := by
  refine RA.mk fun keep σ s Q E R hm => ?_
  unfold dattrM at hm
  split at hm
  · rename_i a e
    have e := er_ref e
    subst e
    split at hm
    · rename_i C' dx sl h1
      obtain ⟨rfl, hm⟩ := hm
      split at hm
      · rename_i fs h2
        obtain ⟨v, hv, hok, hq⟩ := hm
        obtain ⟨sl', es, n, e1, z1, e2, z2, I⟩ := instAt R h1 h2
        obtain ⟨u, hu, rfl⟩ := ndIs_get z2 hv
        obtain ⟨m, hn, _⟩ := R.ns
        unfold dictAttrOk at hst
        simp only [Bool.and_eq_true, beq_iff_eq] at hst
        obtain ⟨⟨⟨⟨⟨s1, s2⟩, s3⟩, s4⟩, s5⟩, s6⟩ := hst
        split at s3
        · rename_i attr s7
          exact get_own (R.fr hn) G.X I s1 s2 s7 s3 hu (handed_ok hok rfl) ⟨σ, R.toks _, hq⟩
        · cases s3
      · exact hm.elim
    · exact hm.elim
  · exact hm.elim
theorem getAttr_slot_R {C : Addr} {name : Str} {i : Nat} (hst : slotAttrOk G.K C name i = true) (o : Value) (b : Bool) : RV G A F (getAttr o name b) (sattrM C i (er o)) := by
  refine RA.mk fun keep σ s Q E R hm => ?_
  unfold sattrM at hm
  split at hm
  · rename_i a e
    have e := er_ref e
    subst e
    split at hm
    · rename_i C' dx sl h1
      obtain ⟨rfl, hm⟩ := hm
      split at hm
      · rename_i fs h2
        obtain ⟨v, hv, hok, hq⟩ := hm
        obtain ⟨sl', es, n, e1, z1, e2, z2, I⟩ := instAt R h1 h2
        obtain ⟨m, hn, _⟩ := R.ns
        unfold slotAttrOk at hst
        simp only [Bool.and_eq_true, beq_iff_eq, decide_eq_true_eq] at hst
        obtain ⟨⟨⟨⟨⟨s1, s2⟩, s3⟩, s4⟩, s5⟩, s6⟩ := hst
        split at s3
        · rename_i p s7
          simp only [Bool.and_eq_true, beq_iff_eq] at s3
          obtain ⟨⟨⟨⟨t1, t2⟩, t3⟩, t4⟩, t5⟩ := s3
          rw [← z1, List.getElem?_map, Array.getElem?_toList] at hv
          cases q : sl'[i]? with
          | none => rw [q] at hv; cases hv
          | some y =>
            rw [q] at hv
            cases y with
            | none => cases hv
            | some u =>
              have : er u = v := by simpa using hv
              subst this
              exact get_slot (R.fr hn) G.X I s1 s2 s7 t1 t2 t3 (by show (sl'[i]?).join = some u; rw [q]; rfl) (handed_ok hok rfl) ⟨σ, R.toks _, hq⟩
        · cases s3
      · exact hm.elim
    · exact hm.elim
  · exact hm.elim
theorem setAttr_dict_R {C : Addr} {name : Str} (hst : dictAttrOk G.K C name = true) (o v : Value) : RU G A F (setAttr o name v) (dsetM name C (er o) (er v)) := by
  refine RA.mk fun keep σ s Q E R hm => ?_
  unfold dsetM at hm
  split at hm
  · rename_i a e
    have e := er_ref e
    subst e
    split at hm
    · rename_i C' dx sl h1
      obtain ⟨rfl, hm⟩ := hm
      split at hm
      · rename_i fs h2
        obtain ⟨hl, hq⟩ := hm
        obtain ⟨sl', es, n, e1, z1, e2, z2, I⟩ := instAt R h1 h2
        obtain ⟨m, hn, hm'⟩ := R.ns
        unfold dictAttrOk at hst
        simp only [Bool.and_eq_true, beq_iff_eq] at hst
        obtain ⟨⟨⟨⟨⟨s1, s2⟩, s3⟩, s4⟩, s5⟩, s6⟩ := hst
        obtain ⟨pre, post, hall, p1, p2⟩ := split_of_nodup (allObjs_nodup _ _) (R.in_others h2 rfl e2)
        have N := R.news
        rw [hall] at N
        have hg : (getL name es).isSome = true := by
          cases q : ndGet fs name with
          | none => rw [ndIs_none z2 q]; rfl
          | some u => obtain ⟨u', hu, _⟩ := ndIs_get z2 q; rw [hu]; rfl
        have hz := @ndIs_put G.w name (s.toks + 1) v es fs z2
        refine set_dict (R.fr hn) G.X N I rfl s4 s5 s6 s2 hg rfl (upd_of_split p1 p2) ?_ (fun h' F' N' => ?_)
        · rw [ndIs_length hz]; have := ndPut_length fs name (er v); omega
        · exact ⟨_, R.back (t := s.toks + 2) (ao' := .nd (ndPut fs name (er v))) h2 rfl hm' hall F' N' (fun q => ⟨_, _, q, hz⟩), hq⟩
      · exact hm.elim
    · exact hm.elim
  · exact hm.elim
theorem setAttr_slot_R {C : Addr} {name : Str} {i : Nat} (hst : slotAttrOk G.K C name i = true) (o v : Value) : RU G A F (setAttr o name v) (ssetM i C (er o) (er v)) := by
  refine RA.mk fun keep σ s Q E R hm => ?_
  unfold ssetM at hm
  split at hm
  · rename_i a e
    have e := er_ref e
    subst e
    split at hm
    · rename_i C' dx sl h1
      obtain ⟨rfl, hm⟩ := hm
      split at hm
      · rename_i fs h2
        obtain ⟨sl', es, n, e1, z1, e2, z2, I⟩ := instAt R h1 h2
        obtain ⟨m, hn, hm'⟩ := R.ns
        unfold slotAttrOk at hst
        simp only [Bool.and_eq_true, beq_iff_eq, decide_eq_true_eq] at hst
        obtain ⟨⟨⟨⟨⟨s1, s2⟩, s3⟩, s4⟩, s5⟩, s6⟩ := hst
        split at s3
        · rename_i p s7
          simp only [Bool.and_eq_true, beq_iff_eq] at s3
          obtain ⟨⟨⟨⟨t1, t2⟩, t3⟩, t4⟩, t5⟩ := s3
          obtain ⟨pre, post, hall, p1, p2⟩ := split_of_nodup (allObjs_nodup _ _) (R.in_others h1 rfl e1)
          have N := R.news
          rw [hall] at N
          refine set_slot (R.fr hn) G.X N I s4 s5 t4 t5 t3 s6 rfl rfl (upd_of_split p1 p2) (fun h' F' N' => ?_)
          refine ⟨_, R.back (t := s.toks + 1) (ao' := .inst C' dx (slotPut sl i (er v))) h1 rfl hm' hall F' N' (fun q => ⟨_, q, ?_⟩), hm⟩
          have hz : sl'.size = sl.length := by rw [← z1]; simp
          rw [Array.toList_setIfInBounds, List.map_set, Array.toList_append, List.map_append, Array.toList_replicate, List.map_replicate, z1, hz]
          rfl
        · cases s3
      · exact hm.elim
    · exact hm.elim
  · exact hm.elim
theorem R_Attr {value : Expr} {attr : Str} {pos : Pos} {a : Sm Value} {om : Value → Sm Value} (hb : ∀ w, attributeBase value attr F.env w = w) (ho : ∀ o, RV G A F (getAttr o attr true) (om (er o))) (h1 : RV G A F (eval value F.env) a) :
    RV G A F (eval (.Attribute value attr pos) F.env) (bindM a om) := RA.mk fun keep σ s Q E R hm => by
  show wpAny _ _ (attributeBase value attr F.env (eval value F.env) >>= fun o => standAt pos.atName >>= fun _ => holding [o] (getAttr o attr true) >>= fun r => letTemporaryGo value o r >>= fun _ => pure r) _ _ _
  rw [hb]
  refine wpAny_bind (wpAny_mono (h1.run keep σ s _ E R hm) (fun o s₁ ⟨σ₁, R₁, hq⟩ => wpAny_bind (wpAny_standAt ?_)) fun _ _ e => e)
  exact wpAny_bind (wpAny_holding (wpAny_mono ((ho o).run keep σ₁ s₁ Q E R₁ hq) (fun r s₂ h₂ => wpAny_bind (wpAny_letTemporaryGo (wpAny_pure h₂))) fun _ _ e => e))
theorem release_wp {M : Model} {A : Around} {E : Value → Shared → Prop} {s : Shared} {vs keep : List Value} {Q : Unit → Shared → Prop} (h : Q () s) : wpAny M A (release vs keep) Q E s := fun Γ p _ => by
  rw [Sem.wp_release]; exact h
noncomputable def stAttrM (a : Sm Value) (v : Sm Value) (om : Value → Value → Sm Unit) : Sm Flow := fun Q σ => v (fun v σ₁ => a (fun o σ₂ => om o v (fun _ σ₃ => Q .next σ₃) σ₂) σ₁) σ
theorem exec_Assign1 {t value : Expr} {pos : Pos} {env : Env} (hs : swapsWith value (some t) pos.line env = pure false) (hw : swappedStores [t] value env = pure none) : exec (.Assign [t] value pos) env =
    (standAt pos >>= fun _ => eval value env >>= fun v => ((assignEach [t] env).map (·.2) |> assignAll v) >>= fun _ => pure Flow.next) := by
  show (standAt pos >>= fun _ => swapsWith value (some t) pos.line env >>= fun b => if b = true then _ else eval value env >>= fun v => swappedStores [t] value env >>= fun sw => assignStores env v sw ((assignEach [t] env).map (·.2))) = _
  rw [hs]
  show (standAt pos >>= fun _ => eval value env >>= fun v => swappedStores [t] value env >>= fun sw => assignStores env v sw ((assignEach [t] env).map (·.2))) = _
  rw [hw]
  rfl
theorem R_Assign_Attr {o : Expr} {attr : Str} {value : Expr} {pos p : Pos} {a v : Sm Value} {om : Value → Value → Sm Unit} (hs : swapsWith value (some (.Attribute o attr p)) pos.line F.env = pure false) (hw : swappedStores [.Attribute o attr p] value F.env = pure none)
    (ho : ∀ x v, RU G A F (setAttr x attr v) (om (er x) (er v))) (h1 : RV G A F (eval o F.env) a) (h2 : RV G A F (eval value F.env) v) :
    RF G A F (exec (.Assign [.Attribute o attr p] value pos) F.env) (stAttrM a v om) := RA.mk fun keep σ s Q E R hm => by
  rw [exec_Assign1 hs hw]
  refine wpAny_bind (wpAny_standAt (wpAny_bind (wpAny_mono (h2.run keep σ s _ E R hm) (fun v s₁ ⟨σ₁, R₁, hq⟩ => ?_) fun _ _ e => e)))
  show wpAny _ _ ((holding [v] (eval o F.env) >>= fun ov => standAt p.atName >>= fun _ => holding [v, ov] (setAttr ov attr v) >>= fun _ => release [v, ov] []) >>= fun _ => pure Flow.next) _ _ _
  refine wpAny_bind (wpAny_bind (wpAny_holding (wpAny_mono (h1.run keep σ₁ s₁ _ E R₁ hq) (fun ov s₂ ⟨σ₂, R₂, hq⟩ => wpAny_bind (wpAny_standAt (wpAny_bind (wpAny_holding ?_)))) fun _ _ e => e)))
  exact wpAny_mono ((ho ov v).run keep σ₂ s₂ (fun _ => Q .next) E R₂ hq) (fun _ s₃ ⟨σ₃, R₃, hq⟩ => release_wp (wpAny_pure ⟨σ₃, R₃, hq⟩)) fun _ _ e => e
noncomputable def augAttrM (a v : Sm Value) (gm : Value → Sm Value) (op : Value → Value → Sm Value) (om : Value → Value → Sm Unit) : Sm Flow := fun Q σ => a (fun o σ₁ => gm o (fun old σ₂ => v (fun v σ₃ => op old v (fun r σ₄ => om o r (fun _ σ₅ => Q .next σ₅) σ₄) σ₃) σ₂) σ₁) σ
theorem R_Aug_Attr {o : Expr} {attr : Str} {op : Operator} {value : Expr} {pos p : Pos} {a v : Sm Value} {gm : Value → Sm Value} {am : Value → Value → Sm Value} {om : Value → Value → Sm Unit} (hg : ∀ x, RV G A F (getAttr x attr true) (gm (er x))) (ha : ∀ x y, RV G A F (inplaceOp op x y) (am (er x) (er y)))
    (ho : ∀ x v, RU G A F (setAttr x attr v) (om (er x) (er v))) (h1 : RV G A F (eval o F.env) a) (h2 : RV G A F (eval value F.env) v) :
    RF G A F (exec (.AugAssign (.Attribute o attr p) op value pos) F.env) (augAttrM a v gm am om) := RA.mk fun keep σ s Q E R hm => by
  show wpAny _ _ (standAt pos >>= fun _ => eval o F.env >>= fun ov => (holding [ov] (standAt p.atName >>= fun _ => getAttr ov attr true >>= fun old => holding [old] (eval value F.env) >>= fun v => standAt pos >>= fun _ => operate [old, v] (inplaceOp op old v))) >>= fun new =>
    standAt p.atName >>= fun _ => holding [new, ov] (setAttr ov attr new) >>= fun _ => release [new, ov] [] >>= fun _ => pure Flow.next) _ _ _
  refine wpAny_bind (wpAny_standAt (wpAny_bind (wpAny_mono (h1.run keep σ s _ E R hm) (fun ov s₁ ⟨σ₁, R₁, hq⟩ => ?_) fun _ _ e => e)))
  refine wpAny_bind (wpAny_holding (wpAny_bind (wpAny_standAt (wpAny_bind (wpAny_mono ((hg ov).run keep σ₁ s₁ _ E R₁ hq) (fun old s₂ ⟨σ₂, R₂, hq⟩ => ?_) fun _ _ e => e)))))
  refine wpAny_bind (wpAny_holding (wpAny_mono (h2.run keep σ₂ s₂ _ E R₂ hq) (fun v s₃ ⟨σ₃, R₃, hq⟩ => wpAny_bind (wpAny_standAt (wpAny_operating ?_))) fun _ _ e => e))
  refine wpAny_mono ((ha old v).run keep σ₃ s₃ _ E R₃ hq) (fun r s₄ ⟨σ₄, R₄, hq⟩ => wpAny_bind (wpAny_standAt (wpAny_bind (wpAny_holding ?_)))) fun _ _ e => e
  exact wpAny_mono ((ho ov r).run keep σ₄ s₄ (fun _ => Q .next) E R₄ hq) (fun _ s₅ ⟨σ₅, R₅, hq⟩ => wpAny_bind (release_wp (wpAny_pure ⟨σ₅, R₅, hq⟩))) fun _ _ e => e
noncomputable def setAt? (xs : List Value) (k : Int) (v : Value) : Option (List Value) := if 0 ≤ k ∧ k < xs.length ∧ k < 2 ^ 62 then some (xs.set k.toNat v) else none
noncomputable def setItemM (o i v : Value) : Sm Unit := fun Q σ => match o, i with
  | .ref a, .int k _ => match σ.h a with
    | some (.list xs) => ∃ ys, setAt? xs k v = some ys ∧ Q () (σ.seth a (.list ys))
    | some (.idt kvs) => kvs.length ≤ 100000 ∧ Q () (σ.seth a (.idt (stored kvs k v)))
    | _ => False
  | .ref a, .str w _ => match σ.h a with
    | some (.sd kvs _) => kvs.length ≤ 100000 ∧ ∀ ep, Q () (σ.seth a (.sd (stored kvs w v) ep))
    | _ => False
  | _, _ => False
theorem setItem_R (o i v : Value) : RU G A F (setItem o i v) (setItemM (er o) (er i) (er v)) := by
  refine RA.mk fun keep σ s Q E R hm => ?_
  unfold setItemM at hm
  split at hm
  · rename_i a k _ e1 e2
    have e1 := er_ref e1
    obtain ⟨t, rfl⟩ := er_int e2
    subst e1
    split at hm
    · rename_i xs h1
      obtain ⟨items, ⟨n, hp⟩, hi⟩ := R.hr.cell a _ h1
      obtain ⟨ys, hy, hq⟩ := hm
      have hsz := toList_eq hi
      unfold setAt? at hy
      split at hy
      · rename_i hk
        cases hy
        refine ki_setAt hp hk.1 (by omega) (by omega) ⟨_, R.upd (t := s.toks) h1 rfl (Heap.SameBut.update ..) (ao' := .list (xs.set k.toNat (er v))) ⟨_, PlainList.upd _ ⟨n, hp⟩, ?_⟩, hq⟩
        rw [Array.toList_setIfInBounds, List.map_set, hi]
      · cases hy
    · rename_i kvs h1
      obtain ⟨kvs', hd, hk⟩ := R.hr.cell a _ h1
      subst hk
      refine wpAny_setItem_pairs (knd := intKind G.prog G.w) (intKind_is _ _ _ _) hd (fun h' hd' hs => ⟨_, R.upd (t := s.toks + 1) h1 rfl hs (ao' := .idt (stored (kvs'.map erp) k (er v))) ⟨_, hd', stored_erp ..⟩, hm.2⟩) ?_
      have := hm.1
      rw [List.length_map] at this
      simp only [sizeLine]; omega
    · exact hm.elim
  · rename_i a w _ e1 e2
    have e1 := er_ref e1
    obtain ⟨t, rfl⟩ := er_str e2
    subst e1
    split at hm
    · rename_i kvs _ h1
      obtain ⟨kvs', hd, hk⟩ := R.hr.cell a _ h1
      subst hk
      refine wpAny_setItem_pairs (knd := strKind G.prog G.w) (strKind_is _ _ _ _) hd.dictOf (fun h' hd' hs => ?_) ?_
      · obtain ⟨ep, hd'⟩ := hd'.dictAt
        exact ⟨_, R.upd (t := s.toks + 1) h1 rfl hs (ao' := .sd (stored (kvs'.map erp) w (er v)) ep) ⟨_, hd', stored_erp ..⟩, hm.2 ep⟩
      have := hm.1
      rw [List.length_map] at this
      simp only [sizeLine]; omega
    · exact hm.elim
  · exact hm.elim
noncomputable def stItemM (a b v : Sm Value) : Sm Flow := fun Q σ => v (fun v σ₁ => a (fun o σ₂ => b (fun i σ₃ => setItemM o i v (fun _ σ₄ => Q .next σ₄) σ₃) σ₂) σ₁) σ
theorem assign_Sub (o i : Expr) (p : Pos) (env : Env) (v : Value) : assign (.Subscript o i p) env v = (holding [v] (eval o env) >>= fun ov => holding [v, ov] (eval i env) >>= fun iv => standAt p >>= fun _ => holding [v, ov, iv] (setItem ov iv v) >>= fun _ =>
    release (match i with | .Slice _ _ none _ => [iv, v, ov] | _ => [v, ov, iv]) []) := rfl
theorem R_Assign_Item {o i : Expr} {value : Expr} {pos p : Pos} {a b v : Sm Value} (hs : swapsWith value (some (.Subscript o i p)) pos.line F.env = pure false) (hw : swappedStores [.Subscript o i p] value F.env = pure none)
    (h1 : RV G A F (eval o F.env) a) (h2 : RV G A F (eval i F.env) b) (h3 : RV G A F (eval value F.env) v) :
    RF G A F (exec (.Assign [.Subscript o i p] value pos) F.env) (stItemM a b v) := RA.mk fun keep σ s Q E R hm => by
  rw [exec_Assign1 hs hw]
  refine wpAny_bind (wpAny_standAt (wpAny_bind (wpAny_mono (h3.run keep σ s _ E R hm) (fun v s₁ ⟨σ₁, R₁, hq⟩ => ?_) fun _ _ e => e)))
  show wpAny _ _ (assign (.Subscript o i p) F.env v >>= fun _ => pure Flow.next) _ _ _
  rw [assign_Sub]
  refine wpAny_bind (wpAny_bind (wpAny_holding (wpAny_mono (h1.run keep σ₁ s₁ _ E R₁ hq) (fun ov s₂ ⟨σ₂, R₂, hq⟩ => ?_) fun _ _ e => e)))
  refine wpAny_bind (wpAny_holding (wpAny_mono (h2.run keep σ₂ s₂ _ E R₂ hq) (fun iv s₃ ⟨σ₃, R₃, hq⟩ => wpAny_bind (wpAny_standAt (wpAny_bind (wpAny_holding ?_)))) fun _ _ e => e))
  exact wpAny_mono ((setItem_R ov iv v).run keep σ₃ s₃ (fun _ => Q .next) E R₃ hq) (fun _ s₄ ⟨σ₄, R₄, hq⟩ => release_wp (wpAny_pure ⟨σ₄, R₄, hq⟩)) fun _ _ e => e
noncomputable def augItemM (a b v : Sm Value) (op : Value → Value → Sm Value) : Sm Flow := fun Q σ => a (fun o σ₁ => b (fun i σ₂ => itemM o i (fun old σ₃ => v (fun v σ₄ => op old v (fun r σ₅ => setItemM o i r (fun _ σ₆ => Q .next σ₆) σ₅) σ₄) σ₃) σ₂) σ₁) σ
theorem augStore_plain {i : Expr} (hi : plainSlice i = true) (ov iv new : Value) : augStore i ov iv new = (holding [new, ov, iv] (setItem ov iv new) >>= fun _ => release [new, ov, iv] [] >>= fun _ => pure Flow.next) := by
  cases i <;> first | rfl | cases hi
theorem R_Aug_Item {o i : Expr} {op : Operator} {value : Expr} {pos p : Pos} {a b v : Sm Value} {am : Value → Value → Sm Value} (hi : plainSlice i = true) (ha : ∀ x y, RV G A F (inplaceOp op x y) (am (er x) (er y)))
    (h1 : RV G A F (eval o F.env) a) (h2 : RV G A F (eval i F.env) b) (h3 : RV G A F (eval value F.env) v) :
    RF G A F (exec (.AugAssign (.Subscript o i p) op value pos) F.env) (augItemM a b v am) := RA.mk fun keep σ s Q E R hm => by
  show wpAny _ _ (standAt pos >>= fun _ => eval o F.env >>= fun ov => holding [ov] (eval i F.env) >>= fun iv => (holding [ov, iv] (standAt p >>= fun _ => getItem ov iv >>= fun old => holding [old] (eval value F.env) >>= fun v => standAt pos >>= fun _ => operate [old, v] (inplaceOp op old v))) >>= fun new =>
    standAt p >>= fun _ => augStore i ov iv new) _ _ _
  refine wpAny_bind (wpAny_standAt (wpAny_bind (wpAny_mono (h1.run keep σ s _ E R hm) (fun ov s₁ ⟨σ₁, R₁, hq⟩ => ?_) fun _ _ e => e)))
  refine wpAny_bind (wpAny_holding (wpAny_mono (h2.run keep σ₁ s₁ _ E R₁ hq) (fun iv s₂ ⟨σ₂, R₂, hq⟩ => ?_) fun _ _ e => e))
  refine wpAny_bind (wpAny_holding (wpAny_bind (wpAny_standAt (wpAny_bind (wpAny_mono ((item_R ov iv).run keep σ₂ s₂ _ E R₂ hq) (fun old s₃ ⟨σ₃, R₃, hq⟩ => ?_) fun _ _ e => e)))))
  refine wpAny_bind (wpAny_holding (wpAny_mono (h3.run keep σ₃ s₃ _ E R₃ hq) (fun v s₄ ⟨σ₄, R₄, hq⟩ => wpAny_bind (wpAny_standAt (wpAny_operating ?_))) fun _ _ e => e))
  refine wpAny_mono ((ha old v).run keep σ₄ s₄ _ E R₄ hq) (fun r s₅ ⟨σ₅, R₅, hq⟩ => wpAny_bind (wpAny_standAt ?_)) fun _ _ e => e
  rw [augStore_plain hi]
  exact wpAny_bind (wpAny_holding (wpAny_mono ((setItem_R ov iv r).run keep σ₅ s₅ (fun _ => Q .next) E R₅ hq) (fun _ s₆ ⟨σ₆, R₆, hq⟩ => wpAny_bind (release_wp (wpAny_pure ⟨σ₆, R₆, hq⟩))) fun _ _ e => e))
noncomputable def delItemM (o i : Value) : Sm Flow := fun Q σ => match o, i with
  | .ref d, .str w _ => match σ.h d with
    | some (.sd kvs _) => kvs.length ≤ 100000 ∧ (valueAt kvs w).isSome = true ∧ ∀ ep, Q .next (σ.seth d (.sd (without kvs w) ep))
    | _ => False
  | _, _ => False
noncomputable def delM (a b : Sm Value) : Sm Flow := bindM a fun o => bindM b fun i => delItemM o i
theorem R_Del {o i : Expr} {pos p : Pos} {a b : Sm Value} (h1 : RV G A F (eval o F.env) a) (h2 : RV G A F (eval i F.env) b) : RF G A F (exec (.Delete [.Subscript o i p] pos) F.env) (delM a b) := RA.mk fun keep σ s Q E R hm => by
  show wpAny _ _ (standAt pos >>= fun _ => ((eval o F.env >>= fun ov => holding [ov] (eval i F.env) >>= fun iv => standAt p >>= fun _ => holding [ov, iv] (delItem ov iv) >>= fun _ => release [ov, iv] []) >>= fun _ => pure ()) >>= fun _ => pure Flow.next) _ _ _
  refine wpAny_bind (wpAny_standAt (wpAny_bind (wpAny_bind (wpAny_bind (wpAny_mono (h1.run keep σ s _ E R hm) (fun ov s₁ ⟨σ₁, R₁, hq⟩ => ?_) fun _ _ e => e)))))
  refine wpAny_bind (wpAny_holding (wpAny_mono (h2.run keep σ₁ s₁ _ E R₁ hq) (fun iv s₂ ⟨σ₂, R₂, hq⟩ => wpAny_bind (wpAny_standAt (wpAny_bind (wpAny_holding ?_)))) fun _ _ e => e))
  have hz : delItemM (er ov) (er iv) Q σ₂ := hq
  unfold delItemM at hz
  split at hz
  · rename_i d w _ e1 e2
    have e1 := er_ref e1
    obtain ⟨t, rfl⟩ := er_str e2
    subst e1
    split at hz
    · rename_i kvs _ h1
      obtain ⟨kvs', hd, hk⟩ := R₂.hr.cell d _ h1
      subst hk
      obtain ⟨hl, hv, hz⟩ := hz
      rw [List.length_map] at hl
      rw [valueAt_isSome] at hv
      unfold delItem
      try with_reducible refine wpAny_holding ?_
      refine wpAny_bind (wpAny_sequenceKey hd.dictOf.mapOf.typeIs (by decide) ?_)
      refine wpAny_bind (wpAny_callSpecial?_slot (name := Str.ofString "__delitem__") hd.dictOf.mapOf.typeIs PySem.F.slot_dict_delitem
        (call_meetsIn PySem.F.slot_dict_delitem hd.dictOf.mapOf.typeIs PySem.F.entry_dict_delitem (PySem.F.args_dict_delitem_2 _ _) (meets_dict_delitem_pairs (strKind G.prog G.w) d (strKind_is _ _ _ _)) ⟨kvs', hd.dictOf, (by simp only [sizeLine]; omega), hv, fun h' hmm hs => ?_⟩))
      obtain ⟨ep, hmm⟩ := hmm.dictAt
      exact wpAny_pure (release_wp (wpAny_pure (wpAny_pure ⟨_, R₂.upd (t := s₂.toks + 1) h1 rfl hs (ao' := .sd (without (kvs'.map erp) w) ep) ⟨_, hmm, without_erp ..⟩, hz ep⟩)))
    · exact hz.elim
  · exact hz.elim
end
end Mine
end
section
open PySem PySem.W PyProof.Rows PySem.Calls
set_option maxRecDepth 100000
namespace Mine
section
variable {G : Gnd} {A : Around} {F : Fd}
theorem FR.ext' {keep : Keep} {σ : St} {s : Shared} (R : FR G keep F σ s) {hp : Heap} {t : Nat} (hk : ∀ b o, s.heap.get? b = some o → hp.get? b = some o) : FR G keep F σ { s with heap := hp, toks := t } := by
  obtain ⟨m, hn, hm⟩ := R.ns
  refine ⟨⟨fun b o e => hk b o (R.hr.base b o e), Nat.le_trans R.lb (Nat.le_of_lt (hn.keeps hk).lt), fun p e => (R.hr.kept p e).at fun o q => hk _ _ q, fun a ao e => (R.hr.cell a ao e).at fun o q => hk _ _ q, R.hr.apart, R.hr.fresh, R.hr.gens, R.hr.os⟩,
    ⟨m, hn.keeps hk, hm⟩, ?_, R.lk, R.lb, R.lh, R.lc, R.ck, R.cb, R.ch, R.ci, R.hasc, R.stk, R.top⟩
  intro x ca e
  obtain ⟨v, hv, q⟩ := R.cl x ca e
  exact ⟨v, hv.keeps hk, q⟩
theorem FR.backExt {keep : Keep} {σ : St} {s : Shared} (R : FR G keep F σ s) {hp : Heap} {t : Nat} {m : Str → Option Value} {extra : List (Addr × Obj)}
    (hm : ∀ y u, F.env.kindOf y = some .local → σ.l y = some u → (m y).map er = some u)
    (F' : Fr G.h₀ F.env.locals hp m) (N' : News G.h₀ F.env.locals hp (extra ++ allObjs s.heap (othersP G F.env.locals))) : FR G keep F σ { s with heap := hp, toks := t } := by
  have hk : ∀ b o, b ≠ F.env.locals → s.heap.get? b = some o → hp.get? b = some o := fun b o hL e => by
    cases q : G.h₀.get? b with
    | some z =>
      have := R.hr.base b z q
      rw [e] at this; cases this
      exact F'.keep b o q
    | none => exact (N' (b, o) (List.mem_append_right _ (mem_allObjs.mpr ⟨by unfold othersP; simp [hL, q], e⟩))).1
  refine ⟨⟨F'.keep, Nat.le_trans R.lb (Nat.le_of_lt F'.ns.lt), fun p e => (R.hr.kept p e).at fun o q => hk _ _ (R.lk p e) q, fun a ao e => (R.hr.cell a ao e).at fun o q => hk _ _ (R.h_ne_locals e) q, R.hr.apart, R.hr.fresh, R.hr.gens, R.hr.os⟩,
    ⟨m, F'.ns, hm⟩, ?_, R.lk, R.lb, R.lh, R.lc, R.ck, R.cb, R.ch, R.ci, R.hasc, R.stk, R.top⟩
  intro x ca e
  obtain ⟨v, ⟨o, ho, hd⟩, q⟩ := R.cl x ca e
  exact ⟨v, ⟨o, hk _ _ (R.lc x ca e) ho, hd⟩, q⟩
noncomputable def notStar : Expr → Bool
  | .Starred .. => false
  | _ => true
theorem starEach_plain {e : Expr} {rest : List Expr} {env : Env} (h : notStar e = true) : starEach (e :: rest) env = (false, eval e env) :: starEach rest env := by
  cases e <;> first | rfl | cases h
theorem starEach_star {e : Expr} {p : Pos} {rest : List Expr} {env : Env} : starEach (.Starred e p :: rest) env = (true, eval e env) :: starEach rest env := rfl
noncomputable abbrev RSp (G : Gnd) (A : Around) (F : Fd) (pos : Pos) (es : List Expr) (m : Sm (List Value)) : Prop := RL G A F (spliced (backTo pos (starEach es F.env))) m
noncomputable def consM (a : Sm Value) (b : Sm (List Value)) : Sm (List Value) := fun Q σ => a (fun v σ₁ => b (fun vs σ₂ => Q (v :: vs) σ₂) σ₁) σ
theorem RSp_nil {pos : Pos} : RSp G A F pos [] (pureM []) := RA.mk fun _ σ _ _ _ R hm => Calls.spliced_nil ⟨σ, R, hm⟩
theorem RSp_cons {pos : Pos} {e : Expr} {rest : List Expr} {a : Sm Value} {b : Sm (List Value)} (hs : notStar e = true) (h1 : RV G A F (eval e F.env) a) (h2 : RSp G A F pos rest b) : RSp G A F pos (e :: rest) (consM a b) := RA.mk fun keep σ s Q E R hm => by
  rw [starEach_plain hs]
  show wpAny _ _ (spliced ((false, eval e F.env) :: backTo pos (starEach rest F.env))) _ _ _
  refine Calls.spliced_cons (wpAny_mono (h1.run keep σ s _ E R hm) (fun v s₁ ⟨σ₁, R₁, hq⟩ => ?_) fun _ _ e => e)
  exact wpAny_mono (h2.run keep σ₁ s₁ _ E R₁ hq) (fun vs s₂ ⟨σ₂, R₂, hq⟩ => ⟨σ₂, R₂, hq⟩) fun _ _ e => e
noncomputable def itemsOf (o : Value) : Sm (List Value) := fun Q σ => match o with
  | .ref a => match σ.h a with
    | some (.list xs) | some (.tup xs) => xs.length ≤ 1000000 ∧ Q xs σ
    | _ => False
  | _ => False
theorem star_R {v : Value} {keep : Keep} {σ : St} {s : Shared} {Q : List Value → St → Prop} {E : Value → Shared → Prop} (R : FR G keep F σ s) (hm : itemsOf (er v) Q σ) : StarOf G.M A E v (fun vs s' => ∃ σ', FR G keep F σ' s' ∧ Q (vs.map er) σ') s := by
  unfold itemsOf at hm
  split at hm
  · rename_i a e
    have e := er_ref e
    subst e
    have go : ∀ {T : String} {o : Obj} {items : Array Value} {n : Nat} {xs : List Value}, (T = "list" ∨ T = "tuple") → s.heap.get? a = some o → o.cls = .type T → o.data = .seq items n → items.toList.map er = xs → xs.length ≤ 1000000 → Q xs σ →
        StarOf G.M A E (.ref a) (fun vs s' => ∃ σ', FR G keep F σ' s' ∧ Q (vs.map er) σ') s := by
      intro T o items n xs hT ho hc hd hi hl hq
      have hsz := toList_eq hi
      have hT' : s.TypeIs (.ref a) T := ⟨o, ho, hc⟩
      have z : wpAny G.M A (collect (.ref a)) (fun vs s' => ∃ σ', FR G keep F σ' s' ∧ Q (vs.map er) σ') E s :=
        wpAny_collect_seq a hT ho hc hd (fun h' hk => ⟨σ, R.ext' (t := s.toks) hk, by rw [hi]; exact hq⟩) (by simp only [sizeLine]; omega)
      unfold StarOf notIterableAtAll
      rcases hT with rfl | rfl
      · exact wpAny_bind (wpAny_specialOf hT' PySem.F.slot_list_iter.lookup (wpAny_pure ⟨rfl, z⟩))
      · exact wpAny_bind (wpAny_specialOf hT' PySem.F.slot_tuple_iter.lookup (wpAny_pure ⟨rfl, z⟩))
    split at hm
    · rename_i q; obtain ⟨items, ⟨n, hp⟩, hi⟩ := R.hr.cell a _ q; exact go (.inl rfl) hp rfl rfl hi hm.1 hm.2
    · rename_i q; obtain ⟨items, ⟨o, ho, hc, n, hd⟩, hi⟩ := R.hr.cell a _ q; exact go (.inr rfl) ho hc hd hi hm.1 hm.2
    · exact hm.elim
  · exact hm.elim
noncomputable def starM (a : Sm Value) (b : Sm (List Value)) : Sm (List Value) := fun Q σ => a (fun v σ₁ => itemsOf v (fun xs σ₂ => b (fun vs σ₃ => Q (xs ++ vs) σ₃) σ₂) σ₁) σ
theorem RSp_star {pos p : Pos} {e : Expr} {rest : List Expr} {a : Sm Value} {b : Sm (List Value)} (h1 : RV G A F (eval e F.env) a) (h2 : RSp G A F pos rest b) : RSp G A F pos (.Starred e p :: rest) (starM a b) := RA.mk fun keep σ s Q E R hm => by
  rw [starEach_star]
  refine ks_spliced (wpAny_mono (h1.run keep σ s _ E R hm) (fun v s₁ ⟨σ₁, R₁, hq⟩ => ?_) fun _ _ e => e)
  have := star_R (A := A) (E := E) R₁ hq
  unfold StarOf at this ⊢
  refine wpAny_mono this (fun b s₂ ⟨hb, h⟩ => ⟨hb, wpAny_mono h (fun here s₃ ⟨σ₃, R₃, hq⟩ => ?_) fun _ _ e => e⟩) fun _ _ e => e
  exact wpAny_mono (h2.run keep σ₃ s₃ _ E R₃ hq) (fun vs s₄ ⟨σ₄, R₄, hq⟩ => ⟨σ₄, R₄, by rw [List.map_append]; exact hq⟩) fun _ _ e => e
set_option genInjectivity false in
structure RArg (G : Gnd) (A : Around) (F : Fd) (pos : Pos) (es : List Expr) (m : Sm (List Value)) : Prop where
  run : ∀ (f : Value) (keep : Keep) (σ : St) (s : Shared) (Q : List Value → St → Prop) (E : Value → Shared → Prop), FR G keep F σ s → m Q σ →
  wpAny G.M A (evalArgs f true (backTo pos (starEach es F.env)) []) (fun a s' => a.kw = [] ∧ ∃ σ', FR G keep F σ' s' ∧ Q (a.pos.map er) σ') E s
theorem RArg_nil {pos : Pos} : RArg G A F pos [] (pureM []) := RArg.mk fun f keep σ s Q E R hm => evalArgs_nil3 ⟨rfl, σ, R, hm⟩
theorem RArg_cons {pos : Pos} {e : Expr} {rest : List Expr} {m : Sm (List Value)} (hs : notStar e = true) (h : RSp G A F pos (e :: rest) m) : RArg G A F pos (e :: rest) m := RArg.mk fun f keep σ s Q E R hm => by
  have h' := h.run keep σ s Q E R hm
  rw [starEach_plain hs] at h' ⊢
  exact Calls.evalArgs_plain (wpAny_mono h' (fun vs s' ⟨σ', R', hq⟩ => ⟨rfl, σ', R', hq⟩) fun _ _ e => e)
theorem RArg_lone {pos p : Pos} {e : Expr} {a : Sm Value} (h : RV G A F (eval e F.env) a) : RArg G A F pos [.Starred e p] (bindM a itemsOf) := RArg.mk fun f keep σ s Q E R hm => by
  refine ks_lone (wpAny_mono (h.run keep σ s _ E R hm) (fun v s₁ ⟨σ₁, R₁, hq⟩ => ?_) fun _ _ e => e)
  have := star_R (A := A) (E := E) R₁ hq
  unfold StarOf at this ⊢
  exact wpAny_mono this (fun b s₂ ⟨hb, h⟩ => ⟨hb, wpAny_mono h (fun vs s₃ ⟨σ₃, R₃, hq⟩ => ⟨rfl, σ₃, R₃, hq⟩) fun _ _ e => e⟩) fun _ _ e => e
noncomputable def Keeps (G : Gnd) (f : Value) : Prop := ∀ h : Heap, G.K.In h → ∃ k, (k = Keeper.frame ∨ k = Keeper.machine ∨ k = Keeper.boundFrame) ∧ Looks G.M h (keeperOf f) k
theorem keeps_K' {f : Value} (h : keepIn G.K f = true) : Keeps G f := fun hp X => keeps_K h hp X
theorem keeps_builtin {i : String} : Keeps G (.builtin i) := fun _ _ => ⟨.machine, .inr (.inl rfl), Looks.of_pure rfl⟩
theorem keeps_type {i : String} : Keeps G (.type i) := fun _ _ => ⟨.machine, .inr (.inl rfl), Looks.of_pure rfl⟩
theorem R_callWith {f : Value} {first : List Value} {pos : Pos} {es : List Expr} {m : Sm (List Value)} {cm : List Value → Sm Value} (hk : Keeps G f) (h1 : RArg G A F pos es m) (h2 : ∀ vs, RV G A F (call f (first ++ vs)) (cm (vs.map er))) :
    RV G A F (callWith pos f first (backTo pos (starEach es F.env)) []) (bindM m cm) := RA.mk fun keep σ s Q E R hm => by
  have h := wpAny_mono (h1.run f keep σ s _ E R hm) (Q' := fun a s₁ => G.K.In s₁.heap ∧ wpAny G.M A (call f (first ++ a.pos) a.kw) (fun a s' => ∃ σ', FR G keep F σ' s' ∧ Q (er a) σ') E s₁)
    (fun a s₁ ⟨hkw, σ₁, R₁, hq⟩ => ⟨R₁.X, by rw [hkw]; exact (h2 a.pos).run keep σ₁ s₁ Q E R₁ hq⟩) fun _ _ e => e
  cases hany : (backTo pos (starEach es F.env)).any (·.1) with
  | false => exact callWith_of (by rw [hany]; rfl) (fun hp X => hk hp X) h
  | true => exact ks_call hany (fun hp X => hk hp X) h
theorem R_Call {func : Expr} {args : List Expr} {pos : Pos} {f : Value} {m : Sm (List Value)} {cm : List Value → Sm Value} (hf : (match func with | .Attribute .. => false | _ => true) = true) (hfv : ∀ v, er v = f → v = f) (h0 : RV G A F (eval func F.env) (pureM f)) (hk : Keeps G f)
    (h1 : RArg G A F pos args m) (h2 : ∀ vs, RV G A F (call f vs) (cm (vs.map er))) : RV G A F (eval (.Call func args [] pos) F.env) (bindM m cm) := by
  have e : eval (.Call func args [] pos) F.env = (eval func F.env >>= fun f => callWith pos f [] (backTo pos (starEach args F.env)) []) := by
    cases func <;> first | rfl | cases hf
  rw [e]
  refine RA.mk fun keep σ s Q E R hm => ?_
  refine wpAny_bind (wpAny_mono (h0.run keep σ s (fun v σ' => v = f ∧ bindM m cm Q σ') E R ⟨rfl, hm⟩) (fun v s₁ ⟨σ₁, R₁, hv, hq⟩ => ?_) fun _ _ e => e)
  have hv' := hfv v hv
  subst hv'
  exact (R_callWith (first := []) hk h1 h2).run keep σ₁ s₁ Q E R₁ hq
theorem methodCall_eq {o : Expr} {name : Str} {apos pos : Pos} {env : Env} {ov : Value} {n : Nat} {args : List (Bool × Sem Value)} (hline : (apos.endLine == pos.line) = true) :
    methodCall o name apos pos env ov n args [] = (holding [ov] (calleeOf (methodCallForm n args []) o env ov name) >>= fun p => callWith pos p.1 p.2 args []) := by
  unfold methodCall
  have : ∀ few, methodCallPos few o env apos pos = pure pos := by
    intro few
    unfold methodCallPos
    rw [hline, Bool.or_true]; rfl
  simp only [this]
  rfl
theorem eval_CallAttr {o : Expr} {name : Str} {apos pos : Pos} {args : List Expr} {env : Env} (hb : ∀ w, attributeBase o name env w = w) (hline : (apos.endLine == pos.line) = true) : eval (.Call (.Attribute o name apos) args [] pos) env =
    (eval o env >>= fun ov => standAt apos.atName >>= fun _ => holding [ov] (calleeOf (methodCallForm (args.length + 0) (backTo pos (starEach args env)) []) o env ov name) >>= fun p => callWith pos p.1 p.2 (backTo pos (starEach args env)) []) := by
  show (attributeBase o name env (eval o env) >>= fun ov => standAt apos.atName >>= fun _ => methodCall o name apos pos env ov (args.length + ([] : List Keyword).length) (backTo pos (starEach args env)) (backToKw pos (keywordEach [] env))) = _
  rw [hb]
  have : ∀ ov, methodCall o name apos pos env ov (args.length + ([] : List Keyword).length) (backTo pos (starEach args env)) (backToKw pos (keywordEach [] env)) = _ := fun ov => methodCall_eq (n := args.length + 0) hline
  simp only [this]
noncomputable def Looked (G : Gnd) (A : Around) (F : Fd) (name : Str) (P : Value → St → Prop) (f : Value) : Prop := ∀ (ov : Value) (pl : Sem Bool) (keep : Keep) (σ : St) (s : Shared) (Q : Value × List Value → Shared → Prop) (E : Value → Shared → Prop), FR G keep F σ s → P (er ov) σ → Q (f, [ov]) s →
  wpAny G.M A (getMethod ov name pl) Q E s
noncomputable def methM (P : Value → St → Prop) (a : Sm Value) (m : Sm (List Value)) (cm : Value → List Value → Sm Value) : Sm Value := fun Q σ => a (fun o σ₁ => P o σ₁ ∧ m (fun vs σ₂ => cm o vs Q σ₂) σ₁) σ
theorem R_Meth {o : Expr} {name : Str} {apos pos : Pos} {args : List Expr} {a : Sm Value} {m : Sm (List Value)} {P : Value → St → Prop} {f : Value} {cm : Value → List Value → Sm Value} (hb : ∀ w, attributeBase o name F.env w = w) (hline : (apos.endLine == pos.line) = true)
    (hfew : methodCallForm (args.length + 0) (backTo pos (starEach args F.env)) [] = true) (hl : Looked G A F name P f) (hk : Keeps G f) (h0 : RV G A F (eval o F.env) a) (h1 : RArg G A F pos args m) (h2 : ∀ ov vs, RV G A F (call f (ov :: vs)) (cm (er ov) (vs.map er))) :
    RV G A F (eval (.Call (.Attribute o name apos) args [] pos) F.env) (methM P a m cm) := by
  rw [eval_CallAttr hb hline]
  refine RA.mk fun keep σ s Q E R hm => ?_
  refine wpAny_bind (wpAny_mono (h0.run keep σ s _ E R hm) (fun ov s₁ ⟨σ₁, R₁, hp, hq⟩ => wpAny_bind (wpAny_standAt (wpAny_bind (wpAny_holding ?_)))) fun _ _ e => e)
  rw [hfew]
  show wpAny _ _ (getMethod ov name _) _ _ _
  refine hl ov _ keep σ₁ s₁ _ E R₁ hp ?_
  exact (R_callWith (first := [ov]) hk h1 (h2 ov)).run keep σ₁ s₁ Q E R₁ hq
noncomputable def isListP (o : Value) (σ : St) : Prop := match o with
  | .ref a => match σ.h a with | some (.list _) => True | _ => False
  | _ => False
noncomputable def isDictP (o : Value) (σ : St) : Prop := match o with
  | .ref a => match σ.h a with | some (.sd _ _) | some (.idt _) | some (.rod _) => True | _ => False
  | _ => False
noncomputable def isSetP (o : Value) (σ : St) : Prop := match o with
  | .ref a => match σ.h a with | some (.ss _) => True | _ => False
  | _ => False
noncomputable def isStrP (o : Value) (_ : St) : Prop := match o with
  | .str _ _ => True
  | _ => False
noncomputable def isInstP (C : Addr) (name : Str) (o : Value) (σ : St) : Prop := match o with
  | .ref a => match σ.h a with
    | some (.inst C' dx _) => C' = C ∧ match σ.h dx with | some (.nd fs) => ndGet fs name = none | _ => False
    | _ => False
  | _ => False
theorem looked_list {name : Str} {id : String} (slot : Slot "list" name id) (hty : typeOf (.builtin id) = pure (.type "method_descriptor")) : Looked G A F name isListP (.builtin id) := by
  intro ov pl keep σ s Q E R hp hq
  unfold isListP at hp
  split at hp
  · rename_i a e
    have e := er_ref e
    subst e
    split at hp
    · rename_i q
      obtain ⟨items, ⟨n, hp⟩, hi⟩ := R.hr.cell a _ q
      exact getMethod_builtin ⟨_, hp, rfl⟩ PySem.F.plainAttrs_list slot hty (fun b e => by cases e; exact ⟨_, hp, rfl⟩) hq
    · exact hp.elim
  · exact hp.elim
theorem looked_dict {name : Str} {id : String} (slot : Slot "dict" name id) (hty : typeOf (.builtin id) = pure (.type "method_descriptor")) : Looked G A F name isDictP (.builtin id) := by
  intro ov pl keep σ s Q E R hp hq
  unfold isDictP at hp
  split at hp
  · rename_i a e
    have e := er_ref e
    subst e
    split at hp
    · rename_i q
      obtain ⟨kvs, hd, hi⟩ := R.hr.cell a _ q
      exact getMethod_builtin hd.dictOf.mapOf.typeIs PySem.F.plainAttrs_dict slot hty hd.dictOf.mapOf.noDict hq
    · rename_i q
      obtain ⟨kvs, hd, hi⟩ := R.hr.cell a _ q
      exact getMethod_builtin hd.mapOf.typeIs PySem.F.plainAttrs_dict slot hty hd.mapOf.noDict hq
    · rename_i q
      obtain ⟨_, kvs, hd, hi⟩ := R.hr.cell a _ q
      exact getMethod_builtin hd.mapOf.typeIs PySem.F.plainAttrs_dict slot hty hd.mapOf.noDict hq
    · exact hp.elim
  · exact hp.elim
theorem looked_set_add : Looked G A F "add" isSetP (.builtin "set.add") := by
  intro ov pl keep σ s Q E R hp hq
  unfold isSetP at hp
  split at hp
  · rename_i a e
    have e := er_ref e
    subst e
    split at hp
    · rename_i q
      exact getMethod_set_add (R.hr.cell a _ q) hq
    · exact hp.elim
  · exact hp.elim
theorem looked_str {name : Str} {id : String} (slot : Slot "str" name id) (hty : typeOf (.builtin id) = pure (.type "method_descriptor")) : Looked G A F name isStrP (.builtin id) := by
  intro ov pl keep σ s Q E R hp hq
  unfold isStrP at hp
  split at hp
  · rename_i x t e
    obtain ⟨u, rfl⟩ := er_str e
    exact getMethod_builtin (typeIs_str s x u) PySem.F.plainAttrs_str slot hty (fun b e => by cases e) hq
  · exact hp.elim
theorem looked_inst {C f : Addr} {name : Str} (hst : methOk G.K C name f = true) : Looked G A F name (isInstP C name) (.ref f) := by
  intro ov pl keep σ s Q E R hp hq
  unfold isInstP at hp
  split at hp
  · rename_i a e
    have e := er_ref e
    subst e
    split at hp
    · rename_i C' dx sl h1
      obtain ⟨rfl, hp⟩ := hp
      split at hp
      · rename_i fs h2
        obtain ⟨sl', es, n, e1, z1, e2, z2, I⟩ := instAt R h1 h2
        obtain ⟨m, hn, _⟩ := R.ns
        unfold methOk at hst
        simp only [Bool.and_eq_true, beq_iff_eq] at hst
        obtain ⟨⟨⟨s1, s2⟩, s3⟩, s4⟩ := hst
        exact method_inst (R.fr hn) G.X I s1 s3 s4 (ndIs_none z2 hp) hq
      · exact hp.elim
    · exact hp.elim
  · exact hp.elim
noncomputable def appendM (o : Value) (vs : List Value) : Sm Value := fun Q σ => match o, vs with
  | .ref a, [v] => match σ.h a with
    | some (.list xs) => xs.length ≤ 1000000 ∧ Q .none (σ.seth a (.list (xs ++ [v])))
    | _ => False
  | _, _ => False
noncomputable def popM (o : Value) (vs : List Value) : Sm Value := fun Q σ => match o, vs with
  | .ref a, [] => match σ.h a with
    | some (.list xs) => xs.length ≤ 1000000 ∧ ∃ v, xs.getLast? = some v ∧ Q v (σ.seth a (.list xs.dropLast))
    | _ => False
  | _, _ => False
noncomputable def clearM (o : Value) (vs : List Value) : Sm Value := fun Q σ => match o, vs with
  | .ref a, [] => match σ.h a with
    | some (.list xs) => xs.length ≤ 1000000 ∧ Q .none (σ.seth a (.list []))
    | _ => False
  | _, _ => False
theorem map_one {vs : List Value} {v : Value} (h : vs.map er = [v]) : ∃ u, vs = [u] ∧ er u = v := by
  exact List.map_eq_singleton_iff.mp h
theorem map_two {vs : List Value} {v w : Value} (h : vs.map er = [v, w]) : ∃ u z, vs = [u, z] ∧ er u = v ∧ er z = w := by
  obtain ⟨u, r, e, hu, hr⟩ := List.map_eq_cons_iff.mp h
  obtain ⟨z, e', hz⟩ := map_one hr
  exact ⟨u, z, by rw [e, e'], hu, hz⟩
theorem append_R (o : Value) (vs : List Value) : RV G A F (call (.builtin "list.append") (o :: vs)) (appendM (er o) (vs.map er)) := by
  refine RA.mk fun keep σ s Q E R hm => ?_
  unfold appendM at hm
  split at hm
  · rename_i a v e1 e2
    have e1 := er_ref e1
    subst e1
    obtain ⟨u, rfl, rfl⟩ := map_one e2
    split at hm
    · rename_i xs h1
      obtain ⟨items, ⟨n, hp⟩, hi⟩ := R.hr.cell a _ h1
      have hsz := toList_eq hi
      refine call_meets PySem.F.slot_list_append ⟨_, hp, rfl⟩ PySem.F.entry_list_append (PySem.F.args_list_append_2 _ _) (list_append a items n u (by have := hm.1; simp only [sizeLine]; omega)) ⟨hp, ?_⟩
      exact ⟨_, R.upd (t := s.toks) h1 rfl (Heap.SameBut.update ..) (ao' := .list (xs ++ [er u])) ⟨_, PlainList.upd (fun x => x.push u) ⟨n, hp⟩, by simp [hi]⟩, hm.2⟩
    · exact hm.elim
  · exact hm.elim
theorem pop_R (o : Value) (vs : List Value) : RV G A F (call (.builtin "list.pop") (o :: vs)) (popM (er o) (vs.map er)) := by
  refine RA.mk fun keep σ s Q E R hm => ?_
  unfold popM at hm
  split at hm
  · rename_i a e1 e2
    have e1 := er_ref e1
    subst e1
    obtain rfl := List.map_eq_nil_iff.mp e2
    split at hm
    · rename_i xs h1
      obtain ⟨items, ⟨n, hp⟩, hi⟩ := R.hr.cell a _ h1
      have hsz := toList_eq hi
      obtain ⟨hl, v, hv, hq⟩ := hm
      rw [List.getLast?_eq_getElem?] at hv
      obtain ⟨u, hu, rfl⟩ := items_get hi hv
      rw [← hsz] at hu
      refine call_meets PySem.F.slot_list_pop ⟨_, hp, rfl⟩ PySem.F.entry_list_pop (PySem.F.args_list_pop_1 _) (MeetsSeq.list_pop_last a items n u hu (by simp only [sizeLine]; omega)) ⟨hp, ?_⟩
      refine ⟨_, R.upd (t := s.toks) h1 rfl (Heap.SameBut.update ..) (ao' := .list xs.dropLast) ⟨_, PlainList.upd (fun xs => xs.eraseIdxIfInBounds (items.size - 1)) ⟨n, hp⟩, ?_⟩, hq⟩
      have hlt : items.size - 1 < items.size := (Array.getElem?_eq_some_iff.mp hu).1
      have e : items.toList.eraseIdx (items.size - 1) = items.toList.dropLast := by
        rw [← Array.length_toList, List.eraseIdx_length_sub_one]
      rw [← hi, Array.eraseIdxIfInBounds, dif_pos hlt, Array.toList_eraseIdx, e]
      simp
    · exact hm.elim
  · exact hm.elim
theorem clear_R (o : Value) (vs : List Value) : RV G A F (call (.builtin "list.clear") (o :: vs)) (clearM (er o) (vs.map er)) := by
  refine RA.mk fun keep σ s Q E R hm => ?_
  unfold clearM at hm
  split at hm
  · rename_i a e1 e2
    have e1 := er_ref e1
    subst e1
    obtain rfl := List.map_eq_nil_iff.mp e2
    split at hm
    · rename_i xs h1
      obtain ⟨items, ⟨n, hp⟩, hi⟩ := R.hr.cell a _ h1
      have hsz := toList_eq hi
      refine call_meets PySem.F.slot_list_clear ⟨_, hp, rfl⟩ PySem.F.entry_list_clear (PySem.F.args_list_clear_1 _) (AutoSeq1.list_clear_list_0 a items n (by have := hm.1; simp only [sizeLine]; omega)) ⟨hp, ?_⟩
      exact ⟨_, R.upd (t := s.toks) h1 rfl (Heap.SameBut.update ..) (ao' := .list []) ⟨_, PlainList.upd (fun _ => #[]) ⟨n, hp⟩, rfl⟩, hm.2⟩
    · exact hm.elim
  · exact hm.elim
noncomputable def getM (o : Value) (vs : List Value) : Sm Value := fun Q σ => match o, vs with
  | .ref a, [.int k _, d] => match σ.h a with
    | some (.rod kvs) => Q ((valueAt kvs k).getD d) σ
    | _ => False
  | .ref a, [.str k _] => match σ.h a with
    | some (.sd kvs _) => Q ((valueAt kvs k).getD .none) σ
    | _ => False
  | _, _ => False
theorem getD_erp {K : Type} [DecidableEq K] (kvs : List (K × Value)) (k : K) (d : Value) : (valueAt (kvs.map erp) k).getD (er d) = er ((valueAt kvs k).getD d) := by
  rw [valueAt_erp]; cases valueAt kvs k <;> rfl
theorem get_R (o : Value) (vs : List Value) : RV G A F (call (.builtin "dict.get") (o :: vs)) (getM (er o) (vs.map er)) := by
  refine RA.mk fun keep σ s Q E R hm => ?_
  unfold getM at hm
  split at hm
  · rename_i a k _ d e1 e2
    have e1 := er_ref e1
    subst e1
    obtain ⟨u, z, rfl, hu, rfl⟩ := map_two e2
    obtain ⟨t, rfl⟩ := er_int hu
    split at hm
    · rename_i kvs h1
      obtain ⟨hmods, kvs', hd, hk⟩ := R.hr.cell a _ h1
      subst hk
      rw [getD_erp] at hm
      exact call_meetsIn PySem.F.slot_dict_get hd.mapOf.typeIs PySem.F.entry_dict_get (PySem.F.args_dict_get_3 _ _ _) (meets_dict_get_default (intKind G.prog G.w) a (intKind_is _ _ _ _) hmods z) ⟨_, hd.mapOf, _, R.toks _, hm⟩
    · exact hm.elim
  · rename_i a k _ e1 e2
    have e1 := er_ref e1
    subst e1
    obtain ⟨u, rfl, hu⟩ := map_one e2
    obtain ⟨t, rfl⟩ := er_str hu
    split at hm
    · rename_i kvs _ h1
      obtain ⟨kvs', hd, hk⟩ := R.hr.cell a _ h1
      have hmods := R.hr.ne_mods h1 rfl
      subst hk
      have : ((valueAt (kvs'.map erp) k).getD .none) = er ((valueAt kvs' k).getD .none) := getD_erp kvs' k .none
      rw [this] at hm
      exact call_meetsIn PySem.F.slot_dict_get hd.dictOf.mapOf.typeIs PySem.F.entry_dict_get (PySem.F.args_dict_get_2 _ _) (meets_dict_get (strKind G.prog G.w) a (strKind_is _ _ _ _) hmods) ⟨_, hd.dictOf.mapOf, _, R.toks _, hm⟩
    · exact hm.elim
  · exact hm.elim
noncomputable def addM (o : Value) (vs : List Value) : Sm Value := fun Q σ => match o, vs with
  | .ref a, [.str k _] => match σ.h a with
    | some (.ss S) => S.length < 4000 ∧ Q .none (σ.seth a (.ss (if k ∈ S then S else S ++ [k])))
    | _ => False
  | _, _ => False
theorem add_R (o : Value) (vs : List Value) : RV G A F (call (.builtin "set.add") (o :: vs)) (addM (er o) (vs.map er)) := by
  refine RA.mk fun keep σ s Q E R hm => ?_
  unfold addM at hm
  split at hm
  · rename_i a k _ e1 e2
    have e1 := er_ref e1
    subst e1
    obtain ⟨u, rfl, hu⟩ := map_one e2
    obtain ⟨t, rfl⟩ := er_str hu
    split at hm
    · rename_i S h1
      have r := R.hr.cell a _ h1
      refine call_set_add (knd := strKind G.prog G.w) (strKind_is _ _ _ _) rfl r (by simp only [scanBound]; have := hm.1; omega) fun h' hs hS => ?_
      refine ⟨_, R.upd (t := s.toks + 1) h1 rfl hs (ao' := .ss (if k ∈ S then S else S ++ [k])) ?_, hm.2⟩
      show h'.SetOf (strKind G.prog G.w) a _ _
      by_cases hk : k ∈ S
      · simp only [hk, decide_true, if_true] at hS ⊢
        have : (fun k' => decide (k' ∈ S) || decide (k' = k)) = fun k' => decide (k' ∈ S) := by
          funext k'
          by_cases q : k' = k
          · subst q; simp [hk]
          · simp [q]
        rwa [this] at hS
      · simp only [hk, decide_false, Bool.false_eq_true, if_false, List.length_append, List.length_singleton] at hS ⊢
        have : (fun k' => decide (k' ∈ S) || decide (k' = k)) = fun k' => decide (k' ∈ S ++ [k]) := by
          funext k'
          simp
        rwa [this] at hS
    · exact hm.elim
  · exact hm.elim
noncomputable def strsOf : List Value → Option (List Str)
  | [] => some []
  | .str x _ :: r => (strsOf r).map (x :: ·)
  | _ => none
noncomputable def joinM (o : Value) (vs : List Value) : Sm Value := fun Q σ => match o, vs with
  | .str x _, [.ref a] => match σ.h a with
    | some (.list xs) => ∃ ys, strsOf xs = some ys ∧ (ys.map (·.length)).sum + ys.length * x.length ≤ 1000000 ∧ Q (.str (Txt.join x ys) 0) σ
    | _ => False
  | _, _ => False
theorem strsAre_of : ∀ {vs : List Value} {ys : List Str}, strsOf (vs.map er) = some ys → StrsAre vs ys
  | [], ys, h => by cases h; exact .nil
  | v :: vs, ys, h => by
    rw [List.map_cons] at h
    cases v <;> simp only [er, strsOf, reduceCtorEq] at h
    cases q : strsOf (vs.map er) with
    | none => rw [q] at h; cases h
    | some zs => rw [q] at h; cases h; exact .cons _ _ (strsAre_of q)
theorem join_R (o : Value) (vs : List Value) : RV G A F (call (.builtin "str.join") (o :: vs)) (joinM (er o) (vs.map er)) := by
  refine RA.mk fun keep σ s Q E R hm => ?_
  unfold joinM at hm
  split at hm
  · rename_i x _ a e1 e2
    obtain ⟨t, rfl⟩ := er_str e1
    obtain ⟨u, rfl, hu⟩ := map_one e2
    have hu := er_ref hu
    subst hu
    split at hm
    · rename_i xs h1
      obtain ⟨items, hp, hi⟩ := R.hr.cell a _ h1
      obtain ⟨ys, hy, hl, hq⟩ := hm
      rw [← hi] at hy
      exact PyProof.Rows.join_list hp.isList (strsAre_of hy) (by omega) fun t' k => ⟨σ, R.toks _, hq⟩
    · exact hm.elim
  · exact hm.elim
end
end Mine
end
section
open PySem PySem.W PyProof.Rows PySem.Calls
set_option maxRecDepth 100000
namespace Mine
set_option genInjectivity false in
structure Itr where
  I : Addr
  xs : List Value
  grd : H → Prop
  st : Nat → Obj → Prop
set_option genInjectivity false in
structure Apart (G : Gnd) (keep : Keep) (F : Fd) (I : Addr) : Prop where
  ne : ∀ p ∈ keep, p.1 ≠ I
  lo : G.h₀.objs.size ≤ I
  cells : ∀ x ca, F.env.cells.lookup x = some ca → ca ≠ I
  frames : ∀ env ∈ F.fenv :: F.outer, env.frame ≠ some I
theorem StackAt.turn {G : Gnd} {keep : Keep} {env : Env} {I : Addr} {o o' : Obj} (h : StackAt G ((I, o) :: keep) env) (hn : env.frame ≠ some I) : StackAt G keep env ∧ StackAt G ((I, o') :: keep) env := by
  obtain ⟨hk, L, x, es, ep, hf, hm, hd, hl⟩ := h
  rcases List.mem_cons.mp hm with e | hm
  · cases e; exact absurd hf hn
  · exact ⟨⟨hk, L, x, es, ep, hf, hm, hd, hl⟩, ⟨hk, L, x, es, ep, hf, .tail _ hm, hd, hl⟩⟩
theorem StackAt.cons {G : Gnd} {keep : Keep} {env : Env} {p : Addr × Obj} (h : StackAt G keep env) : StackAt G (p :: keep) env := by
  obtain ⟨hk, L, x, es, ep, hf, hm, hd, hl⟩ := h
  exact ⟨hk, L, x, es, ep, hf, .tail _ hm, hd, hl⟩
section
variable {G : Gnd} {A : Around} {F : Fd}
noncomputable def ItrStep (G : Gnd) (A : Around) (t : Itr) : Prop := ∀ (i : Nat) (o : Obj) (keep : Keep) (F : Fd) (σ : St) (s : Shared) (Q : Option Value → Shared → Prop) (E : Value → Shared → Prop), Apart G keep F t.I → FR G ((t.I, o) :: keep) F σ s → t.st i o → t.grd σ.h →
  (∀ v, t.xs[i]? = some v → ∀ s' o' u, FR G ((t.I, o') :: keep) F σ s' → t.st (i + 1) o' → er u = v → Q (some u) s') →
  (t.xs[i]? = none → ∀ s', FR G keep F σ s' → Q none s') → wpAny G.M A (pyNext (.ref t.I)) Q E s
theorem FR.turn {keep : Keep} {σ : St} {s : Shared} {I : Addr} {o o' : Obj} (R : FR G ((I, o) :: keep) F σ s) (P : Apart G keep F I) {hp : Heap} {t : Nat} (hs : Heap.SameBut I s.heap hp) (ho : hp.get? I = some o') : FR G ((I, o') :: keep) F σ { s with heap := hp, toks := t } := by
  have hx : ∀ b x, b ≠ I → s.heap.get? b = some x → hp.get? b = some x := fun b x q e => (hs.2 b q).trans e
  have hI' : I ≠ F.env.locals := R.lk (I, o) (.head _)
  have hh : ∀ {a ao}, σ.h a = some ao → a ≠ I := fun e q => R.hr.apart _ _ e (I, o) (.head _) q.symm
  obtain ⟨m, hn, hm⟩ := R.ns
  refine ⟨⟨fun b x e => hx b x (fun q => ?_) (R.hr.base b x e), by show _ ≤ hp.objs.size; rw [hs.1]; exact R.hr.size, fun p hp' => ?_, fun a ao e => (R.hr.cell a ao e).at fun x q => hx _ _ (hh e) q, fun a ao e p hp' => ?_, R.hr.fresh, R.hr.gens, R.hr.os⟩,
    ⟨m, hn.sameBut hs hI'.symm, hm⟩, fun x ca e => ?_, fun p hp' => ?_, R.lb, R.lh, R.lc, fun x ca e hw p hp' => ?_, R.cb, R.ch, R.ci, R.hasc, fun env he => ((R.stk env he).turn (P.frames env (.tail _ he))).2, R.top.imp id fun h => (h.turn (P.frames _ (.head _))).2⟩
  · have := Heap.lt_size e; rw [q] at this; exact absurd this (Nat.not_lt.mpr P.lo)
  · rcases List.mem_cons.mp hp' with rfl | h
    · exact .of ho
    · exact (R.hr.kept p (.tail _ h)).at fun o q => hx _ _ (P.ne p h) q
  · rcases List.mem_cons.mp hp' with rfl | h
    · exact (hh e).symm
    · exact R.hr.apart a ao e p (.tail _ h)
  · obtain ⟨v, hc, hq⟩ := R.cl x ca e
    exact ⟨v, hc.sameBut hs (P.cells x ca e), hq⟩
  · rcases List.mem_cons.mp hp' with rfl | h
    · exact hI'
    · exact R.lk p (.tail _ h)
  · rcases List.mem_cons.mp hp' with rfl | h
    · exact R.ck x ca e hw (I, o) (.head _)
    · exact R.ck x ca e hw p (.tail _ h)
theorem FR.turnEnd {keep : Keep} {σ : St} {s : Shared} {I : Addr} {o : Obj} (R : FR G ((I, o) :: keep) F σ s) (P : Apart G keep F I) {hp : Heap} {t : Nat} (hx : Heap.ExtBut I s.heap hp) : FR G keep F σ { s with heap := hp, toks := t } := by
  have hI' : I ≠ F.env.locals := R.lk (I, o) (.head _)
  have hh : ∀ {a ao}, σ.h a = some ao → a ≠ I := fun e q => R.hr.apart _ _ e (I, o) (.head _) q.symm
  obtain ⟨m, hn, hm⟩ := R.ns
  have hn' := hn.extBut hx hI'.symm
  refine ⟨⟨fun b x e => hx b x (fun q => ?_) (R.hr.base b x e), Nat.le_trans R.lb (Nat.le_of_lt hn'.lt), fun p hp' => (R.hr.kept p (.tail _ hp')).at fun o q => hx _ _ (P.ne p hp') q, fun a ao e => (R.hr.cell a ao e).at fun x q => hx _ _ (hh e) q,
    fun a ao e p hp' => R.hr.apart a ao e p (.tail _ hp'), R.hr.fresh, R.hr.gens, R.hr.os⟩,
    ⟨m, hn', hm⟩, fun x ca e => ?_, fun p hp' => R.lk p (.tail _ hp'), R.lb, R.lh, R.lc, fun x ca e hw p hp' => R.ck x ca e hw p (.tail _ hp'), R.cb, R.ch, R.ci, R.hasc, fun env he => ((R.stk env he).turn (o' := o) (P.frames env (.tail _ he))).1, R.top.imp id fun h => (h.turn (o' := o) (P.frames _ (.head _))).1⟩
  · have := Heap.lt_size e; rw [q] at this; exact absurd this (Nat.not_lt.mpr P.lo)
  · obtain ⟨v, ⟨o', ho, hd⟩, hq⟩ := R.cl x ca e
    exact ⟨v, ⟨o', hx _ _ (P.cells x ca e) ho, hd⟩, hq⟩
theorem StackAt.ne {keep : Keep} {env : Env} {h : H} {s : Shared} (R : HR G keep h s) (x : StackAt G keep env) {I : Addr} (hI : s.heap.objs.size ≤ I) : env.frame ≠ some I := by
  obtain ⟨hk, L, o, es, ep, hf, hm, hd, hl⟩ := x
  rw [hf]
  intro e
  cases e
  exact absurd (R.keep_lt hm) (Nat.not_lt.mpr hI)
theorem FR.apartNew {keep : Keep} {σ : St} {s : Shared} (R : FR G keep F σ s) {I : Addr} (h : s.heap.objs.size ≤ I) : Apart G keep F I :=
  ⟨fun p hp => Nat.ne_of_lt (Nat.lt_of_lt_of_le (R.hr.keep_lt hp) h), Nat.le_trans R.hr.size h, fun x ca e => Nat.ne_of_lt (Nat.lt_of_lt_of_le (R.cell_lt e) h), fun env he => by
    rcases List.mem_cons.mp he with rfl | he
    · rcases R.top with ⟨e, _, hf⟩ | hs
      · rw [e, hf]
        intro q
        cases q
        exact absurd R.locals_lt (Nat.not_lt.mpr h)
      · exact hs.ne R.hr h
    · exact (R.stk env he).ne R.hr h⟩
theorem FR.drop {keep : Keep} {σ : St} {s : Shared} {I : Addr} {o : Obj} (R : FR G ((I, o) :: keep) F σ s) (P : Apart G keep F I) : FR G keep F σ s :=
  ⟨R.hr.sub (fun _ h => .tail _ h) fun _ _ e => e, R.ns, R.cl, fun p e => R.lk p (.tail _ e), R.lb, R.lh, R.lc, fun x ca e o p q => R.ck x ca e o p (.tail _ q), R.cb, R.ch, R.ci, R.hasc,
    fun env he => ((R.stk env he).turn (o' := o) (P.frames env (.tail _ he))).1, R.top.imp id fun h => (h.turn (o' := o) (P.frames _ (.head _))).1⟩
theorem FR.lay {keep : Keep} {σ : St} {s : Shared} (R : FR G keep F σ s) {o : Obj} (hf : o.isFreed = false) : FR G ((s.heap.objs.size, o) :: keep) F σ { s with heap := s.heap.push o } := by
  have R' := R.ext (t := s.toks) (fun b x e => Heap.get?_push_of_some o e) (push_le _ _)
  have lt : ∀ {a ao}, σ.h a = some ao → s.heap.objs.size ≠ a := fun e q => absurd (R.hr.lt e) (Nat.not_lt.mpr (Nat.le_of_eq q))
  refine ⟨⟨R'.hr.base, R'.hr.size, fun p hp => ?_, R'.hr.cell, fun a ao e p hp => ?_, R'.hr.fresh, R'.hr.gens, R'.hr.os⟩, R'.ns, R'.cl, fun p hp => ?_, R'.lb, R'.lh, R'.lc, fun x ca e hw p hp => ?_, R'.cb, R'.ch, R'.ci, R'.hasc, fun env he => (R'.stk env he).cons, R'.top.imp id fun h => h.cons⟩
  · rcases List.mem_cons.mp hp with rfl | h
    · exact .of (Heap.get?_push_size _ hf)
    · exact R'.hr.kept p h
  · rcases List.mem_cons.mp hp with rfl | h
    · exact lt e
    · exact R'.hr.apart a ao e p h
  · rcases List.mem_cons.mp hp with rfl | h
    · exact (Nat.ne_of_lt R.locals_lt).symm
    · exact R'.lk p h
  · rcases List.mem_cons.mp hp with rfl | h
    · exact (Nat.ne_of_lt (R.cell_lt e)).symm
    · exact R'.ck x ca e hw p h
theorem itrStep_list (hA : A.handled = none) {I a : Addr} {xs : List Value} : ItrStep G A ⟨I, xs, fun h => h a = some (.list xs) ∨ h a = some (.ro xs), fun i o => o.cls = .type "list_iterator" ∧ o.data = .fields #[.ref a, .int i 0]⟩ := by
  intro i o keep F σ s Q E P R hst hg hi he
  have hit : s.heap.IsListIter I a i := ⟨o, (R.hr.kept (I, o) (.head _)).get (notDict_fields hst.2), hst.1, hst.2⟩
  obtain ⟨items, hl, hxs⟩ : ∃ items, s.heap.IsList a items ∧ items.toList.map er = xs := by
    rcases hg with hg | hg
    · obtain ⟨items, hp, hx⟩ := R.hr.cell a _ hg; exact ⟨items, hp.isList, hx⟩
    · exact R.hr.cell a _ hg
  cases q : items[i]? with
  | some u =>
    refine wpAny_pyNext_list_item hit hl q fun h' hit' hs => ?_
    obtain ⟨o', ho', c', d'⟩ := hit'
    refine hi (er u) ?_ _ o' u (R.turn (t := s.toks) P hs ho') ⟨c', d'⟩ rfl
    rw [← hxs, List.getElem?_map, Array.getElem?_toList, q]; rfl
  | none =>
    refine wpAny_pyNext_list_end hA hit hl q fun h' hx => he ?_ _ (R.turnEnd (t := s.toks) P hx)
    rw [← hxs, List.getElem?_map, Array.getElem?_toList, q]; rfl
theorem itrStep_tup (hA : A.handled = none) {I a : Addr} {xs : List Value} : ItrStep G A ⟨I, xs, fun h => h a = some (.tup xs), fun i o => o.cls = .type "tuple_iterator" ∧ o.data = .fields #[.ref a, .int i 0]⟩ := by
  intro i o keep F σ s Q E P R hst hg hi he
  have hit : s.heap.IsTupleIter I a i := ⟨o, (R.hr.kept (I, o) (.head _)).get (notDict_fields hst.2), hst.1, hst.2⟩
  obtain ⟨items, hl, hxs⟩ := R.hr.cell a _ hg
  cases q : items[i]? with
  | some u =>
    refine wpAny_pyNext_tuple_item hit hl q fun h' hit' hs => ?_
    obtain ⟨o', ho', c', d'⟩ := hit'
    refine hi (er u) ?_ _ o' u (R.turn (t := s.toks) P hs ho') ⟨c', d'⟩ rfl
    rw [← hxs, List.getElem?_map, Array.getElem?_toList, q]; rfl
  | none =>
    refine wpAny_pyNext_tuple_end hA hit hl q fun h' hx => he ?_ _ (R.turnEnd (t := s.toks) P hx)
    rw [← hxs, List.getElem?_map, Array.getElem?_toList, q]; rfl
theorem itrStep_keys (hA : A.handled = none) {I a : Addr} {kvs : List (Str × Value)} {ep : Nat} : ItrStep G A ⟨I, kvs.map fun p => .str p.1 0, fun h => h a = some (.sd kvs ep), fun i o => o.cls = .type "dict_keyiterator" ∧ o.data = .fields #[.ref a, .int i 0, .int kvs.length 0, .int ep 0]⟩ := by
  intro i o keep F σ s Q E P R hst hg hi he
  obtain ⟨kvs', hd, hk⟩ := R.hr.cell a _ hg
  have hlen : kvs.length = kvs'.length := by rw [← hk, List.length_map]
  have hit : s.heap.IsKeyIter I a i kvs'.length ep := ⟨o, (R.hr.kept (I, o) (.head _)).get (notDict_fields hst.2), hst.1, by rw [← hlen]; exact hst.2⟩
  have e1 : (kvs.map fun p => Value.str p.1 0)[i]? = (kvs'[i]?).map fun p => Value.str p.1 0 := by
    rw [← hk, List.getElem?_map, List.getElem?_map, Option.map_map]; rfl
  cases q : kvs'[i]? with
  | some p =>
    obtain ⟨k, v⟩ := p
    refine wpAny_pyNext_dict_item hit hd q fun key h' hkey hit' hs => ?_
    obtain ⟨t, rfl⟩ := Value.isStrOf_shape hkey
    obtain ⟨o', ho', c', d'⟩ := hit'
    refine hi (.str k 0) (by show (kvs.map fun p => Value.str p.1 0)[i]? = _; rw [e1, q]; rfl) _ o' _ (R.turn (t := s.toks) P hs ho') ⟨c', by rw [hlen]; exact d'⟩ rfl
  | none =>
    exact wpAny_pyNext_dict_end hA hit hd q fun h' hx => he (by show (kvs.map fun p => Value.str p.1 0)[i]? = _; rw [e1, q]; rfl) _ (R.turnEnd (t := s.toks) P hx)
theorem itrStep_vals (hA : A.handled = none) {I a : Addr} {kvs : List (Str × Value)} {ep : Nat} : ItrStep G A ⟨I, kvs.map (·.2), fun h => h a = some (.sd kvs ep), fun i o => o.cls = .type "dict_valueiterator" ∧ o.data = .fields #[.ref a, .int i 0, .int kvs.length 0, .int ep 0]⟩ := by
  intro i o keep F σ s Q E P R hst hg hi he
  obtain ⟨kvs', hd, hk⟩ := R.hr.cell a _ hg
  have hlen : kvs.length = kvs'.length := by rw [← hk, List.length_map]
  have hit : s.heap.IsValIter I a i kvs'.length ep := ⟨o, (R.hr.kept (I, o) (.head _)).get (notDict_fields hst.2), hst.1, by rw [← hlen]; exact hst.2⟩
  have e1 : (kvs.map (·.2))[i]? = (kvs'[i]?).map fun p => er p.2 := by
    rw [← hk, List.getElem?_map, List.getElem?_map, Option.map_map]; rfl
  cases q : kvs'[i]? with
  | some p =>
    obtain ⟨k, v⟩ := p
    refine wpAny_pyNext_values_item hit hd q fun h' hit' hs => ?_
    obtain ⟨o', ho', c', d'⟩ := hit'
    refine hi (er v) (by show (kvs.map (·.2))[i]? = _; rw [e1, q]; rfl) _ o' _ (R.turn (t := s.toks) P hs ho') ⟨c', by rw [hlen]; exact d'⟩ rfl
  | none =>
    exact wpAny_pyNext_values_end hA hit hd q fun h' hx => he (by show (kvs.map (·.2))[i]? = _; rw [e1, q]; rfl) _ (R.turnEnd (t := s.toks) P hx)
noncomputable def rangeVals (a c : Int) (n : Nat) : List Value := (List.range n).map fun (i : Nat) => .int (a + i * c) 0
theorem itrStep_range (hA : A.handled = none) {I : Addr} {a c : Int} {n : Nat} : ItrStep G A ⟨I, rangeVals a c n, fun _ => True, fun i o => o = { cls := .type "range_iterator", dict := none, data := .fields #[rawInt (a + i * c), rawInt ((n : Int) - i), rawInt c], slots := #[] }⟩ := by
  intro i o keep F σ s Q E P R hst hg hi he
  have hit : IsRangeIter s.heap I (a + i * c) ((n : Int) - i) c := by
    have h1 := (R.hr.kept (I, o) (.head _)).get (by rw [show o = _ from hst]; rfl)
    rw [show o = _ from hst] at h1
    exact h1
  by_cases h : i < n
  · refine wpAny_pyNext_range_item hit (by omega) fun h' hit' hs => ?_
    refine hi (.int (a + i * c) 0) ?_ _ _ (.int (a + i * c) s.toks) (R.turn (t := s.toks + 1) P hs hit') ?_ rfl
    · show (rangeVals a c n)[i]? = _
      unfold rangeVals
      rw [List.getElem?_map, List.getElem?_range h]; rfl
    · have e1 : a + ((i + 1 : Nat) : Int) * c = a + i * c + c := by push_cast; rw [Int.add_mul, Int.one_mul]; omega
      have e2 : (n : Int) - ((i + 1 : Nat) : Int) = (n : Int) - i - 1 := by push_cast; omega
      show _ = _
      rw [e1, e2]
  · refine wpAny_pyNext_range_end hA hit (by omega) fun h' hx => he ?_ _ (R.turnEnd (t := s.toks) P hx)
    show (rangeVals a c n)[i]? = _
    unfold rangeVals
    rw [List.getElem?_map, List.getElem?_eq_none (by simp; omega)]; rfl
noncomputable def ItrSelf (G : Gnd) (A : Around) (t : Itr) : Prop := ∀ (o : Obj) (keep : Keep) (F : Fd) (σ : St) (s : Shared) (Q : Value → Shared → Prop) (E : Value → Shared → Prop), FR G ((t.I, o) :: keep) F σ s → t.st 0 o → Q (.ref t.I) s → wpAny G.M A (pyIter (.ref t.I)) Q E s
set_option genInjectivity false in
structure ItrOK (G : Gnd) (A : Around) (t : Itr) : Prop where
  step : ItrStep G A t
  self : ItrSelf G A t
theorem itrOK_list (hA : A.handled = none) {I a : Addr} {xs : List Value} : ItrOK G A ⟨I, xs, fun h => h a = some (.list xs) ∨ h a = some (.ro xs), fun i o => o.cls = .type "list_iterator" ∧ o.data = .fields #[.ref a, .int i 0]⟩ := ⟨itrStep_list hA, fun o keep F σ s Q E R hst h => wpAny_pyIter_listiter ⟨o, (R.hr.kept (I, o) (.head _)).get (notDict_fields hst.2), hst.1, hst.2⟩ h⟩
theorem itrOK_tup (hA : A.handled = none) {I a : Addr} {xs : List Value} : ItrOK G A ⟨I, xs, fun h => h a = some (.tup xs), fun i o => o.cls = .type "tuple_iterator" ∧ o.data = .fields #[.ref a, .int i 0]⟩ := ⟨itrStep_tup hA, fun o keep F σ s Q E R hst h => wpAny_pyIter_tupleiter ⟨o, (R.hr.kept (I, o) (.head _)).get (notDict_fields hst.2), hst.1, hst.2⟩ h⟩
theorem itrOK_keys (hA : A.handled = none) {I a : Addr} {kvs : List (Str × Value)} {ep : Nat} : ItrOK G A ⟨I, kvs.map fun p => .str p.1 0, fun h => h a = some (.sd kvs ep), fun i o => o.cls = .type "dict_keyiterator" ∧ o.data = .fields #[.ref a, .int i 0, .int kvs.length 0, .int ep 0]⟩ := ⟨itrStep_keys hA, fun o keep F σ s Q E R hst h => wpAny_pyIter_keyiter ⟨o, (R.hr.kept (I, o) (.head _)).get (notDict_fields hst.2), hst.1, hst.2⟩ h⟩
theorem itrOK_vals (hA : A.handled = none) {I a : Addr} {kvs : List (Str × Value)} {ep : Nat} : ItrOK G A ⟨I, kvs.map (·.2), fun h => h a = some (.sd kvs ep), fun i o => o.cls = .type "dict_valueiterator" ∧ o.data = .fields #[.ref a, .int i 0, .int kvs.length 0, .int ep 0]⟩ := ⟨itrStep_vals hA, fun o keep F σ s Q E R hst h => wpAny_pyIter_valiter ⟨o, (R.hr.kept (I, o) (.head _)).get (notDict_fields hst.2), hst.1, hst.2⟩ h⟩
theorem itrOK_range (hA : A.handled = none) {I : Addr} {a c : Int} {n : Nat} : ItrOK G A ⟨I, rangeVals a c n, fun _ => True, fun i o => o = { cls := .type "range_iterator", dict := none, data := .fields #[rawInt (a + i * c), rawInt ((n : Int) - i), rawInt c], slots := #[] }⟩ := ⟨itrStep_range hA, fun o keep F σ s Q E R hst h => wpAny_pyIter_rangeiter (x := a + (0 : Nat) * c) (left := (n : Int) - (0 : Nat)) (step := c) (by have h1 := (R.hr.kept (I, o) (.head _)).get (by rw [show o = _ from hst]; rfl); rw [show o = _ from hst] at h1; exact h1) h⟩
noncomputable abbrev Mi := (List Value → (H → Prop) → St → Prop) → St → Prop
set_option genInjectivity false in
structure RI (G : Gnd) (A : Around) (F : Fd) (iter : Expr) (mi : Mi) : Prop where
  run : ∀ (keep : Keep) (σ : St) (s : Shared) (Q : List Value → (H → Prop) → St → Prop) (E : Value → Shared → Prop), FR G keep F σ s → mi Q σ →
  wpAny G.M A (eval iter F.env) (fun x s₁ => wpAny G.M A (pyIter x) (fun it s₂ => ∃ t o σ', it = .ref t.I ∧ ItrOK G A t ∧ Apart G keep F t.I ∧ FR G ((t.I, o) :: keep) F σ' s₂ ∧ t.st 0 o ∧ Q t.xs t.grd σ') E s₁) E s
noncomputable def iterV (v : Value) : Mi := fun Q σ => match v with
  | .ref a => match σ.h a with
    | some (.list xs) => Q xs (fun h => h a = some (.list xs) ∨ h a = some (.ro xs)) σ
    | some (.ro xs) => Q xs (fun h => h a = some (.list xs) ∨ h a = some (.ro xs)) σ
    | some (.tup xs) => Q xs (fun h => h a = some (.tup xs)) σ
    | some (.sd kvs ep) => Q (kvs.map fun p => .str p.1 0) (fun h => h a = some (.sd kvs ep)) σ
    | _ => False
  | _ => False
theorem pyIter_R (hA : A.handled = none) {v : Value} {keep : Keep} {σ : St} {s : Shared} {Q : List Value → (H → Prop) → St → Prop} {E : Value → Shared → Prop} (R : FR G keep F σ s) (hm : iterV (er v) Q σ) :
    wpAny G.M A (pyIter v) (fun it s₂ => ∃ t o σ', it = .ref t.I ∧ ItrOK G A t ∧ Apart G keep F t.I ∧ FR G ((t.I, o) :: keep) F σ' s₂ ∧ t.st 0 o ∧ Q t.xs t.grd σ') E s := by
  have P := R.apartNew (Nat.le_refl _)
  unfold iterV at hm
  split at hm
  · rename_i a e
    have e := er_ref e
    subst e
    split at hm
    · rename_i xs h1
      obtain ⟨items, hp, hi⟩ := R.hr.cell a _ h1
      exact wpAny_pyIter_list hp.isList ⟨_, _, σ, rfl, itrOK_list hA, P, R.lay rfl, ⟨rfl, rfl⟩, hm⟩
    · rename_i xs h1
      obtain ⟨items, hp, hi⟩ := R.hr.cell a _ h1
      exact wpAny_pyIter_list hp ⟨_, _, σ, rfl, itrOK_list hA, P, R.lay rfl, ⟨rfl, rfl⟩, hm⟩
    · rename_i xs h1
      obtain ⟨items, hp, hi⟩ := R.hr.cell a _ h1
      exact wpAny_pyIter_tuple hp ⟨_, _, σ, rfl, itrOK_tup hA, P, R.lay rfl, ⟨rfl, rfl⟩, hm⟩
    · rename_i kvs ep h1
      obtain ⟨kvs', hd, hk⟩ := R.hr.cell a _ h1
      have hlen : kvs.length = kvs'.length := by rw [← hk, List.length_map]
      exact wpAny_pyIter_dict (R.hr.ne_mods h1 rfl) hd ⟨_, _, σ, rfl, itrOK_keys hA, P, R.lay rfl, ⟨rfl, by rw [hlen]; rfl⟩, hm⟩
    · exact hm.elim
  · exact hm.elim
theorem RI_val (hA : A.handled = none) {iter : Expr} {m : Sm Value} (h : RV G A F (eval iter F.env) m) : RI G A F iter (fun Q σ => m (fun v σ' => iterV v Q σ') σ) := RI.mk fun keep σ s Q E R hm =>
  wpAny_mono (h.run keep σ s _ E R hm) (fun _ _ ⟨_, R₁, hq⟩ => pyIter_R hA R₁ hq) fun _ _ e => e
noncomputable def range1M (v : Value) : Mi := fun Q σ => match v with
  | .int n _ => n < 1000000 ∧ -1000000 < n ∧ Q (rangeVals 0 1 n.toNat) (fun _ => True) σ
  | _ => False
theorem rangeSize_up (a b : Int) : Builtin.Range.rangeSize a b 1 = ((b - a).toNat : Int) := by
  unfold Builtin.Range.rangeSize
  simp only [gt_iff_lt, Int.zero_lt_one, if_true]
  split <;> omega
theorem rangeSize_down (a b : Int) : Builtin.Range.rangeSize a b (-1) = ((a - b).toNat : Int) := by
  unfold Builtin.Range.rangeSize
  simp only [gt_iff_lt]
  rw [if_neg (by omega)]
  have e : -(-1 : Int) = 1 := rfl
  rw [e]
  split <;> omega
theorem small_up {a b : Int} (h1 : -1000000 ≤ a ∧ a < 1000000) (h2 : -1000000 ≤ b ∧ b < 1000000) : Builtin.Range.small a b 1 = true := by
  unfold Builtin.Range.small
  rw [rangeSize_up]
  simp only [Builtin.Range.rangeFitsLong, Bool.and_eq_true, Bool.or_eq_true, decide_eq_true_eq, gt_iff_lt, Int.zero_lt_one, if_true, beq_iff_eq]
  omega
theorem small_down {a b : Int} (h1 : -1000000 ≤ a ∧ a < 1000000) (h2 : -1000000 ≤ b ∧ b < 1000000) : Builtin.Range.small a b (-1) = true := by
  unfold Builtin.Range.small
  rw [rangeSize_down]
  simp only [Builtin.Range.rangeFitsLong, Bool.and_eq_true, Bool.or_eq_true, decide_eq_true_eq, gt_iff_lt, beq_iff_eq]
  rw [if_neg (by omega)]
  simp only [Builtin.Range.rangeFitsLong, Bool.and_eq_true, decide_eq_true_eq]
  omega
theorem RI_range1 (hA : A.handled = none) {fn e : Expr} {pos : Pos} {m : Sm Value} (hf : (match fn with | .Attribute .. => false | _ => true) = true) (h0 : RV G A F (eval fn F.env) (pureM (.type "range"))) (hs : notStar e = true) (h1 : RV G A F (eval e F.env) m) :
    RI G A F (.Call fn [e] [] pos) (fun Q σ => m (fun v σ' => range1M v Q σ') σ) := RI.mk fun keep σ s Q E R hm => by
  have ee : eval (.Call fn [e] [] pos) F.env = (eval fn F.env >>= fun f => callWith pos f [] (backTo pos (starEach [e] F.env)) []) := by
    cases fn <;> first | rfl | cases hf
  rw [ee]
  refine wpAny_bind (wpAny_mono (h0.run keep σ s (fun v σ' => v = .type "range" ∧ m (fun v σ' => range1M v Q σ') σ') E R ⟨rfl, hm⟩) (fun f s₁ ⟨σ₁, R₁, hv, hq⟩ => ?_) fun _ _ e => e)
  have hf' : f = .type "range" := er_type hv
  subst hf'
  refine callWith_of (P := G.K.In) (by rw [starEach_plain hs]; rfl) (fun hp X => keeps_type (G := G) hp X) ?_
  have h1' := RArg_cons (pos := pos) hs (RSp_cons hs h1 RSp_nil)
  refine wpAny_mono (h1'.run (.type "range") keep σ₁ s₁ (fun vs σ' => match vs with | [v] => range1M v Q σ' | _ => False) E R₁ hq) (fun a s₂ ⟨hkw, σ₂, R₂, hq⟩ => ⟨R₂.X, ?_⟩) fun _ _ e => e
  obtain ⟨ap, akw⟩ := a
  dsimp only at hkw hq ⊢
  subst hkw
  cases ap with
  | nil => exact hq.elim
  | cons v r =>
    cases r with
    | cons _ _ => exact hq.elim
    | nil =>
    replace hq : range1M (er v) Q σ₂ := hq
    unfold range1M at hq
    split at hq
    · rename_i n _ e
      obtain ⟨t, rfl⟩ := er_int e
      obtain ⟨k1, k2, hq⟩ := hq
      refine call_range_1 ?_
      have R₃ := R₂.ext (t := s₂.toks + 1 + 1) (hp := s₂.heap.push { cls := .type "range", data := .fields #[.int 0 s₂.toks, .int n t, .int 1 (s₂.toks + 1)] }) (fun b o e => Heap.get?_push_of_some _ e) (push_le _ _)
      refine wpAny_pyIter_range (Heap.get?_push_size _ rfl) (small_up ⟨by omega, by omega⟩ ⟨by omega, by omega⟩) ⟨_, _, σ₂, rfl, itrOK_range (a := 0) (c := 1) (n := n.toNat) hA, R₃.apartNew (Nat.le_refl _), R₃.lay rfl, ?_, hq⟩
      show _ = _
      rw [rangeSize_up]
      simp
    · exact hq.elim
noncomputable def range3M (u v w : Value) : Mi := fun Q σ => match u, v, w with
  | .int a _, .int b _, .int c _ => c = -1 ∧ (-100000 ≤ a ∧ a < 100000) ∧ (-100000 ≤ b ∧ b < 100000) ∧ Q (rangeVals a (-1) (a - b).toNat) (fun _ => True) σ
  | _, _, _ => False
theorem RI_range3 (hA : A.handled = none) {fn e1 e2 e3 : Expr} {pos : Pos} {m1 m2 m3 : Sm Value} (hf : (match fn with | .Attribute .. => false | _ => true) = true) (h0 : RV G A F (eval fn F.env) (pureM (.type "range"))) (hs1 : notStar e1 = true) (hs2 : notStar e2 = true) (hs3 : notStar e3 = true)
    (h1 : RV G A F (eval e1 F.env) m1) (h2 : RV G A F (eval e2 F.env) m2) (h3 : RV G A F (eval e3 F.env) m3) :
    RI G A F (.Call fn [e1, e2, e3] [] pos) (fun Q σ => m1 (fun u σ₁ => m2 (fun v σ₂ => m3 (fun w σ₃ => range3M u v w Q σ₃) σ₂) σ₁) σ) := RI.mk fun keep σ s Q E R hm => by
  have ee : eval (.Call fn [e1, e2, e3] [] pos) F.env = (eval fn F.env >>= fun f => callWith pos f [] (backTo pos (starEach [e1, e2, e3] F.env)) []) := by
    cases fn <;> first | rfl | cases hf
  rw [ee]
  refine wpAny_bind (wpAny_mono (h0.run keep σ s (fun v σ' => v = .type "range" ∧ m1 (fun u σ₁ => m2 (fun v σ₂ => m3 (fun w σ₃ => range3M u v w Q σ₃) σ₂) σ₁) σ') E R ⟨rfl, hm⟩) (fun f s₁ ⟨σ₁, R₁, hv, hq⟩ => ?_) fun _ _ e => e)
  have hf' : f = .type "range" := er_type hv
  subst hf'
  refine callWith_of (P := G.K.In) (by rw [starEach_plain hs1, starEach_plain hs2, starEach_plain hs3]; rfl) (fun hp X => keeps_type (G := G) hp X) ?_
  have h1' := RArg_cons (pos := pos) hs1 (RSp_cons hs1 h1 (RSp_cons hs2 h2 (RSp_cons hs3 h3 RSp_nil)))
  refine wpAny_mono (h1'.run (.type "range") keep σ₁ s₁ (fun vs σ' => match vs with | [u, v, w] => range3M u v w Q σ' | _ => False) E R₁ hq) (fun a s₂ ⟨hkw, σ₂, R₂, hq⟩ => ⟨R₂.X, ?_⟩) fun _ _ e => e
  obtain ⟨ap, akw⟩ := a
  dsimp only at hkw hq ⊢
  subst hkw
  cases ap with
  | nil => exact hq.elim
  | cons u r =>
    cases r with
    | nil => exact hq.elim
    | cons v r =>
      cases r with
      | nil => exact hq.elim
      | cons w r =>
        cases r with
        | cons _ _ => exact hq.elim
        | nil =>
    replace hq : range3M (er u) (er v) (er w) Q σ₂ := hq
    unfold range3M at hq
    split at hq
    · rename_i a _ b _ c _ e1 e2 e3
      obtain ⟨t, rfl⟩ := er_int e1
      obtain ⟨t', rfl⟩ := er_int e2
      obtain ⟨t'', rfl⟩ := er_int e3
      obtain ⟨rfl, k1, k2, hq⟩ := hq
      refine call_range_3 (by decide) ?_ (Or.inl (PyProof.noPylong_small (by decide)))
      have R₃ := R₂.ext (t := s₂.toks) (hp := s₂.heap.push { cls := .type "range", data := .fields #[.int a t, .int b t', .int (-1) t''] }) (fun b o e => Heap.get?_push_of_some _ e) (push_le _ _)
      refine wpAny_pyIter_range (Heap.get?_push_size _ rfl) (small_down ⟨by omega, by omega⟩ ⟨by omega, by omega⟩) ⟨_, _, σ₂, rfl, itrOK_range (a := a) (c := -1) (n := (a - b).toNat) hA, R₃.apartNew (Nat.le_refl _), R₃.lay rfl, ?_, hq⟩
      show _ = _
      rw [rangeSize_down]
      simp
    · exact hq.elim
noncomputable def valsM (v : Value) : Mi := fun Q σ => match v with
  | .ref a => match σ.h a with
    | some (.sd kvs ep) => Q (kvs.map (·.2)) (fun h => h a = some (.sd kvs ep)) σ
    | _ => False
  | _ => False
theorem RI_values (hA : A.handled = none) {o : Expr} {apos pos : Pos} {m : Sm Value} (hb : ∀ w, attributeBase o "values" F.env w = w) (hline : (apos.endLine == pos.line) = true) (h : RV G A F (eval o F.env) m) :
    RI G A F (.Call (.Attribute o "values" apos) [] [] pos) (fun Q σ => m (fun v σ' => valsM v Q σ') σ) := RI.mk fun keep σ s Q E R hm => by
  rw [eval_CallAttr hb hline]
  refine wpAny_bind (wpAny_mono (h.run keep σ s _ E R hm) (fun ov s₁ ⟨σ₁, R₁, hq⟩ => wpAny_bind (wpAny_standAt (wpAny_bind (wpAny_holding ?_)))) fun _ _ e => e)
  show wpAny _ _ (getMethod ov _ _) _ _ _
  unfold valsM at hq
  split at hq
  · rename_i a e
    have e := er_ref e
    subst e
    split at hq
    · rename_i kvs ep h1
      obtain ⟨kvs', hd, hk⟩ := R₁.hr.cell a _ h1
      have hlen : kvs.length = kvs'.length := by rw [← hk, List.length_map]
      refine getMethod_builtin hd.dictOf.mapOf.typeIs PySem.F.plainAttrs_dict PySem.F.slot_dict_values PySem.F.type_dict_values hd.dictOf.mapOf.noDict ?_
      refine callWith_of (P := fun _ => True) rfl (fun hp _ => ⟨.machine, .inr (.inl rfl), Looks.of_pure rfl⟩) (evalArgs_nil3 ⟨trivial, ?_⟩)
      refine call_meetsIn PySem.F.slot_dict_values hd.dictOf.mapOf.typeIs PySem.F.entry_dict_values (PySem.F.args_dict_values_1 _) (meets_dict_values (strKind G.prog G.w) a (R₁.hr.ne_mods h1 rfl)) ⟨⟨_, hd.dictOf⟩, ?_⟩
      have R₃ := R₁.ext (t := s₁.toks) (hp := s₁.heap.push { cls := .type "dict_values", data := .fields #[.ref a] }) (fun b o e => Heap.get?_push_of_some _ e) (push_le _ _)
      exact wpAny_pyIter_values (knd := strKind G.prog G.w) ⟨_, Heap.get?_push_size _ rfl, rfl, rfl⟩ (hd.push _) ⟨_, _, σ₁, rfl, itrOK_vals hA, R₃.apartNew (Nat.le_refl _), R₃.lay rfl, ⟨rfl, by rw [hlen]; rfl⟩, hq⟩
    · exact hq.elim
  · exact hq.elim
noncomputable def weakI (I : St → Prop) (σ : St) : Prop := ∃ σ', σ'.le σ ∧ I σ'
noncomputable def forM (mi : Mi) (tgt : Value → Sm Unit) (body els : Sm Flow) : Sm Flow := fun Q σ => mi (fun xs grd σ₁ => ∃ I : Nat → St → Prop, weakI (I 0) σ₁ ∧
  (∀ i v σ₂, I i σ₂ → xs[i]? = some v → grd σ₂.h ∧ tgt v (fun _ σ₃ => body (fun f σ₄ => match f with | .next | .cont => weakI (I (i + 1)) σ₄ | .brk => Q .next σ₄ | .ret v => Q (.ret v) σ₄) σ₃) σ₂) ∧
  (∀ σ₂, I xs.length σ₂ → grd σ₂.h ∧ els Q σ₂)) σ
theorem R_For {target iter : Expr} {body orelse : List Stmt} {pos : Pos} {mi : Mi} {tgt : Value → Sm Unit} {b e : Sm Flow} (hs : ∀ x, foldedSetIterable iter F.env x = pure x) (ho : ∀ it v, letOwnedTupleGo target it v = pure ()) (hi : RI G A F iter mi) (ht : ∀ v, RU G A F (assign target F.env v) (tgt (er v)))
    (hb : RF G A F (execs body F.env) b) (he : RF G A F (execs orelse F.env) e) : RF G A F (exec (.For target iter body orelse pos) F.env) (forM mi tgt b e) := RA.mk fun keep σ s Q E R hm => by
  refine wpAny_For (wpAny_mono (hi.run keep σ s _ E R hm) (fun x s₁ h₁ => wpAny_mono h₁ (fun it s₂ h₂ => ?_) fun _ _ e => e) fun _ _ e => e) hs
  obtain ⟨t, o, σ₁, rfl, hT, P, R₁, hst, I, h0, hstep, hend⟩ := h₂
  refine codeAny_forLoop_any (fun n s' => ∃ i o σ', n + i = t.xs.length + 1 ∧ i ≤ t.xs.length ∧ FR G ((t.I, o) :: keep) F σ' s' ∧ t.st i o ∧ I i σ') ?_ (t.xs.length + 1) ?_
  · rintro n s' ⟨i, o', σ₂, hn, hle, R₂, hst', hI⟩
    by_cases hlt : i < t.xs.length
    · have hx : t.xs[i]? = some t.xs[i] := List.getElem?_eq_getElem hlt
      obtain ⟨hg, hturn⟩ := hstep i _ σ₂ hI hx
      refine hT.step i o' keep F σ₂ s' _ _ P R₂ hst' hg (fun v hv s₃ o₃ u R₃ hst₃ hu => ?_) (fun hnone => by rw [hx] at hnone; cases hnone)
      rw [hx] at hv
      cases hv
      show wpAny _ _ (letOwnedTupleGo target (.ref t.I) u) _ _ _
      rw [ho]
      refine wpAny_pure ?_
      rw [← hu] at hturn
      refine wpAny_mono ((ht u).run ((t.I, o₃) :: keep) σ₂ s₃ _ _ R₃ hturn) (fun _ s₄ ⟨σ₄, R₄, hq⟩ => ?_) fun _ _ e => e
      refine wpAny_mono (hb.run _ σ₄ s₄ _ _ R₄ hq) (fun f s₅ ⟨σ₅, R₅, hq⟩ => ?_) fun _ _ e => e
      have again : weakI (I (i + 1)) σ₅ → ∃ m, m < n ∧ ∃ i o σ', m + i = t.xs.length + 1 ∧ i ≤ t.xs.length ∧ FR G ((t.I, o) :: keep) F σ' s₅ ∧ t.st i o ∧ I i σ' := fun ⟨σ₆, hle6, h6⟩ =>
        ⟨n - 1, by omega, i + 1, o₃, σ₆, by omega, by omega, R₅.weak hle6, hst₃, h6⟩
      cases f with
      | next => exact again hq
      | cont => exact again hq
      | brk => exact ⟨σ₅, R₅.drop P, hq⟩
      | ret v => exact ⟨σ₅, R₅.drop P, hq⟩
    · have hil : i = t.xs.length := by omega
      subst hil
      obtain ⟨hg, hq⟩ := hend σ₂ hI
      refine hT.step _ o' keep F σ₂ s' _ _ P R₂ hst' hg (fun v hv => by rw [List.getElem?_eq_none (Nat.le_refl _)] at hv; cases hv) (fun _ s₃ R₃ => ?_)
      exact wpAny_mono (he.run keep σ₂ s₃ _ _ R₃ hq) (fun f s₄ h₄ => h₄) fun _ _ e => e
  · obtain ⟨σ₀, hle, hI⟩ := h0
    exact ⟨0, o, σ₀, by omega, by omega, R₁.weak hle, hst, hI⟩
noncomputable def whileM (c : Sm Bool) (body els : Sm Flow) : Sm Flow := fun Q σ => ∃ (I : Nat → St → Prop) (n₀ : Nat), weakI (I n₀) σ ∧ ∀ n σ₁, I n σ₁ →
  c (fun t σ₂ => (t = true → body (fun f σ₃ => match f with | .next | .cont => ∃ m, m < n ∧ weakI (I m) σ₃ | .brk => Q .next σ₃ | .ret v => Q (.ret v) σ₃) σ₂) ∧ (t = false → els Q σ₂)) σ₁
theorem R_While {test : Expr} {body orelse : List Stmt} {pos : Pos} {c : Sm Bool} {b e : Sm Flow} (hc : RB G A F (isTrue test F.env (eval test F.env)) c) (hb : RF G A F (execs body F.env) b) (he : RF G A F (execs orelse F.env) e) :
    RF G A F (exec (.While test body orelse pos) F.env) (whileM c b e) := RA.mk fun keep σ s Q E R hm => by
  obtain ⟨I, n₀, ⟨σ₀, hle, h0⟩, hstep⟩ := hm
  refine wpAny_While (codeAny_whileLoop (fun n s' => ∃ σ', FR G keep F σ' s' ∧ I n σ') ?_ n₀ ⟨σ₀, R.weak hle, h0⟩)
  rintro n s' ⟨σ₁, R₁, hI⟩
  refine wpAny_mono (hc.run keep σ₁ s' _ _ R₁ (hstep n σ₁ hI)) (fun t s₂ ⟨σ₂, R₂, hq⟩ => ?_) fun _ _ e => e
  cases t with
  | false => exact wpAny_mono (he.run keep σ₂ s₂ _ _ R₂ (hq.2 rfl)) (fun f s₃ h₃ => h₃) fun _ _ e => e
  | true =>
    refine wpAny_mono (hb.run keep σ₂ s₂ _ _ R₂ (hq.1 rfl)) (fun f s₃ ⟨σ₃, R₃, hq⟩ => ?_) fun _ _ e => e
    cases f with
    | next => obtain ⟨m, hm, σ₄, hle4, h4⟩ := hq; exact ⟨m, hm, σ₄, R₃.weak hle4, h4⟩
    | cont => obtain ⟨m, hm, σ₄, hle4, h4⟩ := hq; exact ⟨m, hm, σ₄, R₃.weak hle4, h4⟩
    | brk => exact ⟨σ₃, R₃, hq⟩
    | ret v => exact ⟨σ₃, R₃, hq⟩
end
end Mine
end
section
open PySem PySem.W PyProof.Rows PySem.Calls
set_option maxRecDepth 100000
namespace Mine
noncomputable abbrev Spec := List Value → (Value → H → Prop) → H → Prop
noncomputable def Around.On (A : Around) (G : Gnd) (keep : Keep) (outer : List Env) : Prop := A.frames = some outer ∧ ∀ env ∈ outer, StackAt G keep env
noncomputable def CallOK (G : Gnd) (n : Nat) (f : Value) (S : Spec) : Prop := ∀ (A : Around) (outer : List Env) (keep : Keep) (h : H) (s : Shared) (args : List Value) (Q : Value → H → Prop), Room n A → Around.On A G keep outer → HR G keep h s → S (args.map er) Q h →
  codeAny G.M A (.call f ⟨args, []⟩) (fun r s' => ∃ v h', r = .ok (.ret v) ∧ HR G keep h' s' ∧ Q (er v) h') s
noncomputable def frameObjs (F : Fd) (c : Heap) : Keep := (((F.env.locals :: F.env.cells.filterMap fun p => if F.env.cells.lookup p.1 = some p.2 then some p.2 else none) : List Addr).filterMap fun a => (c.get? a).map fun o => (a, o))
section
variable {G : Gnd} {A : Around} {F : Fd}
theorem mem_frameObjs {c : Heap} {p : Addr × Obj} (h : p ∈ frameObjs F c) : c.get? p.1 = some p.2 ∧ (p.1 = F.env.locals ∨ ∃ x, F.env.cells.lookup x = some p.1) := by
  unfold frameObjs at h
  obtain ⟨a, ha, e⟩ := List.mem_filterMap.mp h
  cases q : c.get? a with
  | none => rw [q] at e; cases e
  | some o =>
    rw [q] at e
    cases e
    refine ⟨q, ?_⟩
    rcases List.mem_cons.mp ha with rfl | ha
    · exact .inl rfl
    · obtain ⟨p, _, e⟩ := List.mem_filterMap.mp ha
      split at e
      · rename_i hl; cases e; exact .inr ⟨p.1, hl⟩
      · cases e
theorem frameObjs_locals {c : Heap} {o : Obj} (h : c.get? F.env.locals = some o) : (F.env.locals, o) ∈ frameObjs F c := by
  unfold frameObjs
  exact List.mem_filterMap.mpr ⟨_, .head _, by rw [h]; rfl⟩
theorem frameObjs_cell {c : Heap} {o : Obj} {x : Str} {ca : Addr} (hl : F.env.cells.lookup x = some ca) (h : c.get? ca = some o) : (ca, o) ∈ frameObjs F c := by
  unfold frameObjs
  refine List.mem_filterMap.mpr ⟨ca, .tail _ (List.mem_filterMap.mpr ⟨(x, ca), mem_of_lookup hl, ?_⟩), by rw [h]; rfl⟩
  simp only [hl, if_true]
theorem FR.aside {keep : Keep} {σ : St} {s : Shared} (R : FR G keep F σ s) : HR G (frameObjs F s.heap ++ keep) σ.h s :=
  ⟨R.hr.base, R.hr.size, fun p hp => (List.mem_append.mp hp).elim (fun h => .of (mem_frameObjs h).1) (R.hr.kept p), R.hr.cell, fun a ao e p hp => by
    rcases List.mem_append.mp hp with h | h
    · rcases (mem_frameObjs h).2 with q | ⟨x, q⟩
      · rw [q]; intro z; rw [← z, R.lh] at e; cases e
      · intro z; rw [← z, R.ch x _ q] at e; cases e
    · exact R.hr.apart a ao e p h, R.hr.fresh, R.hr.gens, R.hr.os⟩
theorem FR.again {keep : Keep} {σ : St} {s s' : Shared} (R : FR G keep F σ s) {h' : H} (R' : HR G (frameObjs F s.heap ++ keep) h' s') : FR G keep F ⟨σ.l, h'⟩ s' := by
  obtain ⟨m, hn, hm⟩ := R.ns
  obtain ⟨oL, es, ep, hL, hd, hk, hf⟩ := id hn
  obtain ⟨oL', hL', hkin⟩ := R'.kept _ (List.mem_append_left _ (frameObjs_locals hL))
  have hd' : oL'.data = .dict es ep := by
    rcases hkin with q | ⟨es', ep', q1, q2⟩
    · rw [q]; exact hd
    · rw [hd] at q1; rw [q2, ← q1]
  refine ⟨R'.sub (fun p hp => List.mem_append_right _ hp) fun _ _ e => e, ⟨m, ⟨oL', es, ep, hL', hd', hk, hf⟩, hm⟩, fun x ca e => ?_, R.lk, R.lb, ?_, R.lc, R.ck, R.cb, fun x ca e => ?_, R.ci, R.hasc, R.stk, R.top⟩
  · obtain ⟨v, ⟨o, ho, hd⟩, q⟩ := R.cl x ca e
    exact ⟨v, ⟨o, (R'.kept _ (List.mem_append_left _ (frameObjs_cell e ho))).get (by unfold notDict; rw [hd]), hd⟩, q⟩
  · show h' _ = none
    cases q : h' F.env.locals with
    | none => rfl
    | some ao => exact absurd rfl (R'.apart _ _ q _ (List.mem_append_left _ (frameObjs_locals hL)))
  · show h' _ = none
    obtain ⟨v, ⟨o, ho, hd⟩, _⟩ := R.cl x ca e
    cases q : h' ca with
    | none => rfl
    | some ao => exact absurd rfl (R'.apart _ _ q _ (List.mem_append_left _ (frameObjs_cell e ho)))
theorem StackAt.more {keep keep' : Keep} {env : Env} (h : StackAt G keep env) (hs : ∀ p ∈ keep, p ∈ keep') : StackAt G keep' env := by
  obtain ⟨hk, L, x, es, ep, hf, hm, hd, hl⟩ := h
  exact ⟨hk, L, x, es, ep, hf, hs _ hm, hd, hl⟩
theorem FR.on {keep : Keep} {σ : St} {s : Shared} (R : FR G keep F σ s) (hA : A.frames = some (F.fenv :: F.outer)) : Around.On A G (frameObjs F s.heap ++ keep) (F.fenv :: F.outer) := by
  refine ⟨hA, fun env he => ?_⟩
  rcases List.mem_cons.mp he with rfl | he
  · rcases R.top with ⟨e, hk, hf⟩ | h
    · obtain ⟨m, ⟨oL, es, ep, hL, hd, _⟩, _⟩ := R.ns
      exact ⟨by rw [e]; exact hk, F.env.locals, oL, es, ep, by rw [e]; exact hf, List.mem_append_left _ (frameObjs_locals hL), hd, R.lb⟩
    · exact h.more fun p hp => List.mem_append_right _ hp
  · exact (R.stk env he).more fun p hp => List.mem_append_right _ hp
noncomputable def callM (S : Spec) (vs : List Value) : Sm Value := fun Q σ => S vs (fun v h' => Q v ⟨σ.l, h'⟩) σ.h
theorem Room.le {n m : Nat} (h : Room m A) (hn : n ≤ m) : Room n A := ⟨by have := h.depth; omega, by have := h.units; omega, h.handled⟩
theorem call_R {n m : Nat} {f : Value} {S : Spec} (hA : A.frames = some (F.fenv :: F.outer)) (hr' : Room m A) (hf : CallOK G n f S) (hn : n ≤ m) (vs : List Value) : RV G A F (call f vs) (callM S (vs.map er)) := RA.mk fun keep σ s Q E R hm => by
  have hr := hr'.le hn
  refine wpAny_call (codeAny_mono (hf A _ _ σ.h s vs _ hr (R.on hA) R.aside hm) fun r s' ⟨v, h', e, R', hq⟩ => ?_)
  subst e
  exact ⟨_, R.again R', hq⟩
noncomputable def bindsSt (h : H) (binds : List (Str × Value)) : St := ⟨fun x => binds.reverse.lookup x, h⟩
theorem bindsSt_fold (h : H) (binds : List (Str × Value)) : bindsSt h binds = binds.foldl (fun σ p => σ.put p.1 p.2) ⟨fun _ => none, h⟩ := by
  have key : ∀ (binds l : List (Str × Value)), binds.foldl (fun σ p => σ.put p.1 p.2) (⟨fun x => l.lookup x, h⟩ : St) = ⟨fun x => (binds.reverse ++ l).lookup x, h⟩ := by
    intro binds
    induction binds with
    | nil => intro l; rfl
    | cons p r ih =>
      intro l
      rw [List.foldl_cons, List.reverse_cons, List.append_assoc]
      exact ih (p :: l)
  have := key binds []
  rw [List.append_nil] at this
  exact this.symm
noncomputable def retV : Flow → Value
  | .ret v => v
  | _ => .none
noncomputable def BindOK (G : Gnd) (fd : FuncData) (BS : List Value → (List (Str × Value) → H → Prop) → H → Prop) : Prop := ∀ (A : Around) (vs : List Value) (keep : Keep) (h : H) (s : Shared) (Q : List (Str × Value) → H → Prop) (E : Value → Shared → Prop), HR G keep h s → BS (vs.map er) Q h →
  wpAny G.M A (bindArgs fd ⟨vs, []⟩) (fun binds s' => ∃ h', HR G keep h' s' ∧ (∀ b o, s.heap.get? b = some o → s'.heap.get? b = some o) ∧ Q (binds.map erp) h') E s
noncomputable abbrev defFd (fd : FuncData) (L f : Addr) (outer : List Env) : Fd := ⟨callEnvC fd L f, fun _ => true, callEnvC fd L f, outer⟩
theorem bindL_val {kindOf : Str → Option NameKind} {x : Str} (hx : kindOf x = some .local) : ∀ (binds : List (Str × Value)) (m : Str → Option Value) (σ : St), (∀ u, σ.l x = some u → (m x).map er = some u) → ∀ u, ((binds.map erp).foldl (fun σ p => σ.put p.1 p.2) σ).l x = some u → (bindL kindOf binds m x).map er = some u
  | [], m, σ, h, u, e => h u e
  | (n, v) :: r, m, σ, h, u, e => by
    rw [List.map_cons, List.foldl_cons] at e
    unfold bindL
    refine bindL_val hx r _ _ (fun w hw => ?_) u e
    replace hw : (if x = n then some (er v) else σ.l x) = some w := (St.put_l ..).symm.trans hw
    by_cases hn : x = n
    · rw [if_pos hn] at hw
      rw [← hn, if_pos hx]
      simp only [if_true]
      exact hw
    · rw [if_neg hn] at hw
      split
      · simp only [if_neg hn]; exact h w hw
      · exact h w hw
theorem bindC_val {kindOf : Str → Option NameKind} {x : Str} (hx : kindOf x = some .cell) : ∀ (binds : List (Str × Value)) (m : Str → Option Value) (σ : St), (∀ u, σ.l x = some u → (m x).map er = some u) → ∀ u, ((binds.map erp).foldl (fun σ p => σ.put p.1 p.2) σ).l x = some u → (bindC kindOf binds m x).map er = some u
  | [], m, σ, h, u, e => h u e
  | (n, v) :: r, m, σ, h, u, e => by
    rw [List.map_cons, List.foldl_cons] at e
    unfold bindC
    refine bindC_val hx r _ _ (fun w hw => ?_) u e
    replace hw : (if x = n then some (er v) else σ.l x) = some w := (St.put_l ..).symm.trans hw
    by_cases hn : x = n
    · rw [if_pos hn] at hw
      rw [← hn, if_neg (by rw [hx]; decide)]
      simp only [if_true]
      exact hw
    · rw [if_neg hn] at hw
      split
      · exact h w hw
      · simp only [if_neg hn]; exact h w hw
noncomputable def scopeOk (sc : Scope) : Bool := (sc.kind == .function) && !sc.isCoroutine && !sc.isGenerator && sc.names.all fun p => p.2 != .free
theorem callOK_def {n : Nat} {f : Addr} {fd : FuncData} {body : List Stmt} {oc : Value} {od : Option Addr} {osl : Array (Option Value)} {S : Spec} {BS : List Value → (List (Str × Value) → H → Prop) → H → Prop} {m : Sm Flow}
    (ho : G.K.lookup f = some ⟨oc, od, .func fd, osl⟩) (hbody : fd.body = .stmts body) (hcd : codeIn G.K fd.code fd.qualname = true) (hclo : fd.closure = []) (hsc : scopeOk fd.scope = true) (hB : BindOK G fd BS)
    (hkind : ∀ args Q h, BS args Q h → BS args (fun binds h' => (binds.all fun y => fd.scope.names.lookup y.1 == some .local || fd.scope.names.lookup y.1 == some .cell) = true ∧ Q binds h') h)
    (hR : ∀ (A : Around) (L : Addr) (outer : List Env), Room n A → A.frames = some (callEnvC fd L f :: outer) → RF G A (defFd fd L f outer) (execs body (callEnvC fd L f)) m)
    (hS : ∀ args Q h, S args Q h → BS args (fun binds h' => m (fun fl σ' => ∃ h'', (∀ a ao, h'' a = some ao → σ'.h a = some ao) ∧ Q (retV fl) h'') (bindsSt h' binds)) h) : CallOK G (n + 1) (.ref f) S := by
  intro A outer keep h s args Q hroom hon hr hs
  unfold scopeOk at hsc
  simp only [Bool.and_eq_true, beq_iff_eq, Bool.not_eq_true', List.all_eq_true, bne_iff_ne, ne_eq] at hsc
  obtain ⟨⟨⟨sk, sco⟩, sgen⟩, sfree⟩ := hsc
  have hbs := hkind _ _ _ (hS _ _ _ hs)
  refine codeAny_call_function (by have := hroom.depth; omega) (hr.X _ _ ho) rfl sco sgen hbody (codeRec_of hr.X hcd) ?_
  refine wpAny_mono (hB _ args keep h s _ _ hr hbs) (fun binds s₁ ⟨h₁, R₁, hk₁, hks, hq⟩ => ?_) fun _ _ e => e
  rw [hclo]
  have hkx : ∀ nn, ∀ x ∈ binds, fd.scope.names.lookup x.1 = some .local ∨ (fd.scope.names.lookup x.1 = some .cell ∧ ((cellsFrom nn fd.scope.names []).lookup x.1).isSome = true) :=
    kindsX (by rw [List.all_map] at hks; exact hks)
  refine wpAny_newFunctionEnv_cells sk (hkx _) fun env he s₂ X => ?_
  subst he
  obtain ⟨⟨⟨hp, tk, rfl⟩, hns, hk₂, hfresh⟩, hcell, hap, habove⟩ := X
  refine ⟨(G.nolimit.keeps R₁.base).keeps hk₂, codeAny_func ?_⟩
  have R₂ : HR G keep h₁ { s₁ with heap := hp, toks := tk } := by
    refine R₁.ext hk₂ (Nat.le_trans hfresh (Nat.le_of_lt hns.lt))
  have hlo : s₁.heap.objs.size ≤ (callEnvC fd s₁.heap.objs.size f).locals := hfresh
  have habove' : ∀ x ca, (callEnvC fd s₁.heap.objs.size f).cells.lookup x = some ca → s₁.heap.objs.size < ca := fun x ca e => Nat.lt_of_le_of_lt hfresh (habove x ca (mem_of_lookup e))
  have F₂ : FR G keep (defFd fd s₁.heap.objs.size f outer) (bindsSt h₁ (binds.map erp)) { s₁ with heap := hp, toks := tk } := by
    refine ⟨?_, ⟨_, hns, fun x v hx e => ?_⟩, fun x ca e => ⟨_, hcell x ca e, fun v' hx e' => ?_⟩, fun p hp' => ?_, ?_, ?_, fun x ca e => ?_, fun x ca e _ p hp' => ?_, fun x ca e => ?_, fun x ca e => ?_, fun x y ca e e' => ?_, fun x hx => ?_, hon.2, .inl ⟨rfl, ?_, rfl⟩⟩
    · have : (bindsSt h₁ (binds.map erp)).h = h₁ := rfl
      rw [this]; exact R₂
    · exact bindL_val hx binds _ ⟨fun _ => none, h₁⟩ (fun u q => by cases q) v (by rw [bindsSt_fold] at e; exact e)
    · rcases hx with hx | hx
      · exact bindC_val hx binds _ ⟨fun _ => none, h₁⟩ (fun u q => by cases q) v' (by rw [bindsSt_fold] at e'; exact e')
      · exact absurd rfl (sfree (x, .free) (mem_of_lookup hx))
    · exact Nat.ne_of_lt (Nat.lt_of_lt_of_le (R₁.keep_lt hp') hlo)
    · exact Nat.le_trans R₁.size hlo
    · have : (bindsSt h₁ (binds.map erp)).h = h₁ := rfl
      rw [this]; exact R₁.none_of_le hlo
    · exact (Nat.ne_of_lt (habove x ca (mem_of_lookup e))).symm
    · exact Nat.ne_of_lt (Nat.lt_trans (R₁.keep_lt hp') (habove' x ca e))
    · exact Nat.le_trans R₁.size (Nat.le_of_lt (habove' x ca e))
    · have : (bindsSt h₁ (binds.map erp)).h = h₁ := rfl
      rw [this]; exact R₁.none_of_le (Nat.le_of_lt (habove' x ca e))
    · exact name_of_addr hap (mem_of_lookup e) (mem_of_lookup e')
    · rcases hx with hx | hx
      · exact Option.isSome_iff_exists.mp (cellsFrom_some (x := x) _ _ _ (.inl hx))
      · exact absurd rfl (sfree (x, .free) (mem_of_lookup hx))
    · show fd.scope.kind ≠ _; rw [sk]; decide
  have hA' : (A.deeper (callEnvC fd s₁.heap.objs.size f)).frames = some (callEnvC fd s₁.heap.objs.size f :: outer) := by
    show A.frames.map _ = _; rw [hon.1]; rfl
  have hroom' : Room n (A.deeper (callEnvC fd s₁.heap.objs.size f)) := ⟨by show A.depth + 1 + n < _; have := hroom.depth; omega, by show A.units + 3 + _ + _ < _; have := hroom.units; omega, hroom.handled⟩
  refine wpAny_mono ((hR _ _ outer hroom' hA').run keep _ _ _ _ F₂ hq) (fun fl s₃ ⟨σ₃, R₃, h'', hsub, hq⟩ => ?_) fun _ _ e => e
  refine ⟨_, h'', rfl, R₃.hr.sub (fun _ h => h) hsub, ?_⟩
  cases fl <;> exact hq
end
end Mine
end
section
open PySem PySem.W PyProof.Rows PySem.Calls
set_option maxRecDepth 100000
namespace Mine
section
variable {G : Gnd} {A : Around} {F : Fd}
noncomputable def bsPlain (names : List Str) : List Value → (List (Str × Value) → H → Prop) → H → Prop := fun args Q h => args.length = names.length ∧ Q (names.zip args) h
theorem zip_erp (names : List Str) (vs : List Value) : (names.zip vs).map erp = names.zip (vs.map er) := by
  induction names generalizing vs with
  | nil => rfl
  | cons n r ih => cases vs with
    | nil => rfl
    | cons v vs => rw [List.zip_cons_cons, List.map_cons, ih]; rfl
theorem bindOK_plain {fd : FuncData} {names : List Str} (hb : ∀ vs : List Value, vs.length = names.length → bindArgs fd ⟨vs, []⟩ = pure (names.zip vs)) : BindOK G fd (bsPlain names) := fun A vs keep h s Q E R hq => by
  rw [hb vs (by rw [← hq.1, List.length_map])]
  exact wpAny_pure ⟨h, R, fun _ _ e => e, by rw [zip_erp]; exact hq.2⟩
noncomputable def lenM (vs : List Value) : Sm Value := fun Q σ => match vs with
  | [.ref a] => match σ.h a with
    | some (.list xs) => xs.length ≤ 1000000 ∧ Q (.int xs.length 0) σ
    | some (.ro xs) => xs.length ≤ 1000000 ∧ Q (.int xs.length 0) σ
    | some (.tup xs) => xs.length ≤ 1000000 ∧ Q (.int xs.length 0) σ
    | _ => False
  | _ => False
theorem len_R (vs : List Value) : RV G A F (call (.builtin "len") vs) (lenM (vs.map er)) := by
  refine RA.mk fun keep σ s Q E R hm => ?_
  unfold lenM at hm
  split at hm
  · rename_i a e
    obtain ⟨u, rfl, hu⟩ := map_one e
    have hu := er_ref hu
    subst hu
    split at hm
    · rename_i xs h1
      obtain ⟨items, hp, hi⟩ := R.hr.cell a _ h1
      have hsz := toList_eq hi
      exact Calls.call_len_list hp.isList (by have := hm.1; omega) ⟨σ, R.toks _, by rw [er, hsz]; exact hm.2⟩
    · rename_i xs h1
      obtain ⟨items, hp, hi⟩ := R.hr.cell a _ h1
      have hsz := toList_eq hi
      exact Calls.call_len_list hp (by have := hm.1; omega) ⟨σ, R.toks _, by rw [er, hsz]; exact hm.2⟩
    · rename_i xs h1
      obtain ⟨items, hp, hi⟩ := R.hr.cell a _ h1
      have hsz := toList_eq hi
      exact PyProof.Rows.len_tuple hp (by have := hm.1; omega) ⟨σ, R.toks _, by rw [er, hsz]; exact hm.2⟩
    · exact hm.elim
  · exact hm.elim
noncomputable def hexM (vs : List Value) : Sm Value := fun Q σ => match vs with
  | [.int i _] => (baseText "0x" 16 i).length ≤ 1000000 ∧ Q (.str (baseText "0x" 16 i) 0) σ
  | _ => False
theorem hex_R (vs : List Value) : RV G A F (call (.builtin "hex") vs) (hexM (vs.map er)) := by
  refine RA.mk fun keep σ s Q E R hm => ?_
  unfold hexM at hm
  split at hm
  · rename_i i _ e
    obtain ⟨u, rfl, hu⟩ := map_one e
    obtain ⟨t, rfl⟩ := er_int hu
    exact PySem.P.hex_of_int ⟨σ, R.toks _, hm.2⟩ (by have := hm.1; simp only [sizeLine]; omega)
  · exact hm.elim
theorem R_Expr {e : Expr} {pos : Pos} {m : Sm Value} (hi : interactive F.env = false) (hs : swapsWith e none pos.line F.env = pure false) (h : RV G A F (eval e F.env) m) : RF G A F (exec (.Expr e pos) F.env) (exprM m) := RA.mk fun keep σ s Q E R hm =>
  wpAny_Expr_any (wpAny_mono (h.run keep σ s _ E R hm) (fun _ _ ⟨σ', R', hq⟩ => ⟨σ', R', hq⟩) fun _ _ e => e) hi hs
theorem D_BinOp {l r : Expr} {op : Operator} {pos : Pos} {a b : Sm Value} (h1 : RV G A F (eval l F.env) a) (h2 : RV G A F (eval r F.env) b) : RV G A F (eval (.BinOp l op r pos) F.env) (bindM a fun x => bindM b fun y => binM op x y) := R_BinOp (bin_R op) h1 h2
theorem D_UnaryOp {x : Expr} {op : UnaryOp} {pos : Pos} {a : Sm Value} (h1 : RV G A F (eval x F.env) a) : RV G A F (eval (.UnaryOp op x pos) F.env) (bindM a fun x => unM op x) := R_UnaryOp (un_R op) h1
theorem D_Aug_Name {x : Str} {pos pos' : Pos} {op : Operator} {value : Expr} {m : Sm Value} (hl : ownKind F x = true) (hk : F.env.scope.kind = .function) (hn : (x == ("__classdict__" : Str)) = false) (h : RV G A F (eval value F.env) m) :
    RF G A F (exec (.AugAssign (.Name x pos') op value pos) F.env) (augM x m (augOp op)) := R_Aug_Name hl hk hn (aug_R op) h
theorem D_Aug_Item {o i : Expr} {op : Operator} {value : Expr} {pos p : Pos} {a b v : Sm Value} (hi : plainSlice i = true) (h1 : RV G A F (eval o F.env) a) (h2 : RV G A F (eval i F.env) b) (h3 : RV G A F (eval value F.env) v) :
    RF G A F (exec (.AugAssign (.Subscript o i p) op value pos) F.env) (augItemM a b v (augOp op)) := R_Aug_Item hi (aug_R op) h1 h2 h3
theorem DB_plain {e : Expr} {m : Sm Value} (hp : plainTest e = true) (h : RV G A F (eval e F.env) m) : RB G A F (isTrue e F.env (eval e F.env)) (bindM m truM) := RB_plain hp truthy_R h
theorem D_Bool2 {op : BoolOp} {x y : Expr} {pos : Pos} {a b : Sm Value} (h1 : RV G A F (eval x F.env) a) (h2 : RV G A F (eval y F.env) b) : RV G A F (eval (.BoolOp op [x, y] pos) F.env) (boolM op a b) := R_Bool2 truthy_R h1 h2
theorem D_append {o : Expr} {apos pos : Pos} {args : List Expr} {a : Sm Value} {m : Sm (List Value)} (hb : ∀ w, attributeBase o "append" F.env w = w) (hline : (apos.endLine == pos.line) = true) (hfew : methodCallForm (args.length + 0) (backTo pos (starEach args F.env)) [] = true)
    (h0 : RV G A F (eval o F.env) a) (h1 : RArg G A F pos args m) : RV G A F (eval (.Call (.Attribute o "append" apos) args [] pos) F.env) (methM isListP a m appendM) := R_Meth hb hline hfew (looked_list PySem.F.slot_list_append PySem.F.type_list_append) keeps_builtin h0 h1 append_R
theorem D_pop {o : Expr} {apos pos : Pos} {args : List Expr} {a : Sm Value} {m : Sm (List Value)} (hb : ∀ w, attributeBase o "pop" F.env w = w) (hline : (apos.endLine == pos.line) = true) (hfew : methodCallForm (args.length + 0) (backTo pos (starEach args F.env)) [] = true)
    (h0 : RV G A F (eval o F.env) a) (h1 : RArg G A F pos args m) : RV G A F (eval (.Call (.Attribute o "pop" apos) args [] pos) F.env) (methM isListP a m popM) := R_Meth hb hline hfew (looked_list PySem.F.slot_list_pop PySem.F.type_list_pop) keeps_builtin h0 h1 pop_R
theorem D_clear {o : Expr} {apos pos : Pos} {args : List Expr} {a : Sm Value} {m : Sm (List Value)} (hb : ∀ w, attributeBase o "clear" F.env w = w) (hline : (apos.endLine == pos.line) = true) (hfew : methodCallForm (args.length + 0) (backTo pos (starEach args F.env)) [] = true)
    (h0 : RV G A F (eval o F.env) a) (h1 : RArg G A F pos args m) : RV G A F (eval (.Call (.Attribute o "clear" apos) args [] pos) F.env) (methM isListP a m clearM) := R_Meth hb hline hfew (looked_list PySem.F.slot_list_clear PySem.F.type_list_clear) keeps_builtin h0 h1 clear_R
theorem D_get {o : Expr} {apos pos : Pos} {args : List Expr} {a : Sm Value} {m : Sm (List Value)} (hb : ∀ w, attributeBase o "get" F.env w = w) (hline : (apos.endLine == pos.line) = true) (hfew : methodCallForm (args.length + 0) (backTo pos (starEach args F.env)) [] = true)
    (h0 : RV G A F (eval o F.env) a) (h1 : RArg G A F pos args m) : RV G A F (eval (.Call (.Attribute o "get" apos) args [] pos) F.env) (methM isDictP a m getM) := R_Meth hb hline hfew (looked_dict PySem.F.slot_dict_get PySem.F.type_dict_get) keeps_builtin h0 h1 get_R
theorem D_join {o : Expr} {apos pos : Pos} {args : List Expr} {a : Sm Value} {m : Sm (List Value)} (hb : ∀ w, attributeBase o "join" F.env w = w) (hline : (apos.endLine == pos.line) = true) (hfew : methodCallForm (args.length + 0) (backTo pos (starEach args F.env)) [] = true)
    (h0 : RV G A F (eval o F.env) a) (h1 : RArg G A F pos args m) : RV G A F (eval (.Call (.Attribute o "join" apos) args [] pos) F.env) (methM isStrP a m joinM) := R_Meth hb hline hfew (looked_str PySem.F.slot_str_join PySem.F.type_str_join) keeps_builtin h0 h1 join_R
theorem D_setadd {o : Expr} {apos pos : Pos} {args : List Expr} {a : Sm Value} {m : Sm (List Value)} (hb : ∀ w, attributeBase o "add" F.env w = w) (hline : (apos.endLine == pos.line) = true) (hfew : methodCallForm (args.length + 0) (backTo pos (starEach args F.env)) [] = true)
    (h0 : RV G A F (eval o F.env) a) (h1 : RArg G A F pos args m) : RV G A F (eval (.Call (.Attribute o "add" apos) args [] pos) F.env) (methM isSetP a m addM) := R_Meth hb hline hfew looked_set_add keeps_builtin h0 h1 add_R
theorem D_built {func : Expr} {args : List Expr} {pos : Pos} {i : String} {m : Sm (List Value)} {cm : List Value → Sm Value} (hc : ∀ vs, RV G A F (call (.builtin i) vs) (cm (vs.map er))) (hf : (match func with | .Attribute .. => false | _ => true) = true) (h0 : RV G A F (eval func F.env) (pureM (.builtin i)))
    (h1 : RArg G A F pos args m) : RV G A F (eval (.Call func args [] pos) F.env) (bindM m cm) := R_Call hf (fun _ => er_builtin) h0 keeps_builtin h1 hc
theorem D_call {func : Expr} {args : List Expr} {pos : Pos} {f : Addr} {m : Sm (List Value)} {S : Spec} {n k : Nat} (hA : A.frames = some (F.fenv :: F.outer)) (hr : Room k A) (hf : (match func with | .Attribute .. => false | _ => true) = true) (h0 : RV G A F (eval func F.env) (pureM (.ref f))) (hk : keepIn G.K (.ref f) = true)
    (hS : CallOK G n (.ref f) S) (hn : n ≤ k) (h1 : RArg G A F pos args m) : RV G A F (eval (.Call func args [] pos) F.env) (bindM m (callM S)) := R_Call hf (fun _ => er_ref) h0 (keeps_K' hk) h1 (call_R hA hr hS hn)
theorem D_For {x : Str} {tp : Pos} {iter : Expr} {body orelse : List Stmt} {pos : Pos} {mi : Mi} {b e : Sm Flow} (hs : ∀ x, foldedSetIterable iter F.env x = pure x) (hl : ownKind F x = true) (hk : F.env.scope.kind = .function) (hi : RI G A F iter mi) (hb : RF G A F (execs body F.env) b) (he : RF G A F (execs orelse F.env) e) :
    RF G A F (exec (.For (.Name x tp) iter body orelse pos) F.env) (forM mi (putM x) b e) := R_For hs (fun _ _ => rfl) hi (fun _ => assign_Name_R hl hk) hb he
end
end Mine
end
section
open PySem PySem.W PyProof.Rows PySem.Calls
set_option maxRecDepth 100000
namespace Mine
noncomputable def clOf (cells : List (Str × Addr)) : List (Str × NameKind) → List (Str × Addr) → List (Str × Addr)
  | [], acc => acc
  | (n, k) :: r, acc => if k == .free then (match cells.lookup n with
    | some c => clOf cells r ((n, c) :: acc)
    | none => clOf cells r acc) else clOf cells r acc
theorem closureFor_eq {scope : Scope} {env : Env} (h : ∀ p ∈ scope.names, p.2 = .free → ∃ c, env.cells.lookup p.1 = some c) : closureFor scope env = pure (clOf env.cells scope.names []) := by
  unfold closureFor
  have key : ∀ (l : List (Str × NameKind)) (acc : List (Str × Addr)), (∀ p ∈ l, p.2 = .free → ∃ c, env.cells.lookup p.1 = some c) →
      (forIn l acc fun (x : Str × NameKind) (r : List (Str × Addr)) => if (x.2 == NameKind.free) = true then (do let y ← cellOf env x.1; pure (ForInStep.yield ((x.1, y) :: r))) else pure (ForInStep.yield r) : Sem (List (Str × Addr))) = pure (clOf env.cells l acc) := by
    intro l
    induction l with
    | nil => intro acc _; rfl
    | cons p r ih =>
      intro acc hp
      obtain ⟨n, k⟩ := p
      rw [List.forIn_cons]
      unfold clOf
      by_cases hk : (k == NameKind.free) = true
      · obtain ⟨c, hc⟩ := hp (n, k) (.head _) (beq_iff_eq.mp hk)
        rw [if_pos hk, if_pos hk]
        unfold cellOf
        simp only at hc
        rw [hc]
        exact ih _ fun q hq => hp q (.tail _ hq)
      · rw [if_neg hk, if_neg hk]
        exact ih _ fun q hq => hp q (.tail _ hq)
  have := key scope.names [] h
  exact bind_congr_pure this
where
  bind_congr_pure {t : Sem (List (Str × Addr))} {v : List (Str × Addr)} (h : t = pure v) : (t >>= fun cs => pure cs) = pure v := by rw [h]; rfl
theorem lookup_app {α : Type} (l₁ l₂ : List (Str × α)) (x : Str) : (l₁ ++ l₂).lookup x = (l₁.lookup x).or (l₂.lookup x) := by
  induction l₁ with
  | nil => rfl
  | cons p r ih =>
    rw [List.cons_append, List.lookup_cons, List.lookup_cons]
    cases x == p.1 <;> simp [ih]
theorem clOf_lookup {cells : List (Str × Addr)} {x : Str} {c : Addr} : ∀ (names : List (Str × NameKind)) (acc : List (Str × Addr)), (clOf cells names acc).lookup x = some c → acc.lookup x = some c ∨ (cells.lookup x = some c ∧ (x, NameKind.free) ∈ names)
  | [], acc, h => .inl h
  | (n, k) :: r, acc, h => by
    unfold clOf at h
    split at h
    · rename_i hk
      split at h
      · rename_i c' hc
        rcases clOf_lookup r _ h with h' | h'
        · rw [List.lookup_cons] at h'
          cases hx : x == n with
          | true =>
            rw [hx] at h'; cases h'
            have := beq_iff_eq.mp hx
            subst this
            rw [beq_iff_eq.mp hk]
            exact .inr ⟨hc, .head _⟩
          | false => rw [hx] at h'; exact .inl h'
        · exact .inr ⟨h'.1, .tail _ h'.2⟩
      · exact (clOf_lookup r _ h).imp id fun z => ⟨z.1, .tail _ z.2⟩
    · exact (clOf_lookup r _ h).imp id fun z => ⟨z.1, .tail _ z.2⟩
theorem clOf_some {cells : List (Str × Addr)} {x : Str} {c : Addr} (hc : cells.lookup x = some c) : ∀ (names : List (Str × NameKind)) (acc : List (Str × Addr)), ((x, NameKind.free) ∈ names ∨ ∃ c', acc.lookup x = some c') → ∃ c', (clOf cells names acc).lookup x = some c'
  | [], acc, h => h.elim (fun h => by cases h) id
  | (n, k) :: r, acc, h => by
    unfold clOf
    split
    · rename_i hk
      split
      · rename_i c' hc'
        refine clOf_some hc r _ ?_
        by_cases hx : x = n
        · exact .inr ⟨c', by rw [List.lookup_cons, hx]; simp⟩
        · rcases h with h | ⟨c'', h⟩
          · rcases List.mem_cons.mp h with e | h
            · cases e; exact absurd rfl hx
            · exact .inl h
          · exact .inr ⟨c'', by rw [List.lookup_cons, beq_eq_false_iff_ne.mpr hx]; exact h⟩
      · rename_i hn
        refine clOf_some hc r _ ?_
        rcases h with h | h
        · rcases List.mem_cons.mp h with e | h
          · cases e; rw [hc] at hn; cases hn
          · exact .inl h
        · exact .inr h
    · rename_i hk
      refine clOf_some hc r _ ?_
      rcases h with h | h
      · rcases List.mem_cons.mp h with e | h
        · cases e; exact absurd rfl hk
        · exact .inl h
      · exact .inr h
theorem cellsFrom_app : ∀ (names : List (Str × NameKind)) (n : Nat) (acc : List (Str × Addr)), cellsFrom n names acc = cellsFrom n names [] ++ acc
  | [], _, _ => rfl
  | (x, k) :: r, n, acc => by
    unfold cellsFrom
    split
    · rw [cellsFrom_app r _ ((x, n) :: acc), cellsFrom_app r _ [(x, n)], List.append_assoc]; rfl
    · exact cellsFrom_app r n acc
theorem cellsFrom_mem {x : Str} {c : Addr} : ∀ (names : List (Str × NameKind)) (n : Nat) (acc : List (Str × Addr)), (x, c) ∈ cellsFrom n names acc → (x, c) ∈ acc ∨ (x, NameKind.cell) ∈ names
  | [], _, _, h => .inl h
  | (y, k) :: r, n, acc, h => by
    unfold cellsFrom at h
    split at h
    · rename_i hk
      rcases cellsFrom_mem r _ _ h with h | h
      · rcases List.mem_cons.mp h with e | h
        · cases e; rw [beq_iff_eq.mp hk]; exact .inr (.head _)
        · exact .inl h
      · exact .inr (.tail _ h)
    · exact (cellsFrom_mem r _ _ h).imp id fun z => .tail _ z
noncomputable def compOk (F : Fd) (scope : Scope) : Bool := scope.kind == .function && scope.names.all fun p => (p.2 != .free || (F.env.kindOf p.1 == some .cell || F.env.kindOf p.1 == some .free)) && scope.names.lookup p.1 == some p.2
noncomputable abbrev compFd (F : Fd) (scope : Scope) (C : Addr) : Fd := ⟨compEnvC scope (cellsFrom (C + 1) scope.names [] ++ clOf F.env.cells scope.names []) C F.env, fun x => scope.names.lookup x == some .cell, F.fenv, F.outer⟩
noncomputable def inL (scope : Scope) (l : Str → Option Value) : Str → Option Value := fun x => if scope.names.lookup x = some .free then l x else none
theorem relabel_lookup (scope : Scope) (env : Env) (x : Str) : (relabel scope env).names.lookup x = (scope.names.lookup x).map fun k => if (k == .free && env.scope.kind == .function && env.kindOf x == some .cell) then .cell else k := by
  unfold relabel
  simp only
  induction scope.names with
  | nil => rfl
  | cons p r ih =>
    obtain ⟨n, k⟩ := p
    rw [List.map_cons]
    show List.lookup x ((if (k == NameKind.free && env.scope.kind == .function && env.kindOf n == some .cell) = true then (n, NameKind.cell) else (n, k)) :: _) = _
    rw [List.lookup_cons (k := n)]
    cases hx : x == n with
    | true =>
      have := beq_iff_eq.mp hx
      subst this
      split
      · rename_i hc; rw [List.lookup_cons, hx]; simp only [Option.map_some, hc, if_true]
      · rename_i hc; rw [List.lookup_cons, hx]; simp only [Option.map_some, Bool.not_eq_true] at hc ⊢; rw [hc]; rfl
    | false =>
      split
      · rw [List.lookup_cons, hx]; exact ih
      · rw [List.lookup_cons, hx]; exact ih
theorem wpAny_newCompEnv {M : Model} {A : Around} {E : Value → Shared → Prop} {s : Shared} {scope : Scope} {cl : List (Str × Addr)} {env : Env} {Q : Env → Shared → Prop}
    (h : Q (newEnv scope s.heap.objs.size env.globals (cellsFrom (s.heap.objs.size + 1) scope.names [] ++ cl) env.qual none .none (some env) builtinsNs) { s with heap := pushCells (s.heap.push { cls := .type "dict", data := .dict #[] }) scope.names }) :
    wpAny M A (newFunctionEnv scope env.globals cl [] env.qual none .none (some env)) Q E s := by
  simp only [newFunctionEnv, Option.isSome_some, if_true]
  refine wpAny_bind (wpAny_alloc ?_)
  refine wpAny_bind (wpAny_layCells _ (fun name kind cells => by cases hkc : kind == NameKind.cell <;> simp [hkc]) _ _ _ _ ?_)
  rw [show ({ s with heap := s.heap.push { cls := .type "dict", data := .dict #[] } } : Shared).heap.objs.size = s.heap.objs.size + 1 from Heap.size_push .., cellsFrom_app]
  exact wpAny_bind (wpAny_pure (wpAny_pure h))
end Mine
end
section
open PySem PySem.W PyProof.Rows PySem.Calls
set_option maxRecDepth 100000
namespace Mine
section
variable {G : Gnd} {A : Around} {F : Fd} {keep keep' : Keep} {σ : St} {s s' : Shared}
theorem FR.perm (R : FR G keep F σ s) (hp : ∀ p, p ∈ keep' ↔ p ∈ keep) : FR G keep' F σ s :=
  ⟨R.hr.sub (fun p h => (hp p).mp h) fun _ _ e => e, R.ns, R.cl, fun p h => R.lk p ((hp p).mp h), R.lb, R.lh, R.lc, fun x ca e o p h => R.ck x ca e o p ((hp p).mp h), R.cb, R.ch, R.ci, R.hasc,
    fun env he => (R.stk env he).more fun p h => (hp p).mpr h, R.top.imp id fun h => h.more fun p h => (hp p).mpr h⟩
theorem FR.stacks (R : FR G keep F σ s) : ∀ env ∈ F.fenv :: F.outer, StackAt G (frameObjs F s.heap ++ keep) env := fun env he => by
  rcases List.mem_cons.mp he with rfl | he
  · rcases R.top with ⟨e, hk, hf⟩ | h
    · obtain ⟨m, ⟨oL, es, ep, hL, hd, _⟩, _⟩ := R.ns
      exact ⟨by rw [e]; exact hk, F.env.locals, oL, es, ep, by rw [e]; exact hf, List.mem_append_left _ (frameObjs_locals hL), hd, R.lb⟩
    · exact h.more fun p hp => List.mem_append_right _ hp
  · exact (R.stk env he).more fun p hp => List.mem_append_right _ hp
noncomputable def BaseOK (keep : Keep) (F : Fd) (base : Str → Option Value) : Prop := ∀ x v', base x = some v' → F.env.kindOf x ≠ some .local ∧ ∀ ca, F.env.cells.lookup x = some ca → ∃ v o, (ca, o) ∈ keep ∧ o.data = .cell v ∧ v.map er = some v'
theorem FR.rebase (R : FR G keep F σ s) {base : Str → Option Value} (hb : BaseOK keep F base) : FR G keep F ⟨base, σ.h⟩ s := by
  refine ⟨R.hr, ?_, fun x ca e => ?_, R.lk, R.lb, R.lh, R.lc, R.ck, R.cb, R.ch, R.ci, R.hasc, R.stk, R.top⟩
  · obtain ⟨m, hn, _⟩ := R.ns
    exact ⟨m, hn, fun x v hk e => absurd hk (hb x v e).1⟩
  · cases q : base x with
    | none =>
      obtain ⟨v, hc, _⟩ := R.cl x ca e
      exact ⟨v, hc, fun v' _ e' => by cases q.symm.trans e'⟩
    | some v' =>
      obtain ⟨v, o, hm, hd, he⟩ := (hb x v' q).2 ca e
      exact ⟨v, ⟨o, (R.hr.kept _ hm).get (by unfold notDict; rw [hd]), hd⟩, fun u _ e' => by cases q.symm.trans e'; exact he⟩
theorem BaseOK.mono {F : Fd} {base : Str → Option Value} (h : BaseOK keep F base) (hs : ∀ p ∈ keep, p ∈ keep') : BaseOK keep' F base := fun x v' e => ⟨(h x v' e).1, fun ca hca => let ⟨v, o, hm, r⟩ := (h x v' e).2 ca hca; ⟨v, o, hs _ hm, r⟩⟩
theorem FR.adopt (R : FR G keep F σ s) {D : Addr} {ao : AObj} (P : Apart G keep F D) (hL : D ≠ F.env.locals) (hr : RepA G.prog G.w s.heap D ao) : FR G keep F (σ.seth D ao) s := by
  refine ⟨⟨R.hr.base, R.hr.size, R.hr.kept, fun b bo e => ?_, fun b bo e p q => ?_, fun b bo e hf => ?_, R.hr.gens, R.hr.os⟩, R.ns, R.cl, R.lk, R.lb, ?_, R.lc, R.ck, R.cb, fun x ca e => ?_, R.ci, R.hasc, R.stk, R.top⟩
  · unfold St.seth H.set at e
    simp only at e
    split at e
    · rename_i q; cases e; exact q ▸ hr
    · exact R.hr.cell b bo e
  · unfold St.seth H.set at e
    simp only at e
    split at e
    · rename_i z; rw [z]; exact P.ne p q
    · exact R.hr.apart b bo e p q
  · unfold St.seth H.set at e
    simp only at e
    split at e
    · rename_i z; rw [z]; exact P.lo
    · exact R.hr.fresh b bo e hf
  · exact (H.set_ne _ _ hL.symm).trans R.lh
  · exact (H.set_ne _ _ (P.cells x ca e)).trans (R.ch x ca e)
theorem FR.layOld (R : FR G keep F σ s) {C : Addr} {o : Obj} (P : Apart G keep F C) (hL : C ≠ F.env.locals) (hC : s.heap.get? C = some o) (hh : σ.h C = none) : FR G ((C, o) :: keep) F σ s := by
  refine ⟨⟨R.hr.base, R.hr.size, fun p hp => ?_, R.hr.cell, fun a ao e p hp => ?_, R.hr.fresh, R.hr.gens, R.hr.os⟩, R.ns, R.cl, fun p hp => ?_, R.lb, R.lh, R.lc, fun x ca e hw p hp => ?_, R.cb, R.ch, R.ci, R.hasc, fun env he => (R.stk env he).cons, R.top.imp id fun h => h.cons⟩
  · rcases List.mem_cons.mp hp with rfl | h
    · exact .of hC
    · exact R.hr.kept p h
  · rcases List.mem_cons.mp hp with rfl | h
    · rintro rfl; rw [hh] at e; cases e
    · exact R.hr.apart a ao e p h
  · rcases List.mem_cons.mp hp with rfl | h
    · exact hL
    · exact R.lk p h
  · rcases List.mem_cons.mp hp with rfl | h
    · exact (P.cells x ca e).symm
    · exact R.ck x ca e hw p h
theorem compOk_kind {scope : Scope} (h : compOk F scope = true) : scope.kind = .function := by
  unfold compOk at h
  simp only [Bool.and_eq_true, beq_iff_eq] at h
  exact h.1
theorem compOk_free {scope : Scope} (h : compOk F scope = true) {x : Str} {k : NameKind} (hx : (x, k) ∈ scope.names) : scope.names.lookup x = some k ∧ (k = .free → F.env.kindOf x = some .cell ∨ F.env.kindOf x = some .free) := by
  unfold compOk at h
  simp only [Bool.and_eq_true, List.all_eq_true, beq_iff_eq, Bool.or_eq_true, bne_iff_ne, ne_eq] at h
  obtain ⟨h1, h2⟩ := h.2 _ hx
  exact ⟨h2, fun e => h1.elim (fun q => absurd e q) id⟩
theorem FR.closure (R : FR G keep F σ s) {scope : Scope} (h : compOk F scope = true) : closureFor scope F.env = pure (clOf F.env.cells scope.names []) :=
  closureFor_eq fun p hp e => R.hasc p.1 ((compOk_free h hp).2 e)
theorem FR.inner (R : FR G keep F σ s) {scope : Scope} {D : Addr} {oD : Obj} {hp : Heap} {tk : Nat} (hok : compOk F scope = true) (hlen : s.heap.objs.size = D) (hfD : oD.isFreed = false) (hhp : hp = pushCells ((s.heap.push oD).push { cls := .type "dict", data := .dict #[] }) scope.names) :
    FR G ((D, oD) :: (frameObjs F s.heap ++ keep)) (compFd F scope (D + 1)) ⟨inL scope σ.l, σ.h⟩ { s with heap := hp, toks := tk } ∧ BaseOK (frameObjs F s.heap) (compFd F scope (D + 1)) (inL scope σ.l) ∧
      (∀ x ca, (compFd F scope (D + 1)).env.cells.lookup x = some ca → D < ca ∨ F.env.cells.lookup x = some ca) := by
  subst hlen
  have e1 : (s.heap.push oD).objs.size = s.heap.objs.size + 1 := Heap.size_push ..
  have e2 : ((s.heap.push oD).push { cls := .type "dict", data := .dict #[] }).objs.size = s.heap.objs.size + 2 := by rw [Heap.size_push, e1]
  have hns : ((s.heap.push oD).push { cls := .type "dict", data := .dict #[] }).Ns (s.heap.objs.size + 1) (fun _ => none) := by
    have := Heap.Ns.new (s.heap.push oD) (.type "dict")
    rwa [e1] at this
  have hkD : hp.get? s.heap.objs.size = some oD := by
    rw [hhp]
    exact pushCells_keeps _ _ _ _ (Heap.get?_push_of_some _ (Heap.get?_push_size _ hfD))
  have hk : ∀ b o, s.heap.get? b = some o → hp.get? b = some o := fun b o e => by
    rw [hhp]
    exact pushCells_keeps _ _ _ _ (Heap.get?_push_of_some _ (Heap.get?_push_of_some _ e))
  have ok := cellsFrom_ok scope.names ((s.heap.push oD).push { cls := .type "dict", data := .dict #[] }) (s.heap.objs.size + 2) [] ⟨fun _ _ hm => (nomatch hm), List.Pairwise.nil⟩ (by rw [e2]; exact Nat.le_refl _)
  rw [← hhp, e2] at ok
  have split : ∀ {x ca}, (compFd F scope (s.heap.objs.size + 1)).env.cells.lookup x = some ca → (hp.IsCell ca none ∧ s.heap.objs.size + 2 ≤ ca ∧ scope.names.lookup x = some .cell ∧ (x, ca) ∈ cellsFrom (s.heap.objs.size + 2) scope.names []) ∨ (F.env.cells.lookup x = some ca ∧ scope.names.lookup x = some .free) := by
    intro x ca e
    replace e : (cellsFrom (s.heap.objs.size + 2) scope.names [] ++ clOf F.env.cells scope.names []).lookup x = some ca := e
    rw [lookup_app] at e
    cases q : (cellsFrom (s.heap.objs.size + 2) scope.names []).lookup x with
    | some c =>
      rw [q] at e
      cases e
      have hm := mem_of_lookup q
      obtain ⟨h1, h2⟩ := ok.empty x ca hm
      rcases cellsFrom_mem _ _ _ hm with h | h
      · cases h
      · exact .inl ⟨h1, h2, (compOk_free hok h).1, hm⟩
    | none =>
      rw [q] at e
      rcases clOf_lookup _ _ e with h | h
      · cases h
      · exact .inr ⟨h.1, (compOk_free hok h.2).1⟩
  have hkind : ∀ x, (compFd F scope (s.heap.objs.size + 1)).env.kindOf x = (scope.names.lookup x).map fun k => if (k == .free && F.env.scope.kind == .function && F.env.kindOf x == some .cell) then .cell else k := fun x => relabel_lookup scope F.env x
  have hinL : ∀ {x v'}, inL scope σ.l x = some v' → scope.names.lookup x = some .free ∧ σ.l x = some v' := by
    intro x v' e
    unfold inL at e
    split at e
    · rename_i q; exact ⟨q, e⟩
    · cases e
  have hbase : BaseOK (frameObjs F s.heap) (compFd F scope (s.heap.objs.size + 1)) (inL scope σ.l) := by
    intro x v' e
    obtain ⟨q, e⟩ := hinL e
    refine ⟨?_, fun ca hca => ?_⟩
    · rw [hkind, q]
      simp only [Option.map_some]
      split <;> simp
    · rcases split hca with h | h
      · rw [h.2.2.1] at q; cases q
      · obtain ⟨v, ⟨o, ho, hd⟩, hv⟩ := R.cl x ca h.1
        exact ⟨v, o, frameObjs_cell h.1 ho, hd, hv v' ((compOk_free hok (mem_of_lookup q)).2 rfl) e⟩
  have hsz : s.heap.objs.size ≤ hp.objs.size := by
    have := (hns.keeps (pushCells_keeps scope.names _)).lt
    rw [← hhp] at this
    exact Nat.le_of_lt (Nat.lt_of_succ_lt this)
  have H1 := (R.aside.ext (t := tk) hk hsz)
  have lt : ∀ {a ao}, σ.h a = some ao → a < s.heap.objs.size := fun e => R.hr.lt e
  have hkeep : ∀ p ∈ (s.heap.objs.size, oD) :: (frameObjs F s.heap ++ keep), p.1 ≤ s.heap.objs.size := fun p hp' => by
    rcases List.mem_cons.mp hp' with rfl | h
    · exact Nat.le_refl _
    · exact Nat.le_of_lt (R.aside.keep_lt h)
  refine ⟨⟨⟨H1.base, H1.size, fun p hp' => ?_, H1.cell, fun a ao e p hp' => ?_, H1.fresh, H1.gens, H1.os⟩, ?_, fun x ca e => ?_, fun p hp' => ?_, ?_, ?_, fun x ca e => ?_, fun x ca e hw p hp' => ?_, fun x ca e => ?_, fun x ca e => ?_, fun x y ca e e' => ?_, fun x hx => ?_, fun env he => ?_, .inr ?_⟩, hbase, fun x ca e => (split e).imp (fun h => Nat.lt_of_succ_lt h.2.1) (·.1)⟩
  · rcases List.mem_cons.mp hp' with rfl | h
    · exact .of hkD
    · exact H1.kept p h
  · rcases List.mem_cons.mp hp' with rfl | h
    · exact Nat.ne_of_gt (lt e)
    · exact H1.apart a ao e p h
  · refine ⟨fun _ => none, ?_, fun x v hl e => absurd hl (hbase x v e).1⟩
    rw [hhp]
    exact hns.keeps (pushCells_keeps _ _)
  · rcases split e with h | h
    · refine ⟨none, h.1, fun v' _ e' => ?_⟩
      have := (hinL e').1
      rw [h.2.2.1] at this; cases this
    · obtain ⟨v, ⟨o, ho, hd⟩, hv⟩ := R.cl x ca h.1
      exact ⟨v, ⟨o, hk _ _ ho, hd⟩, fun v' _ e' => hv v' ((compOk_free hok (mem_of_lookup h.2)).2 rfl) (hinL e').2⟩
  · exact Nat.ne_of_lt (Nat.lt_succ_of_le (hkeep p hp'))
  · exact Nat.le_trans R.hr.size (Nat.le_succ _)
  · exact R.hr.none_of_le (Nat.le_succ _)
  · rcases split e with h | h
    · exact Nat.ne_of_gt h.2.1
    · exact Nat.ne_of_lt (Nat.lt_succ_of_lt (R.cell_lt h.1))
  · rcases split e with h | h
    · exact Nat.ne_of_lt (Nat.lt_of_le_of_lt (hkeep p hp') (Nat.lt_of_lt_of_le (Nat.lt_succ_self _) (Nat.le_of_succ_le h.2.1)))
    · replace hw : (scope.names.lookup x == some NameKind.cell) = true := hw
      rw [h.2] at hw; cases hw
  · rcases split e with h | h
    · exact Nat.le_trans R.hr.size (Nat.le_of_succ_le (Nat.le_of_succ_le h.2.1))
    · exact R.cb x ca h.1
  · rcases split e with h | h
    · exact R.hr.none_of_le (Nat.le_of_succ_le (Nat.le_of_succ_le h.2.1))
    · exact R.ch x ca h.1
  · rcases split e with h | h <;> rcases split e' with h' | h'
    · exact name_of_addr ok.apart h.2.2.2 h'.2.2.2
    · have h1 := R.cell_lt h'.1
      exact absurd (Nat.lt_trans h1 (Nat.lt_of_succ_lt h.2.1)) (Nat.lt_irrefl _)
    · have h1 := R.cell_lt h.1
      exact absurd (Nat.lt_trans h1 (Nat.lt_of_succ_lt h'.2.1)) (Nat.lt_irrefl _)
    · exact R.ci x y ca h.1 h'.1
  · rw [hkind] at hx
    have : scope.names.lookup x = some .cell ∨ scope.names.lookup x = some .free := by
      cases q : scope.names.lookup x with
      | none => rw [q] at hx; rcases hx with hx | hx <;> cases hx
      | some k =>
        rw [q] at hx
        cases k <;> first | exact .inl rfl | exact .inr rfl | (rcases hx with hx | hx <;> simp at hx)
    show ∃ ca, (cellsFrom (s.heap.objs.size + 2) scope.names [] ++ clOf F.env.cells scope.names []).lookup x = some ca
    rw [lookup_app]
    rcases this with h | h
    · obtain ⟨ca, hca⟩ := (Option.isSome_iff_exists.mp (cellsFrom_some (x := x) _ _ _ (.inl h)) : ∃ ca, (cellsFrom (s.heap.objs.size + 2) scope.names []).lookup x = some ca)
      exact ⟨ca, by rw [hca]; rfl⟩
    · obtain ⟨c, hc⟩ := R.hasc x ((compOk_free hok (mem_of_lookup h)).2 rfl)
      obtain ⟨c', hc'⟩ := clOf_some hc scope.names [] (.inl (mem_of_lookup h))
      cases (cellsFrom (s.heap.objs.size + 2) scope.names []).lookup x with
      | none => exact ⟨c', by rw [hc']; rfl⟩
      | some c₂ => exact ⟨c₂, rfl⟩
  · exact (R.stacks env (.tail _ he)).cons
  · exact (R.stacks _ (.head _)).cons
end
end Mine
end
section
open PySem PySem.W PyProof.Rows PySem.Calls
set_option maxRecDepth 100000
namespace Mine
noncomputable abbrev testsOf (ifs : List Expr) (env : Env) : Sem Bool := forIn ifs true fun c r => if r = true then do let ok ← isTrue c env (eval c env); pure (ForInStep.yield ok) else pure (ForInStep.yield r)
noncomputable def compM (mi : Mi) (inl : (Str → Option Value) → Str → Option Value) (x : Str) (tests : Sm Bool) (elt : Sm Value) : Sm Value := fun Q σ => mi (fun xs grd σ₁ => ∃ I : Nat → List Value → H → Prop, I 0 [] σ₁.h ∧
  (∀ i ys h, I i ys h → grd h ∧ (∀ v, xs[i]? = some v → tests (fun b σ₂ => (b = true → elt (fun y σ₃ => ys.length ≤ 1000000 ∧ I (i + 1) (ys ++ [y]) σ₃.h) σ₂) ∧ (b = false → I (i + 1) ys σ₂.h)) (St.put ⟨inl σ₁.l, h⟩ x v)) ∧
    (xs[i]? = none → ∀ D, h D = none → Q (.ref D) ⟨σ₁.l, h.set D (.list ys)⟩))) σ
section
variable {G : Gnd} {A : Around} {F : Fd}
theorem RT_nil {env : Env} (he : F.env = env) : RB G A F (testsOf [] env) (pureM true) := RA.mk fun _ σ _ _ _ R hm => wpAny_tests_nil ⟨σ, R, hm⟩
theorem RT_one {c : Expr} {env : Env} {m : Sm Bool} (he : F.env = env) (h : RB G A F (isTrue c F.env (eval c F.env)) m) : RB G A F (testsOf [c] env) m := RA.mk fun keep σ s Q E R hm => by
  subst he
  exact wpAny_tests_one (h.run keep σ s Q E R hm)
theorem comp_core {keep : Keep} {σ : St} {s : Shared} {t : Itr} {o : Obj} {scope : Scope} {x : Str} {px : Pos} {iter elt : Expr} {ifs : List Expr} {pos : Pos} {tests : Sm Bool} {em : Sm Value} {E : Value → Shared → Prop} {RR : Value → Addr → Result → Shared → Prop} {Q : Value → St → Prop}
    (hok : compOk F scope = true) (hown : ∀ C, ownKind (compFd F scope C) x = true) (ht : ∀ C, RB G A (compFd F scope C) (testsOf ifs (compFd F scope C).env) tests) (he : ∀ C, RV G A (compFd F scope C) (eval elt (compFd F scope C).env) em)
    (hi : ItrOK G A t) (P : Apart G keep F t.I) (R : FR G ((t.I, o) :: keep) F σ s) (hst : t.st 0 o) (I : Nat → List Value → H → Prop) (h0 : I 0 [] σ.h)
    (hstep : ∀ i ys h, I i ys h → t.grd h ∧ (∀ v, t.xs[i]? = some v → tests (fun b σ₂ => (b = true → em (fun y σ₃ => ys.length ≤ 1000000 ∧ I (i + 1) (ys ++ [y]) σ₃.h) σ₂) ∧ (b = false → I (i + 1) ys σ₂.h)) (St.put ⟨inL scope σ.l, h⟩ x v)) ∧
      (t.xs[i]? = none → ∀ D, h D = none → Q (.ref D) ⟨σ.l, h.set D (.list ys)⟩))
    (hRR : ∀ D C oC s' σ', FR G ((C, oC) :: keep) F σ' s' → Apart G keep F C → (∃ m, s'.heap.Ns C m) → Q (.ref D) σ' → RR (.ref D) C (.ok .next) s') :
    wpAny G.M A (newList []) (fun acc s₃ => wpAny G.M A (newFunctionEnv scope F.env.globals (clOf F.env.cells scope.names []) [] F.env.qual none .none (some F.env)) (fun cenv s₄ =>
      codeAny G.M A (.compStart (.ListComp elt [⟨.Name x px, iter, ifs, 0⟩] scope pos) 0 (.ref t.I) acc { cenv with scope := relabel scope F.env }) (RR acc cenv.locals) s₄) E s₃) E s := by
  refine wpAny_newObj_type (wpAny_newCompEnv ?_)
  have R₀ := R.drop P
  generalize hoD : ({ cls := .type "list", dict := none, data := .seq ([] : List Value).toArray } : Obj) = oD
  have hfD : oD.isFreed = false := by rw [← hoD]; rfl
  have PD : Apart G keep F s.heap.objs.size := R₀.apartNew (Nat.le_refl _)
  have hLs := R.locals_lt
  obtain ⟨Rin, hbase, hkk⟩ := R.inner (D := s.heap.objs.size) (oD := oD) (tk := s.toks) hok rfl hfD rfl
  dsimp only
  rw [show (s.heap.push oD).objs.size = s.heap.objs.size + 1 from Heap.size_push ..]
  have PC : Apart G keep F (s.heap.objs.size + 1) := R₀.apartNew (Nat.le_succ _)
  -- the list that grows, and the walk, are laid aside
  generalize hD : s.heap.objs.size = D at *
  have hID : t.I ≠ D := by
    have := R.hr.keep_lt (p := (t.I, o)) (.head _)
    rw [hD] at this
    exact Nat.ne_of_lt this
  have hIL : t.I ≠ F.env.locals := R.lk (t.I, o) (.head _)
  generalize hF' : compFd F scope (D + 1) = F' at Rin hbase
  have hE' : F'.env = { newEnv scope (D + 1) F.env.globals (cellsFrom (D + 1 + 1) scope.names [] ++ clOf F.env.cells scope.names []) F.env.qual none .none (some F.env) builtinsNs with scope := relabel scope F.env } := by rw [← hF']; rfl
  have Rin : FR G ((t.I, o) :: (D, oD) :: (frameObjs F s.heap ++ keep)) F' ⟨inL scope σ.l, σ.h⟩ { s with heap := pushCells ((s.heap.push oD).push { cls := .type "dict", data := .dict #[] }) scope.names } := Rin.perm fun p => by
    simp only [List.mem_cons, List.mem_append]
    constructor
    · rintro (h | h | h | h)
      · exact .inr (.inr (.inl h))
      · exact .inl h
      · exact .inr (.inl h)
      · exact .inr (.inr (.inr h))
    · rintro (h | h | h | h)
      · exact .inr (.inl h)
      · exact .inr (.inr (.inl h))
      · exact .inl h
      · exact .inr (.inr (.inr h))
  have hcs : ∀ y ca, F'.env.cells.lookup y = some ca → D < ca ∨ F.env.cells.lookup y = some ca := by rw [← hF']; exact hkk
  have hfr : F'.fenv :: F'.outer = F.fenv :: F.outer := by rw [← hF']
  have hkR : ∀ p ∈ frameObjs F s.heap ++ keep, p.1 ≠ t.I ∧ p.1 < D := fun p hp => by
    have hlt := R.aside.keep_lt (p := p) (by
      rcases List.mem_append.mp hp with h | h
      · exact List.mem_append_left _ h
      · exact List.mem_append_right _ (.tail _ h))
    rw [hD] at hlt
    refine ⟨?_, hlt⟩
    rcases List.mem_append.mp hp with h | h
    · rcases (mem_frameObjs h).2 with q | ⟨y, q⟩
      · rw [q]; exact hIL.symm
      · exact P.cells y _ q
    · exact P.ne p h
  have PI : ∀ oL, Apart G ((D, oL) :: (frameObjs F s.heap ++ keep)) F' t.I := fun oL => by
    refine ⟨fun p hp => ?_, P.lo, fun y ca e => ?_, fun env he => ?_⟩
    · rcases List.mem_cons.mp hp with rfl | h
      · exact hID.symm
      · exact (hkR p h).1
    · rcases hcs y ca e with h | h
      · have := R.hr.keep_lt (p := (t.I, o)) (.head _)
        rw [hD] at this
        exact Nat.ne_of_gt (Nat.lt_trans this h)
      · exact P.cells y ca h
    · rw [hfr] at he
      exact P.frames env he
  have PD' : ∀ oI, Apart G ((t.I, oI) :: (frameObjs F s.heap ++ keep)) F' D := fun oI => by
    refine ⟨fun p hp => ?_, PD.lo, fun y ca e => ?_, fun env he => ?_⟩
    · rcases List.mem_cons.mp hp with rfl | h
      · exact hID
      · exact Nat.ne_of_lt (hkR p h).2
    · rcases hcs y ca e with h | h
      · exact Nat.ne_of_gt h
      · exact PD.cells y ca h
    · rw [hfr] at he
      exact PD.frames env he
  have hmo : ∀ oI oL, BaseOK ((t.I, oI) :: (D, oL) :: (frameObjs F s.heap ++ keep)) F' (inL scope σ.l) := fun oI oL => hbase.mono fun p hp => .tail _ (.tail _ (List.mem_append_left _ hp))
  have fin : ∀ (i : Nat) (ys : List Value) (s' : Shared) (oL : Obj) (h : H) (l : Str → Option Value), FR G ((D, oL) :: (frameObjs F s.heap ++ keep)) F' ⟨l, h⟩ s' → (∃ items : Array Value, (∃ n, oL = { cls := .type "list", data := .seq items n }) ∧ items.toList.map er = ys) → I i ys h → t.xs[i]? = none →
      RR (.ref D) (D + 1) (.ok .next) s' := by
    rintro i ys s' oL h l R' ⟨items, ⟨n, rfl⟩, hys⟩ hI hn
    have e1 : HR G (frameObjs F s.heap ++ keep) h s' := R'.hr.sub (fun p hp => .tail _ hp) fun _ _ e => e
    have e2 : FR G keep F ⟨σ.l, h⟩ s' := FR.again R₀ e1
    have hDn : h D = none := by
      cases q : h D with
      | none => rfl
      | some ao => exact absurd rfl (R'.hr.apart D ao q (D, _) (.head _))
    have hF'l : F'.env.locals = D + 1 := by rw [← hF']; rfl
    have hCn : h (D + 1) = none := by
      have := R'.lh
      rwa [hF'l] at this
    have e3 := e2.adopt (ao := .list ys) PD (Nat.ne_of_gt hLs) ⟨items, ⟨n, (R'.hr.kept (D, _) (.head _)).get rfl⟩, hys⟩
    obtain ⟨m, hm, _⟩ := R'.ns
    rw [hF'l] at hm
    obtain ⟨oC, es, ep, hC, _⟩ := id hm
    refine hRR D (D + 1) oC s' _ (e3.layOld PC (Nat.ne_of_gt (Nat.lt_succ_of_lt hLs)) hC ?_) PC ⟨m, hm⟩ ((hstep i ys h hI).2.2 hn D hDn)
    show (h.set D _) (D + 1) = none
    rw [H.set_ne _ _ (Nat.succ_ne_self D)]
    exact hCn
  have main : ∀ (s' : Shared) (oI oL : Obj) (σ' : St), FR G ((t.I, oI) :: (D, oL) :: (frameObjs F s.heap ++ keep)) F' σ' s' → (∃ items : Array Value, (∃ n, oL = { cls := .type "list", data := .seq items n }) ∧ items.toList.map er = []) → t.st 0 oI → I 0 [] σ'.h →
      codeAny G.M A (.compLoop (.ListComp elt [⟨.Name x px, iter, ifs, 0⟩] scope pos) 0 (.ref t.I) (.ref D) F'.env) (RR (.ref D) (D + 1)) s' := by
    intro s' oI oL σ' R' hL hs0 hI
    refine codeAny_compLoop_tests (fun n s' => ∃ (i : Nat) (ys : List Value) (oI oL : Obj) (σ' : St), n = t.xs.length + 1 - i ∧ FR G ((t.I, oI) :: (D, oL) :: (frameObjs F s.heap ++ keep)) F' σ' s' ∧
      (∃ items : Array Value, (∃ n, oL = { cls := .type "list", data := .seq items n }) ∧ items.toList.map er = ys) ∧ t.st i oI ∧ I i ys σ'.h) ?_ (t.xs.length + 1) ⟨0, [], oI, oL, σ', rfl, R', hL, hs0, hI⟩
    rintro n s₁ ⟨i, ys, oI, oL, σ₁, rfl, R₁, hL, hsi, hI⟩
    obtain ⟨hg, hsome, hnone⟩ := hstep i ys _ hI
    refine hi.step i oI _ F' σ₁ s₁ _ _ (PI oL) R₁ hsi hg (fun v hv s₂ o₂ u R₂ hs₂ hu => ?_) fun hn s₂ R₂ => fin i ys s₂ oL σ₁.h σ₁.l R₂ hL hI hn
    have hlt : i < t.xs.length := (List.getElem?_eq_some_iff.mp hv).1
    have R₂ := R₂.rebase (hmo o₂ oL)
    have hown' : ownKind F' x = true := by rw [← hF']; exact hown _
    have hk' : F'.env.scope.kind = .function := by rw [← hF']; show scope.kind = _; exact compOk_kind hok
    refine wpAny_mono ((assign_Name_R (A := A) hown' hk').run _ _ s₂ (fun _ σ₃ => σ₃ = (⟨inL scope σ.l, σ₁.h⟩ : St).put x v) _ R₂ (by subst hu; rfl)) (fun _ s₃ ⟨σ₃, R₃, h₃⟩ => ?_) fun _ _ e => e
    subst h₃
    have ht' : RB G A F' (testsOf ifs F'.env) tests := by rw [← hF']; exact ht _
    have he' : RV G A F' (eval elt F'.env) em := by rw [← hF']; exact he _
    refine wpAny_mono (ht'.run _ _ s₃ _ _ R₃ (hsome v hv)) (fun b s₄ ⟨σ₄, R₄, h₄⟩ => ?_) fun _ _ e => e
    cases b with
    | false => exact ⟨t.xs.length + 1 - (i + 1), by omega, i + 1, ys, o₂, oL, σ₄, rfl, R₄, hL, hs₂, h₄.2 rfl⟩
    | true =>
      simp only [id, if_true]
      refine wpAny_mono (he'.run _ _ s₄ _ _ R₄ (h₄.1 rfl)) (fun y s₅ ⟨σ₅, R₅, hlen, h₅⟩ => ?_) fun _ _ e => e
      obtain ⟨items, ⟨n, rfl⟩, hys⟩ := hL
      have hp := (R₅.hr.kept (D, _) (.tail _ (.head _))).get rfl
      have hsz := toList_eq hys
      refine call_meets PySem.F.slot_list_append ⟨_, hp, rfl⟩ PySem.F.entry_list_append (PySem.F.args_list_append_2 _ _) (list_append D items n y (by simp only [sizeLine]; omega)) ⟨hp, ?_⟩
      obtain ⟨n', e'⟩ := PlainList.upd (fun x => x.push y) ⟨n, hp⟩
      have R₆ : FR G ((D, _) :: (t.I, o₂) :: (frameObjs F s.heap ++ keep)) F' σ₅ s₅ := R₅.perm fun p => by
        simp only [List.mem_cons]
        constructor
        · rintro (h | h | h)
          · exact .inr (.inl h)
          · exact .inl h
          · exact .inr (.inr h)
        · rintro (h | h | h)
          · exact .inr (.inl h)
          · exact .inl h
          · exact .inr (.inr h)
      have R₇ := R₆.turn (t := s₅.toks) (PD' o₂) (Heap.SameBut.update ..) e'
      refine ⟨t.xs.length + 1 - (i + 1), by omega, i + 1, ys ++ [er y], o₂, _, σ₅, rfl, R₇.perm fun p => ?_, ⟨items.push y, ⟨n', rfl⟩, by simp [hys]⟩, hs₂, h₅⟩
      simp only [List.mem_cons]
      constructor
      · rintro (h | h | h)
        · exact .inr (.inl h)
        · exact .inl h
        · exact .inr (.inr h)
      · rintro (h | h | h)
        · exact .inr (.inl h)
        · exact .inl h
        · exact .inr (.inr h)
  rw [← hE']
  have hst' := main _ o oD _ Rin ⟨#[], ⟨0, by rw [← hoD]⟩, rfl⟩ hst h0
  exact codeAny_compStart_list hst' (hi.self o _ F' _ _ _ _ Rin hst hst')
theorem R_ListComp {x : Str} {px : Pos} {elt iter : Expr} {ifs : List Expr} {scope : Scope} {pos : Pos} {mi : Mi} {tests : Sm Bool} {em : Sm Value} (hs : ∀ x, foldedSetIterable iter F.env x = pure x) (hok : compOk F scope = true) (hown : ∀ C, ownKind (compFd F scope C) x = true)
    (hi : RI G A F iter mi) (ht : ∀ C, RB G A (compFd F scope C) (testsOf ifs (compFd F scope C).env) tests) (he : ∀ C, RV G A (compFd F scope C) (eval elt (compFd F scope C).env) em) :
    RV G A F (eval (.ListComp elt [⟨.Name x px, iter, ifs, 0⟩] scope pos) F.env) (compM mi (inL scope) x tests em) := RA.mk fun keep σ s Q E R hm => by
  rw [eval_ListComp]
  refine wpAny_comprehension_free (use := none) rfl hs (R.closure hok) (compOk_kind hok) (fun y hy e => by have := (compOk_free hok (x := y.1) (k := y.2) hy).1; rw [e] at this; exact this) ?_
  refine wpAny_mono (hi.run keep σ s _ E R hm) (fun xv s₁ h₁ => wpAny_mono h₁ (fun it s₂ h₂ => ?_) fun _ _ e => e) fun _ _ e => e
  obtain ⟨t, o, σ₂, rfl, hT, P, R₂, hst, I, h0, hstep⟩ := h₂
  refine comp_core (RR := fun acc C => compPost G.M A E none (fun v s' => ∃ σ', FR G keep F σ' s' ∧ Q (er v) σ') acc C) hok hown ht he hT P R₂ hst I h0 hstep ?_
  rintro D C oC s' σ' R' P' ⟨m, hm⟩ hq
  exact ⟨m, hm, fun h' hs' => ⟨σ', R'.turnEnd (t := s'.toks) P' hs'.extBut, hq⟩⟩
theorem R_Assign_Comp {x y : Str} {px py : Pos} {elt iter : Expr} {ifs : List Expr} {scope : Scope} {pos spos : Pos} {mi : Mi} {tests : Sm Bool} {em : Sm Value} (hsw : swapsWith (.ListComp elt [⟨.Name x px, iter, ifs, 0⟩] scope pos) (some (.Name y py)) spos.line F.env = pure true)
    (hl : ownKind F y = true) (hk : F.env.scope.kind = .function) (hs : ∀ x, foldedSetIterable iter F.env x = pure x) (hok : compOk F scope = true) (hown : ∀ C, ownKind (compFd F scope C) x = true)
    (hi : RI G A F iter mi) (ht : ∀ C, RB G A (compFd F scope C) (testsOf ifs (compFd F scope C).env) tests) (he : ∀ C, RV G A (compFd F scope C) (eval elt (compFd F scope C).env) em) :
    RF G A F (exec (.Assign [.Name y py] (.ListComp elt [⟨.Name x px, iter, ifs, 0⟩] scope pos) spos) F.env) (asgM y (compM mi (inL scope) x tests em)) := RA.mk fun keep σ s Q E R hm => by
  rw [exec_Assign_Name_used _ _ _ _ hsw]
  refine wpAny_bind (wpAny_standAt (wpAny_bind ?_))
  show wpAny _ A (do let _ ← comprehension (.ListComp elt [⟨.Name x px, iter, ifs, 0⟩] scope pos) scope F.env _ (newList []) false (eval iter F.env) (some (assign (.Name y py) F.env))) _ _ s
  refine wpAny_bind (wpAny_mono (wpAny_comprehension_free (use := some (assign (.Name y py) F.env)) (Q := fun _ s' => ∃ σ', FR G keep F σ' s' ∧ Q .next σ') rfl hs (R.closure hok) (compOk_kind hok)
    (fun y hy e => by have := (compOk_free hok (x := y.1) (k := y.2) hy).1; rw [e] at this; exact this) ?_) (fun _ s' hq => wpAny_pure (wpAny_pure hq)) fun _ _ e => e)
  refine wpAny_mono (hi.run keep σ s _ E R hm) (fun xv s₁ h₁ => wpAny_mono h₁ (fun it s₂ h₂ => ?_) fun _ _ e => e) fun _ _ e => e
  obtain ⟨t, o, σ₂, rfl, hT, P, R₂, hst, I, h0, hstep⟩ := h₂
  refine comp_core (Q := fun v σ' => Q .next (σ'.put y v)) (RR := fun acc C => compPost G.M A E (some (assign (.Name y py) F.env)) (fun _ s' => ∃ σ', FR G keep F σ' s' ∧ Q .next σ') acc C) hok hown ht he hT P R₂ hst I h0 hstep ?_
  rintro D C oC s' σ' R' P' ⟨m, hm⟩ hq
  show wpAny _ A (assign (.Name y py) F.env (.ref D)) _ _ _
  refine wpAny_mono ((assign_Name_R (A := A) hl hk).run _ _ s' (fun _ σ₃ => σ₃ = σ'.put y (.ref D)) _ R' rfl) (fun _ s₃ ⟨σ₃, R₃, h₃⟩ => ?_) fun _ _ e => e
  subst h₃
  exact ⟨m, (R'.hr.kept (C, oC) (.head _)).ns (R₃.hr.kept (C, oC) (.head _)) hm, fun h' hs' => ⟨_, R₃.turnEnd (t := s₃.toks) P' hs'.extBut, hq⟩⟩
end
end Mine
end
section
open PySem PySem.W PyProof.Rows PySem.Calls
set_option maxRecDepth 100000
namespace Mine
section
variable {G : Gnd} {A : Around} {F : Fd} {keep keep' : Keep} {σ : St} {s s' : Shared}
theorem FR.alloc' (R : FR G keep F σ s) {hp : Heap} {t : Nat} {ao : AObj} {a : Addr} (ha : s.heap.objs.size ≤ a) (hk : ∀ b o, s.heap.get? b = some o → hp.get? b = some o) (hr : RepA G.prog G.w hp a ao) :
    FR G keep F (σ.seth a ao) { s with heap := hp, toks := t } :=
  (R.ext' (t := t) hk).adopt (R.apartNew ha) (Nat.ne_of_gt (Nat.lt_of_lt_of_le R.locals_lt ha)) hr
theorem FR.none_new (R : FR G keep F σ s) {a : Addr} (ha : s.heap.objs.size ≤ a) : σ.h a = none := R.hr.none_of_le ha
theorem FR.none_dead (R : FR G keep F σ s) {a : Addr} (ha : s.heap.get? a = none) : σ.h a = none := by
  cases q : σ.h a with
  | none => rfl
  | some ao =>
    obtain ⟨o, h⟩ := (R.hr.cell a ao q).live
    rw [ha] at h; cases h
theorem StackAt.dead {env : Env} {h : H} (R : HR G keep h s) (x : StackAt G keep env) {I : Addr} (hI : s.heap.get? I = none) : env.frame ≠ some I := by
  obtain ⟨hk, L, o, es, ep, hf, hm, hd, hl⟩ := x
  rw [hf]
  intro e
  cases e
  obtain ⟨_, this, _⟩ := R.kept _ hm
  rw [hI] at this; cases this
theorem FR.apartDead (R : FR G keep F σ s) {I : Addr} (hI : s.heap.get? I = none) (hlo : G.h₀.objs.size ≤ I) : Apart G keep F I :=
  ⟨fun p hp e => (by obtain ⟨_, this, _⟩ := R.hr.kept p hp; rw [e, hI] at this; cases this), hlo, fun x ca e q => (by obtain ⟨v, ⟨o, ho, _⟩, _⟩ := R.cl x ca e; rw [q, hI] at ho; cases ho), fun env he => by
    rcases List.mem_cons.mp he with rfl | he
    · rcases R.top with ⟨e, _, hf⟩ | hs
      · rw [e, hf]
        intro q
        cases q
        obtain ⟨m, ⟨oL, es, ep, hL, _⟩, _⟩ := R.ns
        rw [hI] at hL; cases hL
      · exact hs.dead R.hr hI
    · exact (R.stk env he).dead R.hr hI⟩
theorem FR.allocDead (R : FR G keep F σ s) {hp : Heap} {t : Nat} {ao : AObj} {a : Addr} (ha : s.heap.get? a = none) (hlo : G.h₀.objs.size ≤ a) (hk : ∀ b o, s.heap.get? b = some o → hp.get? b = some o) (hr : RepA G.prog G.w hp a ao) :
    FR G keep F (σ.seth a ao) { s with heap := hp, toks := t } :=
  (R.ext' (t := t) hk).adopt (R.apartDead ha hlo) (fun e => by obtain ⟨m, ⟨oL, es, ep, hL, _⟩, _⟩ := R.ns; rw [← e, ha] at hL; cases hL) hr
theorem FR.size_dead (R : FR G keep F σ s) {h' : Heap} (hk : ∀ b o, s.heap.get? b = some o → h'.get? b = some o) : s.heap.get? h'.objs.size = none ∧ G.h₀.objs.size ≤ h'.objs.size := by
  refine ⟨?_, ?_⟩
  · cases q : s.heap.get? h'.objs.size with
    | none => rfl
    | some o => exact absurd (Heap.lt_size (hk _ _ q)) (Nat.lt_irrefl _)
  · obtain ⟨m, ⟨oL, es, ep, hL, _⟩, _⟩ := R.ns
    exact Nat.le_trans R.lb (Nat.le_of_lt (Heap.lt_size (hk _ _ hL)))
noncomputable def newM (ao : AObj) : Sm Value := fun Q σ => ∀ D, σ.h D = none → Q (.ref D) (σ.seth D ao)
noncomputable def listM (m : Sm (List Value)) : Sm Value := fun Q σ => m (fun vs σ₁ => vs.length ≤ 1000000 ∧ newM (.list vs) Q σ₁) σ
theorem R_List {es : List Expr} {pos : Pos} {m : Sm (List Value)} (h : RSp G A F pos es m) : RV G A F (eval (.List es pos) F.env) (listM m) := RA.mk fun keep σ s Q E R hm =>
  wpAny_List (wpAny_mono (h.run keep σ s _ E R hm) (fun vs s₁ ⟨σ₁, R₁, hl, hq⟩ => ⟨by rw [List.length_map] at hl; simp only [sizeLine]; omega,
    _, R₁.alloc' (t := s₁.toks) (Nat.le_refl _) (fun b o e => Heap.get?_push_of_some _ e) (ao := .list (vs.map er)) ⟨_, ⟨_, Heap.get?_push_size _ rfl⟩, rfl⟩, hq _ (R₁.none_new (Nat.le_refl _))⟩) fun _ _ e => e)
noncomputable def dictM : Sm Value := fun Q σ => (∀ ep, newM (.sd [] ep) Q σ) ∨ (newM (.idt []) Q σ)
theorem R_Dict {pos : Pos} : RV G A F (eval (.Dict [] [] pos) F.env) dictM := RA.mk fun keep σ s Q E R hm => by
  refine wpAny_Dict_empty ?_
  have hk : ∀ b o, s.heap.get? b = some o → (s.heap.push { cls := .type "dict", data := .dict #[] }).get? b = some o := fun b o e => Heap.get?_push_of_some _ e
  rcases hm with hm | hm
  · obtain ⟨ep, hd⟩ := (Heap.DictOf.new (knd := strKind G.prog G.w) s.heap).dictAt
    exact ⟨_, R.alloc' (t := s.toks) (Nat.le_refl _) hk (ao := .sd [] ep) ⟨[], hd, rfl⟩, hm ep _ (R.none_new (Nat.le_refl _))⟩
  · exact ⟨_, R.alloc' (t := s.toks) (Nat.le_refl _) hk (ao := .idt []) ⟨[], Heap.DictOf.new s.heap, rfl⟩, hm _ (R.none_new (Nat.le_refl _))⟩
noncomputable def intOf : Value → Int
  | .int i _ => i
  | _ => 0
noncomputable def isInt : Value → Bool
  | .int _ _ => true
  | _ => false
noncomputable def sumM (vs : List Value) : Sm Value := fun Q σ => match vs with
  | [.ref a] => match σ.h a with
    | some (.ro xs) => xs.all isInt = true ∧ Q (.int (xs.map intOf).sum 0) σ
    | _ => False
  | _ => False
theorem intsAre_of : ∀ {vs : List Value}, (vs.map er).all isInt = true → IntsAre vs ((vs.map er).map intOf)
  | [], _ => .nil
  | v :: vs, h => by
    rw [List.map_cons, List.all_cons, Bool.and_eq_true] at h
    cases v <;> simp only [er, isInt, Bool.false_eq_true, false_and] at h
    exact .cons _ _ (intsAre_of h.2)
theorem sum_R (hA : A.handled = none) (vs : List Value) : RV G A F (call (.builtin "sum") vs) (sumM (vs.map er)) := by
  refine RA.mk fun keep σ s Q E R hm => ?_
  unfold sumM at hm
  split at hm
  · rename_i a e
    obtain ⟨u, rfl, hu⟩ := map_one e
    have hu := er_ref hu
    subst hu
    split at hm
    · rename_i xs h1
      obtain ⟨items, hp, hi⟩ := R.hr.cell a _ h1
      obtain ⟨hall, hq⟩ := hm
      subst hi
      have hI := intsAre_of hall
      obtain ⟨ys, hys⟩ := hI.allInts.items
      have hys : items = intItems ys := hys
      subst hys
      refine sum_intListG hA hp fun h' tk t' hk => ⟨σ, R.ext' hk, ?_⟩
      show Q (.int _ 0) σ
      have e2 := hI.numsOf
      rw [nums_intItems] at e2
      rw [preSum_eq, List.take_of_length_le (by simp), e2]
      exact hq
    · exact hm.elim
  · exact hm.elim
noncomputable def setM (vs : List Value) : Sm Value := fun Q σ => match vs with
  | [] => newM (.ss []) Q σ
  | _ => False
theorem set_R (vs : List Value) : RV G A F (call (.type "set") vs) (setM (vs.map er)) := by
  refine RA.mk fun keep σ s Q E R hm => ?_
  unfold setM at hm
  split at hm
  · rename_i e
    obtain rfl := List.map_eq_nil_iff.mp e
    refine call_set_0 fun led => ⟨_, R.alloc' (t := s.toks) (Nat.le_refl _) (fun b o e => Heap.get?_push_of_some _ e) (ao := .ss []) ?_, hm _ (R.none_new (Nat.le_refl _))⟩
    refine ⟨_, #[], 0, .fresh 0 0 led, Heap.get?_push_size _ rfl, ⟨rfl, rfl, rfl⟩, rfl, fun e he => by simp at he, fun k => by simp, by decide, by cases led <;> rfl, rfl⟩
  · exact hm.elim
noncomputable def tupleM (vs : List Value) : Sm Value := fun Q σ => match vs with
  | [.ref a] => match σ.h a with
    | some (.list xs) => xs.length ≤ 1000000 ∧ newM (.tup xs) Q σ
    | _ => False
  | _ => False
theorem tuple_R (vs : List Value) : RV G A F (call (.type "tuple") vs) (tupleM (vs.map er)) := by
  refine RA.mk fun keep σ s Q E R hm => ?_
  unfold tupleM at hm
  split at hm
  · rename_i a e
    obtain ⟨u, rfl, hu⟩ := map_one e
    have hu := er_ref hu
    subst hu
    split at hm
    · rename_i xs h1
      obtain ⟨items, hp, hi⟩ := R.hr.cell a _ h1
      obtain ⟨hl, hq⟩ := hm
      have hsz := toList_eq hi
      refine call_tuple_list hp.isList (fun h' hk => ?_) (by simp only [sizeLine]; omega)
      obtain ⟨hd, hlo⟩ := R.size_dead hk
      exact ⟨_, R.allocDead (t := s.toks) hd hlo (fun b o e => Heap.get?_push_of_some _ (hk b o e)) (ao := .tup xs) ⟨items, ⟨_, Heap.get?_push_size _ rfl, rfl, _, rfl⟩, hi⟩, hq _ (R.none_dead hd)⟩
    · exact hm.elim
  · exact hm.elim
noncomputable def toListM (vs : List Value) : Sm Value := fun Q σ => match vs with
  | [.ref a] => match σ.h a with
    | some (.tup xs) => xs.length ≤ 1000000 ∧ newM (.list xs) Q σ
    | _ => False
  | _ => False
noncomputable def minmaxM (big : Bool) (vs : List Value) : Sm Value := fun Q σ => match vs with
  | [.int a _, .int b _] => Q (.int (if big then max a b else min a b) 0) σ
  | _ => False
noncomputable def strVs (ys : List Str) : List Value := ys.map fun y => .str y 0
noncomputable def splitM (o : Value) (vs : List Value) : Sm Value := fun Q σ => match o, vs with
  | .str x _, [.str y _] => (y.length == 0) = false ∧ x.length ≤ 1000000 ∧ newM (.list (strVs (Txt.split x y))) Q σ
  | _, _ => False
end
end Mine
end
section
open PySem PySem.W PyProof.Rows PySem.Calls
set_option maxRecDepth 100000
namespace Mine
section
variable {G : Gnd} {A : Around} {F : Fd} {keep keep' : Keep} {σ : St} {s s' : Shared}
noncomputable def sortedM (vs : List Value) : Sm Value := fun Q σ => match vs with
  | [.ref a] => match σ.h a with
    | some (.list xs) => ∃ ss, strsOf xs = some ss ∧ xs.length < 64 ∧ ∀ ss', ss'.Perm ss → sortedS ss' = true → newM (.list (strVs ss')) Q σ
    | some (.tup xs) => ∃ ss, strsOf xs = some ss ∧ xs.length < 64 ∧ ∀ ss', ss'.Perm ss → sortedS ss' = true → newM (.list (strVs ss')) Q σ
    | _ => False
  | _ => False
noncomputable def boolOfM (vs : List Value) : Sm Value := fun Q σ => match vs with
  | [.ref a] => match σ.h a with
    | some (.list xs) => xs.length ≤ 1000000 ∧ Q (.bool (xs.length != 0)) σ
    | _ => False
  | _ => False
theorem call_bool_listAt {prog : Program} {w : World} {E : Value → Shared → Prop} {a : Addr} {items : Array Value} {Q : Value → Shared → Prop} (hl : s.heap.IsList a items) (hsz : (items.size : Int) < 2 ^ 63) (h : Q (.bool (!items.isEmpty)) { s with toks := s.toks + 1 + 1 }) : wpAny (model prog w) A (call (.type "bool") [.ref a]) Q E s := by
  refine call_bool_1 (S := fun A R s => s.heap.IsList a items ∧ R (.ok (.ret (.bool (!items.isEmpty)))) { s with toks := s.toks + 1 + 1 }) (.of_wp fun prog w A R s hs => ?_) ⟨hl, ?_⟩
  · obtain ⟨hp, g, d, tk, os⟩ := s
    have f1 := PySem.F.conv_sub_bool
    obtain ⟨h1, h2⟩ := hs
    repeat (any_goals (first | assumption | with_reducible refine wpAny_truthy_list h1 hsz ?_ | wp_step))
    all_goals first | exact ⟨_, rfl, h2⟩ | skip
  · first | exact ⟨rfl, h⟩ | exact h
theorem boolOf_R (vs : List Value) : RV G A F (call (.type "bool") vs) (boolOfM (vs.map er)) := by
  refine RA.mk fun keep σ s Q E R hm => ?_
  unfold boolOfM at hm
  split at hm
  · rename_i a e
    obtain ⟨u, rfl, hu⟩ := map_one e
    have hu := er_ref hu
    subst hu
    split at hm
    · rename_i xs h1
      obtain ⟨items, hp, hi⟩ := R.hr.cell a _ h1
      obtain ⟨hl, hq⟩ := hm
      have hsz := toList_eq hi
      refine call_bool_listAt hp.isList (by omega) ⟨σ, R.toks _, ?_⟩
      have : (!items.isEmpty) = (xs.length != 0) := by
        rw [← hsz]; cases items with | mk l => cases l <;> rfl
      rw [this]; exact hq
    · exact hm.elim
  · exact hm.elim
end
end Mine
end
section
open PySem PySem.W PyProof.Rows PySem.Calls
set_option maxRecDepth 100000
set_option maxHeartbeats 2000000
namespace Mine
theorem iter_R {G : Gnd} {A : Around} {F : Fd} {keep : Keep} {σ : St} {s : Shared} {E : Value → Shared → Prop} {a : Addr} {items : Array Value} {Q : Value → Shared → Prop} (hl : s.heap.IsList a items)
    (h : Q (.ref s.heap.objs.size) { s with heap := s.heap.push { cls := .type "list_iterator", data := .fields #[.ref a, .int 0 0] } }) : wpAny G.M A (call (.builtin "iter") [.ref a]) Q E s := by
  refine call_function_entry (by decide +kernel) (by decide +kernel) kdk_entry_iter (kdk_args_iter _) ?_
  unfold Builtin.«iter»
  refine wpAny_bind (m := someArgs "iter" 1 2 _) (wpAny_of_eq (a := [Value.ref a]) (by first | rfl | kernel_rfl!) ?_)
  show wpAny _ _ (pyIter (.ref a) >>= _) _ _ _
  exact wpAny_bind (wpAny_pyIter_list hl (wpAny_pure ⟨_, rfl, h⟩))
theorem li_getattr : typeLookup (.type "list_iterator") "__getattr__" = pure none := by rw [typeLookup_type, builtinLookup_eq_fast]; kernel_rfl
theorem li_ga : Slot "list_iterator" "__getattribute__" "object.__getattribute__" :=
  .of (owner := "object") (n := "__getattribute__") (by rw [typeLookup_type, builtinLookup_eq_fast]; kernel_rfl) (by decide +kernel) (by decide +kernel) (by decide +kernel)
    (by first | exact .inl (by decide +kernel) | exact .inr (by decide +kernel)) (by rw [isSubtype_type]; kernel_rfl)
theorem li_next : typeLookup (.type "list_iterator") "__next__" = pure (some (.builtin "list_iterator.__next__")) := by rw [typeLookup_type, builtinLookup_eq_fast]; kernel_rfl
theorem li_next_type : typeOf (.builtin "list_iterator.__next__") = pure (.type "wrapper_descriptor") := by show builtinType _ = _; rw [builtinType_eq_fast]; kernel_rfl
theorem wd_get : Slot "wrapper_descriptor" "__get__" "wrapper_descriptor.__get__" :=
  .of (owner := "wrapper_descriptor") (n := "__get__") (by rw [typeLookup_type, builtinLookup_eq_fast]; kernel_rfl) (by decide +kernel) (by decide +kernel) (by decide +kernel)
    (by first | exact .inl (by decide +kernel) | exact .inr (by decide +kernel)) (by rw [isSubtype_type]; kernel_rfl)
theorem wd_entry : entryFor table "wrapper_descriptor.__get__" = some Builtin.«wrapper_descriptor.__get__» := entryFor_of_tree (by kernel_rfl)
theorem wd_args (a b c : Value) : argsOk "wrapper_descriptor.__get__" ⟨[a, b, c], []⟩ := by unfold argsOk; kernel_rfl
theorem wd_set : typeLookup (.type "wrapper_descriptor") "__set__" = pure none := by rw [typeLookup_type, builtinLookup_eq_fast]; kernel_rfl
theorem wd_delete : typeLookup (.type "wrapper_descriptor") "__delete__" = pure none := by rw [typeLookup_type, builtinLookup_eq_fast]; kernel_rfl
theorem li_sub : isSubtype (.type "list_iterator") (.type "list_iterator") = pure true := by rw [isSubtype_type]; kernel_rfl
theorem li_ga_entry : entryFor table "object.__getattribute__" = some Builtin.«object.__getattribute__» := entryFor_of_tree (by kernel_rfl)
noncomputable abbrev mwObj (it : Addr) : Obj := { cls := .type "method-wrapper", data := .fields #[.builtin "list_iterator.__next__", .ref it] }
section
variable {M : Model} {A : Around} {E : Value → Shared → Prop} {s : Shared} {it : Addr}
theorem wd_run {P : Fin → Shared → Prop} (hT : s.TypeIs (.ref it) "list_iterator") (h : P (.done (.ret (.ref s.heap.objs.size))) { s with heap := s.heap.push (mwObj it) }) :
    wpAny M A (Builtin.«wrapper_descriptor.__get__» ⟨[.builtin "list_iterator.__next__", .ref it, .type "list_iterator"], []⟩) P E s := by
  unfold Builtin.«wrapper_descriptor.__get__»
  refine wpAny_bind (wpAny_of_eq (a := (.builtin "list_iterator.__next__", some (.ref it), some (.type "list_iterator"))) (by first | rfl | kernel_rfl) ?_)
  dsimp only
  refine wpAny_bind ?_
  refine wpAny_bind (wpAny_of_eq (a := (Str.ofString "__next__", .type "list_iterator")) (by first | rfl | kernel_rfl) ?_)
  dsimp only
  refine wpAny_bind (wpAny_isInstance hT li_sub ?_)
  simp only [Bool.not_true, Bool.false_eq_true, if_false]
  exact wpAny_pure (wpAny_bind (wpAny_newObj_type (wpAny_pure h)))
theorem meets_ga (it : Addr) (o : Obj) (u : Tok) (hc : o.cls = .type "list_iterator") (hd : o.dict = none) (hdat : ∃ vs, o.data = .fields vs) :
    Meets (Builtin.«object.__getattribute__» ⟨[.ref it, .str "__next__" u], []⟩) (fun A R s => s.heap.get? it = some o ∧ R (.ok (.ret (.ref s.heap.objs.size))) { s with heap := s.heap.push (mwObj it) }) :=
  Meets.of_wp fun prog w A R s hs => by
    obtain ⟨hp, g, d, tk, os⟩ := s
    obtain ⟨hx, hs⟩ := hs
    obtain ⟨c, dct, dat, sl⟩ := o
    obtain ⟨vs, hdat⟩ := hdat
    simp only at hc hd hdat
    subst hc hd hdat
    have hT : (⟨hp, g, d, tk, os⟩ : Shared).TypeIs (.ref it) "list_iterator" := ⟨_, hx, rfl⟩
    have f1 := li_next
    have f2 := li_next_type
    have f3 := wd_set
    have f4 := wd_delete
    have f5 := wd_get.lookup
    have f6 := wd_get.bind (.builtin "list_iterator.__next__")
    unfold Builtin.«object.__getattribute__»
    repeat (any_goals (first | assumption | ((with_reducible show wpAny _ _ (call (Value.builtin "wrapper_descriptor.__get__") _ _) _ _ _); refine wpAny_call_entry wd_get li_next_type wd_entry (wd_run ‹_› ⟨_, rfl, ?_⟩) (wd_args _ _ _)) | wp_step))
    exact ⟨_, rfl, hs⟩
theorem getAttr_next {prog : Program} {w : World} {o : Obj} {Q : Value → Shared → Prop} (hx : s.heap.get? it = some o) (hc : o.cls = .type "list_iterator") (hd : o.dict = none) (hdat : ∃ vs, o.data = .fields vs)
    (h : Q (.ref s.heap.objs.size) { s with heap := s.heap.push (mwObj it), toks := s.toks + 1 }) : wpAny (model prog w) A (getAttr (.ref it) "__next__" true) Q E s := by
  obtain ⟨c, dct, dat, sl⟩ := o
  obtain ⟨vs, hdat⟩ := hdat
  simp only at hc hd hdat
  subst hc hd hdat
  obtain ⟨hp, g, d, tk, os⟩ := s
  have hT : ∀ tk', (⟨hp, g, d, tk', os⟩ : Shared).TypeIs (.ref it) "list_iterator" := fun _ => ⟨_, hx, rfl⟩
  have f3 := li_ga.lookup
  have f4 := li_ga.bind (.ref it)
  have f5 := li_getattr
  unfold getAttr getAttrBy
  repeat (any_goals (first | assumption | exact hT _ | ((with_reducible show wpAny _ _ (call (Value.builtin "object.__getattribute__") _ _) _ _ _); refine call_meets li_ga (hT _) li_ga_entry (PySem.F.args_object_getattribute_2 _ _) (meets_ga it _ _ rfl rfl ⟨_, rfl⟩) ⟨hx, ?_⟩) | wp_step))
  all_goals (show wpAny _ _ (handedOut _) _ _ _; exact wpAny_pure h)
end
end Mine
end
section
open PySem PySem.W PyProof.Rows PySem.Calls
set_option maxRecDepth 100000
set_option maxHeartbeats 2000000
namespace Mine
section
variable {G : Gnd} {A : Around} {F : Fd} {keep keep' : Keep} {σ : St} {s s' : Shared}
noncomputable def initS (C : Addr) (S : Spec) : Spec := fun args Q h => ∀ x dx, h x = none → h dx = none → dx ≠ x → S (.ref x :: args) (fun v h' => v = .none ∧ Q (.ref x) h') (H.set (H.set h dx (.nd [])) x (.inst C dx []))
theorem callOK_class {n : Nat} {C fI : Addr} {S : Spec} (hm : makesIn G.K C = true) (hi : findIn G.K (.ref C) "__init__" = some (some (.ref fI))) (hf : typeIn G.K (.ref fI) = some (.type "function")) (hS : CallOK G n (.ref fI) S) :
    CallOK G (n + 1) (.ref C) (initS C S) := by
  intro A outer keep h s args Q hroom hon hr hs
  obtain ⟨hp, g, d, t, os⟩ := s
  refine make_core (makes_of hr.X hm) (looks_findIn hr.X hi) (fun self => bind_fn hr.X self hf) (.inl rfl) ?_
  have e1 : (hp.push emptyDict).objs.size = hp.objs.size + 1 := Heap.size_push ..
  have h1 := hr.alloc (hp := hp.push emptyDict) (t := t) (ao := .nd []) (a := hp.objs.size) (Nat.le_refl _) (fun b o e => Heap.get?_push_of_some _ e) (push_le _ _) ⟨[], 0, Heap.get?_push_size _ rfl, trivial⟩
  have h2 := h1.alloc (hp := (hp.push emptyDict).push (instObj C hp.objs.size)) (t := t) (ao := .inst C hp.objs.size []) (a := hp.objs.size + 1) (by show (hp.push emptyDict).objs.size ≤ _; rw [e1]; exact Nat.le_refl _) (fun b o e => Heap.get?_push_of_some _ e) (push_le _ _)
    ⟨#[], by rw [← e1]; exact Heap.get?_push_size _ rfl, rfl⟩
  have hs' := hs (hp.objs.size + 1) hp.objs.size (hr.none_of_le (Nat.le_succ _)) (hr.none_of_le (Nat.le_refl _)) (Nat.ne_of_lt (Nat.lt_succ_self _))
  have hA : Room n (A.under (.builtin "type.__call__" ⟨.ref C :: args, []⟩)) := by
    have h1 := hroom.depth
    have h2 := hroom.units
    refine ⟨?_, ?_, hroom.handled⟩
    · show A.depth + (Code.builtin "type.__call__" ⟨.ref C :: args, []⟩).weight + n < _
      have : (Code.builtin "type.__call__" ⟨.ref C :: args, []⟩).weight = 1 := by rfl
      rw [this]; omega
    · show A.units + (Code.builtin "type.__call__" ⟨.ref C :: args, []⟩).cUnits + 20 * n + 20 < _
      have : (Code.builtin "type.__call__" ⟨.ref C :: args, []⟩).cUnits ≤ 20 := by first | exact Nat.le_refl 20 | (show (1 : Nat) ≤ 20; decide) | (show (2 : Nat) ≤ 20; decide) | (show (3 : Nat) ≤ 20; decide) | (show (0 : Nat) ≤ 20; decide)
      omega
  have hon' : Around.On (A.under (.builtin "type.__call__" ⟨.ref C :: args, []⟩)) G keep outer := ⟨by
    show pushEnvs (Code.builtin "type.__call__" ⟨.ref C :: args, []⟩).envs A.frames = _
    have : (Code.builtin "type.__call__" ⟨.ref C :: args, []⟩).envs = [] := rfl
    rw [this]; exact hon.1, hon.2⟩
  refine codeAny_mono (hS _ outer keep _ _ (.ref (hp.objs.size + 1) :: args) _ hA hon' h2 hs') fun r s' ⟨v, h', e, R', hv, hq⟩ => ?_
  subst e
  exact ⟨er_none hv, _, h', rfl, R', hq⟩
theorem D_method {C f : Addr} {name : Str} {S : Spec} {n k : Nat} {o : Expr} {apos pos : Pos} {args : List Expr} {a : Sm Value} {m : Sm (List Value)} (hA : A.frames = some (F.fenv :: F.outer)) (hr : Room k A) (hst : methOk G.K C name f = true) (hkp : keepIn G.K (.ref f) = true) (hS : CallOK G n (.ref f) S) (hn : n ≤ k)
    (hb : ∀ w, attributeBase o name F.env w = w) (hline : (apos.endLine == pos.line) = true) (hfew : methodCallForm (args.length + 0) (backTo pos (starEach args F.env)) [] = true)
    (h0 : RV G A F (eval o F.env) a) (h1 : RArg G A F pos args m) : RV G A F (eval (.Call (.Attribute o name apos) args [] pos) F.env) (methM (isInstP C name) a m fun o vs => callM S (o :: vs)) :=
  R_Meth hb hline hfew (looked_inst hst) (keeps_K' hkp) h0 h1 fun ov vs => call_R hA hr hS hn (ov :: vs)
noncomputable def boundOk (K : Frag) (C : Addr) (name : Str) (f : Addr) : Bool :=
  plainGet K C name && hasDictIn K C && (findIn K (.ref C) name == some (some (.ref f))) && isFn K (.ref f) && (specialIn K (.ref f) "__get__" == some (some (.builtin "function.__get__"))) && (takesIn K (.ref f) == some false) && !copiedNames.contains name && fnIn K f
theorem D_methodStar {C f : Addr} {name : Str} {S : Spec} {n k : Nat} {o : Expr} {apos pos : Pos} {args : List Expr} {a : Sm Value} {m : Sm (List Value)} (hA : A.frames = some (F.fenv :: F.outer)) (hr : Room k A) (hst : boundOk G.K C name f = true) (hS : CallOK G n (.ref f) S) (hn : n ≤ k)
    (hb : ∀ w, attributeBase o name F.env w = w) (hline : (apos.endLine == pos.line) = true) (hfew : methodCallForm (args.length + 0) (backTo pos (starEach args F.env)) [] = false) (hany : (backTo pos (starEach args F.env)).any (·.1) = true)
    (h0 : RV G A F (eval o F.env) a) (h1 : RArg G A F pos args m) : RV G A F (eval (.Call (.Attribute o name apos) args [] pos) F.env) (methM (isInstP C name) a m fun o vs => callM S (o :: vs)) := by
  rw [eval_CallAttr hb hline]
  refine RA.mk fun keep σ s Q E R hm => ?_
  refine wpAny_bind (wpAny_mono (h0.run keep σ s _ E R hm) (fun ov s₁ ⟨σ₁, R₁, hp, hq⟩ => wpAny_bind (wpAny_standAt (wpAny_bind (wpAny_holding ?_)))) fun _ _ e => e)
  rw [hfew]
  show wpAny _ _ (getAttr ov name true >>= fun v => pure (v, [])) _ _ _
  unfold isInstP at hp
  split at hp
  · rename_i x e
    have e := er_ref e
    subst e
    split at hp
    · rename_i C' dx sl hx
      obtain ⟨rfl, hp⟩ := hp
      split at hp
      · rename_i fs hdx
        obtain ⟨sl', es, en, e1, z1, e2, z2, I⟩ := instAt R₁ hx hdx
        obtain ⟨mm, hns, hmm⟩ := R₁.ns
        unfold boundOk at hst
        simp only [Bool.and_eq_true, beq_iff_eq, Bool.not_eq_true'] at hst
        obtain ⟨⟨⟨⟨⟨⟨⟨t1, t2⟩, t3⟩, t4⟩, t5⟩, t6⟩, t7⟩, t8⟩ := hst
        refine wpAny_bind (kbm_bound (R₁.fr hns) G.X R₁.news I t1 t2 t3 t4 t5 t6 t7 (ndIs_none z2 hp) fun q h' F' N' hq' => wpAny_pure ?_)
        have R₂ := R₁.backExt (t := s₁.toks + 1) (extra := [(q, methodObj (.ref f) (.ref x))]) hmm F' N'
        have hqn := N' (q, methodObj (.ref f) (.ref x)) (.head _)
        have hdead : s₁.heap.get? q = none := by
          cases z : s₁.heap.get? q with
          | none => rfl
          | some o => exact absurd (hq' (q, o) (mem_allObjs.mpr ⟨by unfold othersP; simp [hqn.2.1, hqn.2.2], z⟩)) (Nat.lt_irrefl _)
        have hlo : G.h₀.objs.size ≤ q := by
          obtain ⟨o, ho⟩ := (R₁.hr.cell x _ hx).live
          exact Nat.le_trans (R₁.hr.fresh x _ hx rfl) (Nat.le_of_lt (hq' (x, o) (R₁.in_others hx rfl ho)))
        have P := R₁.apartDead hdead hlo
        have R₃ := R₂.layOld P hqn.2.1 hqn.1 (R₁.none_dead hdead)
        refine ks_call (P := fun h => MethP G.K q f (.ref x) h) hany (keeps_M t8) ?_
        refine wpAny_mono (h1.run (.ref q) ((q, methodObj (.ref f) (.ref x)) :: keep) σ₁ _ _ E R₃ hq) (fun vs s₄ ⟨hkw, σ₄, R₄, hq⟩ => ⟨⟨(R₄.hr.kept (q, _) (.head _)).get rfl, R₄.X⟩, ?_⟩) fun _ _ e => e
        rw [hkw]
        show wpAny _ _ (call (.ref q) ([] ++ vs.pos)) _ _ _
        refine wpAny_call (method_call ((R₄.hr.kept (q, _) (.head _)).get rfl) (codeAny_mono (hS A _ _ σ₄.h s₄ (.ref x :: vs.pos) _ (hr.le hn) (R₄.on hA) R₄.aside hq) fun r s' ⟨v, h', e, R', hq⟩ => ?_))
        subst e
        exact ⟨_, (R₄.again R').drop P, hq⟩
      · exact hp.elim
    · exact hp.elim
  · exact hp.elim
end
end Mine
end
section
open PySem PySem.W PyProof.Rows PySem.Calls
set_option maxRecDepth 100000
set_option maxHeartbeats 2000000
namespace Mine
section
variable {G : Gnd} {A : Around} {F : Fd} {keep keep' : Keep} {σ : St} {s s' : Shared}
noncomputable def stTwoM (a b v : Sm Value) (y : Str) : Sm Flow := fun Q σ => v (fun v σ₁ => a (fun o σ₂ => b (fun i σ₃ => setItemM o i v (fun _ σ₄ => Q .next (σ₄.put y v)) σ₃) σ₂) σ₁) σ
theorem R_Assign_Two {o i : Expr} {value : Expr} {pos p py : Pos} {y : Str} {a b v : Sm Value} (hw : swappedStores [.Subscript o i p, .Name y py] value F.env = pure none) (hl : ownKind F y = true) (hk : F.env.scope.kind = .function)
    (h1 : RV G A F (eval o F.env) a) (h2 : RV G A F (eval i F.env) b) (h3 : RV G A F (eval value F.env) v) :
    RF G A F (exec (.Assign [.Subscript o i p, .Name y py] value pos) F.env) (stTwoM a b v y) := RA.mk fun keep σ s Q E R hm => by
  refine wpAny_Assign_two (wpAny_mono (h3.run keep σ s _ E R hm) (fun v s₁ ⟨σ₁, R₁, hq⟩ => ?_) fun _ _ e => e) rfl hw
  show wpAny _ _ (assign (.Subscript o i p) F.env v) _ _ _
  rw [assign_Sub]
  refine wpAny_bind (wpAny_holding (wpAny_mono (h1.run keep σ₁ s₁ _ E R₁ hq) (fun ov s₂ ⟨σ₂, R₂, hq⟩ => ?_) fun _ _ e => e))
  refine wpAny_bind (wpAny_holding (wpAny_mono (h2.run keep σ₂ s₂ _ E R₂ hq) (fun iv s₃ ⟨σ₃, R₃, hq⟩ => wpAny_bind (wpAny_standAt (wpAny_bind (wpAny_holding ?_)))) fun _ _ e => e))
  refine wpAny_mono ((setItem_R ov iv v).run keep σ₃ s₃ (fun _ σ₄ => Q .next (σ₄.put y (er v))) E R₃ hq) (fun _ s₄ ⟨σ₄, R₄, hq⟩ => release_wp ?_) fun _ _ e => e
  exact wpAny_mono ((assign_Name_R hl hk).run keep σ₄ s₄ (fun _ => Q .next) E R₄ hq) (fun _ s₅ h => h) fun _ _ e => e
noncomputable def iterM (vs : List Value) : Sm Value := fun Q σ => match vs with
  | [.ref a] => match σ.h a with
    | some (.list _) => newM (.lit a 0) Q σ
    | _ => False
  | _ => False
theorem iterB_R (vs : List Value) : RV G A F (call (.builtin "iter") vs) (iterM (vs.map er)) := by
  refine RA.mk fun keep σ s Q E R hm => ?_
  unfold iterM at hm
  split at hm
  · rename_i a e
    obtain ⟨u, rfl, hu⟩ := map_one e
    have hu := er_ref hu
    subst hu
    split at hm
    · rename_i xs h1
      obtain ⟨items, hp, hi⟩ := R.hr.cell a _ h1
      exact iter_R (F := F) (keep := keep) (σ := σ) hp.isList ⟨_, R.alloc' (t := s.toks) (Nat.le_refl _) (fun b o e => Heap.get?_push_of_some _ e) (ao := .lit a 0) (Heap.get?_push_size _ rfl), hm _ (R.none_new (Nat.le_refl _))⟩
    · exact hm.elim
  · exact hm.elim
noncomputable def nextAttrM (o : Value) : Sm Value := fun Q σ => match o with
  | .ref it => match σ.h it with
    | some (.lit _ _) => newM (.mw it) Q σ
    | _ => False
  | _ => False
theorem nextAttr_R (o : Value) : RV G A F (getAttr o "__next__" true) (nextAttrM (er o)) := by
  refine RA.mk fun keep σ s Q E R hm => ?_
  unfold nextAttrM at hm
  split at hm
  · rename_i it e
    have e := er_ref e
    subst e
    split at hm
    · rename_i l i h1
      have ho : s.heap.get? it = some (litObj l i) := R.hr.cell it _ h1
      exact getAttr_next ho rfl rfl ⟨_, rfl⟩ ⟨_, R.alloc' (t := s.toks + 1) (Nat.le_refl _) (fun b o e => Heap.get?_push_of_some _ e) (ao := .mw it) (Heap.get?_push_size _ rfl), hm _ (R.none_new (Nat.le_refl _))⟩
    · exact hm.elim
  · exact hm.elim
end
section
variable {prog : Program} {w : World} {A : Around} {s : Shared}
theorem mw_check (it : Addr) : checkBoundCall "list_iterator.__next__" ⟨[.ref it], []⟩ = pure () := by kernel_rfl
theorem mw_call {R : Result → Shared → Prop} {mw it l : Addr} {i : Nat} {items : Array Value} (hh : A.handled = none) (hmw : s.heap.get? mw = some (mwObj it)) (hit : s.heap.get? it = some (litObj l i)) (hl : s.heap.IsList l items)
    (hitem : ∀ x, items[i]? = some x → ∀ h', h'.get? it = some (litObj l (i + 1)) → Heap.SameBut it s.heap h' → R (.ok (.ret x)) { s with heap := h' })
    (hend : items[i]? = none → ∀ h' e oe vs, Heap.ExtBut it s.heap h' → s.heap.objs.size ≤ e → h'.get? e = some oe → oe.cls = .type "StopIteration" → oe.data = .fields vs → vs[1]? = some .none → R (.error (.ref e)) { s with heap := h' }) :
    codeAny (model prog w) A (.call (.ref mw) ⟨[], []⟩) R s := by
  refine codeAny_of_tree ?_
  show wpAny _ _ (callAny (.ref mw) _) _ _ _
  refine nd_load hmw ?_
  show wpAny _ _ (checkBoundCall "list_iterator.__next__" ⟨[.ref it], []⟩ >>= fun _ => pure (Fin.again (.builtin "list_iterator.__next__" ⟨[.ref it], []⟩))) _ _ _
  rw [mw_check]
  refine wpAny_bind (wpAny_pure (wpAny_pure ⟨Code.quiet_builtin _ (by decide +kernel), ?_⟩))
  refine codeAny_builtin entry_listiter_next ?_
  have ho := hit
  have hd : (litObj l i).data = .fields #[.ref l, .int i 0] := rfl
  obtain ⟨ol, hol, _, nl, hdl⟩ := hl
  show wpAny _ _ (field (.ref it) 0 >>= _) _ _ s
  refine wpAny_bind (wpAny_field ho hd (x := .ref l) rfl ?_)
  show wpAny _ _ (if (Value.ref l == Value.none) = true then _ else _) _ _ s
  rw [if_neg (show ¬ ((Value.ref l == Value.none) = true) from Bool.false_ne_true)]
  show wpAny _ _ (field (.ref it) 1 >>= _) _ _ s
  refine wpAny_bind (wpAny_field ho hd (x := .int i 0) rfl ?_)
  show wpAny _ _ (seqItems? (.ref l) >>= _) _ _ s
  refine wpAny_bind (wpAny_seqItems hol hdl ?_)
  simp only [Int.toNat_natCast]
  cases hx : items[i]? with
  | some x =>
    refine wpAny_bind (wpAny_setField ho hd (by simp) (wpAny_pure (hitem x hx _ ?_ (Heap.SameBut.update ..))))
    exact Heap.get?_update_self _ ho (Obj.isFreed_of_fields (Obj.data_mapFields hd _))
  | none =>
    refine wpAny_bind (wpAny_rule (wpAny_bind (wpAny_setField ho hd (by simp) ?_)))
    show wpAny _ _ (newExc (.type "StopIteration") [] >>= _) _ _ _
    refine wpAny_bind ?_
    simp only [newExc, newTuple]
    refine wpAny_bind (wpAny_newObj_type ?_ (by size_fits))
    refine wpAny_bind (m := firstArgMember _ _) (wpAny_of_eq (a := Value.none) (by first | rfl | (simp only [firstArgMember]; rfl)) ?_)
    refine wpAny_newObj_type ?_ (by size_fits)
    refine wpAny_raiseNew_none (by show A.handled = none; exact hh) ?_
    refine hend hx _ _ _ _ (((Heap.SameBut.update ..).extBut.push _).push _) ?_ (Heap.get?_push_size _ rfl) rfl rfl rfl
    simp
end
end Mine
end
section
open PySem PySem.W PyProof.Rows PySem.Calls
set_option maxRecDepth 100000
set_option maxHeartbeats 2000000
namespace Mine
section
variable {G : Gnd} {A : Around} {F : Fd} {keep keep' : Keep} {σ : St} {s s' : Shared}
theorem FR.framesAt (R : FR G keep F σ s) : ∀ b ∈ (F.fenv :: F.outer).filterMap (·.frame), G.h₀.objs.size ≤ b ∧ (b = F.env.locals ∨ ∃ o es ep, (b, o) ∈ keep ∧ o.data = .dict es ep) := by
  intro b hb
  obtain ⟨env, he, hf⟩ := List.mem_filterMap.mp hb
  have go : StackAt G keep env → G.h₀.objs.size ≤ b ∧ (b = F.env.locals ∨ ∃ o es ep, (b, o) ∈ keep ∧ o.data = .dict es ep) := by
    rintro ⟨_, L, o, es, ep, hf', hm, hd, hl⟩
    rw [hf] at hf'; cases hf'
    exact ⟨hl, .inr ⟨o, es, ep, hm, hd⟩⟩
  rcases List.mem_cons.mp he with rfl | he
  · rcases R.top with ⟨e, _, hf'⟩ | h
    · rw [e, hf'] at hf; cases hf
      exact ⟨R.lb, .inl rfl⟩
    · exact go h
  · exact go (R.stk env he)
theorem FR.slots (R : FR G keep F σ s) {h₁ : Heap} (hs : Heap.SlotsOnly ((F.fenv :: F.outer).filterMap (·.frame)) s.heap h₁) : FR G keep F σ { s with heap := h₁ } := by
  have hS := R.framesAt
  obtain ⟨m, ⟨oL, es, ep, hL, hLd, hk, hfm⟩, hm⟩ := R.ns
  obtain ⟨slL, hL'⟩ := hs.2.2 _ _ hL
  refine ⟨⟨fun b o e => ?_, by show _ ≤ h₁.objs.size; rw [hs.1]; exact R.hr.size, fun p hp => ?_, fun a ao e => (R.hr.cell a ao e).at fun o q => ?_, R.hr.apart, R.hr.fresh, R.hr.gens, R.hr.os⟩,
    ⟨m, ⟨_, es, ep, hL', hLd, hk, hfm⟩, hm⟩, fun x ca e => ?_, R.lk, R.lb, R.lh, R.lc, R.ck, R.cb, R.ch, R.ci, R.hasc, R.stk, R.top⟩
  · exact (hs.2.1 b fun hb => absurd (Heap.lt_size e) (Nat.not_lt.mpr (hS b hb).1)).trans (R.hr.base b o e)
  · by_cases hb : p.1 ∈ (F.fenv :: F.outer).filterMap (·.frame)
    · rcases (hS _ hb).2 with q | ⟨o', es', ep', hm', hd'⟩
      · exact absurd q (R.lk p hp)
      · obtain ⟨o₂, g₂, k₂⟩ := (R.hr.kept _ hm').dict hd'
        obtain ⟨o, g, k⟩ := R.hr.kept p hp
        rw [show s.heap.get? p.1 = some o₂ from g₂] at g; cases g
        obtain ⟨sl, g'⟩ := hs.2.2 _ _ g₂
        refine ⟨_, g', .inr ?_⟩
        rcases k with k | ⟨es3, ep3, k1, k2⟩
        · exact ⟨es', ep', by rw [← k]; exact k₂, k₂⟩
        · exact ⟨es3, ep3, k1, k2⟩
    · exact (R.hr.kept p hp).at fun o q => (hs.2.1 _ hb).trans q
  · refine (hs.2.1 a fun hb => ?_).trans q
    rcases (hS _ hb).2 with z | ⟨o', es', ep', hm', hd'⟩
    · rw [z, R.lh] at e; cases e
    · exact R.hr.apart a ao e _ hm' rfl
  · obtain ⟨v, ⟨o, ho, hd⟩, hq⟩ := R.cl x ca e
    obtain ⟨sl, g⟩ := hs.2.2 _ _ ho
    exact ⟨v, ⟨_, g, hd⟩, hq⟩
theorem FR.funFrames (R : FR G keep F σ s) : s.heap.FunFrames G.h₀ (F.fenv :: F.outer) := by
  have go : ∀ env, StackAt G keep env → env.scope.kind ≠ .module ∧ ∃ L o, env.frame = some L ∧ G.h₀.get? L = none ∧ s.heap.get? L = some o ∧ ∀ vs, o.data ≠ .fields vs := by
    rintro env ⟨hk, L, o, es, ep, hf, hm, hd, hl⟩
    obtain ⟨o₂, g, d⟩ := (R.hr.kept _ hm).dict hd
    exact ⟨hk, L, o₂, hf, Heap.get?_none_of_le hl, g, fun vs q => by rw [d] at q; cases q⟩
  have rest : ∀ l : List Env, (∀ env ∈ l, StackAt G keep env) → s.heap.FunFrames G.h₀ l := by
    intro l
    induction l with
    | nil => intro _; trivial
    | cons env l ih =>
      intro h
      obtain ⟨h1, h2⟩ := go env (h env (.head _))
      exact ⟨h1, h2, ih fun e he => h e (.tail _ he)⟩
  refine ⟨?_, ?_, rest _ R.stk⟩
  · rcases R.top with ⟨e, hk, hf⟩ | h
    · rw [e]; exact hk
    · exact (go _ h).1
  · rcases R.top with ⟨e, hk, hf⟩ | h
    · obtain ⟨m, ⟨oL, es, ep, hL, hd, _⟩, _⟩ := R.ns
      exact ⟨F.env.locals, oL, by rw [e]; exact hf, Heap.get?_none_of_le R.lb, hL, fun vs q => by rw [hd] at q; cases q⟩
    · exact (go _ h).2
theorem Apart.cons {I J : Addr} {o : Obj} (P : Apart G keep F I) (h : J ≠ I) : Apart G ((J, o) :: keep) F I := ⟨fun p hp => by
  rcases List.mem_cons.mp hp with rfl | hp
  · exact h
  · exact P.ne p hp, P.lo, P.cells, P.frames⟩
theorem Apart.tl {I : Addr} {p : Addr × Obj} (P : Apart G (p :: keep) F I) : Apart G keep F I := ⟨fun q hq => P.ne q (.tail _ hq), P.lo, P.cells, P.frames⟩
theorem FR.swap {p q : Addr × Obj} (R : FR G (p :: q :: keep) F σ s) : FR G (q :: p :: keep) F σ s := R.perm fun r => by
  simp only [List.mem_cons]
  constructor
  · rintro (h | h | h)
    · exact .inr (.inl h)
    · exact .inl h
    · exact .inr (.inr h)
  · rintro (h | h | h)
    · exact .inr (.inl h)
    · exact .inl h
    · exact .inr (.inr h)
noncomputable abbrev tbObj (L : Addr) (pl : List Value) : Obj := { cls := .type "traceback", dict := none, data := .fields ([Value.none, .ref L, .none, rawInt L, .none] ++ (if pl.isEmpty then List.replicate 6 Value.none else pl)).toArray }
set_option genInjectivity false in
structure Flown (G : Gnd) (keep : Keep) (F : Fd) (σ : St) (X : String) (e : Addr) (s : Shared) : Prop where
  ex : ∃ tb oe ot vs ts, FR G ((tb, ot) :: (e, oe) :: keep) F σ s ∧ tb ≠ e ∧ Apart G keep F tb ∧ Apart G keep F e ∧ oe.cls = .type X ∧ oe.data = .fields vs ∧ vs[1]? = some (.ref tb) ∧ ot.data = .fields ts ∧ 3 < ts.size
theorem noted_R {e : Addr} {oe : Obj} {vs : Array Value} {X : String} {Q : Unit → Shared → Prop} {E : Value → Shared → Prop} (hA : A.frames = some (F.fenv :: F.outer)) (hfe : F.fenv = F.env) (R : FR G ((e, oe) :: keep) F σ s) (P : Apart G keep F e) (hc : oe.cls = .type X) (hd : oe.data = .fields vs) (h1 : vs[1]? = some .none)
    (hQ : ∀ s', Flown G keep F σ X e s' → Q () s') : wpAny G.M A (noteFrame (.ref e) F.env) Q E s := by
  have hsz : 1 < vs.size := (Array.getElem?_eq_some_iff.mp h1).1
  obtain ⟨L, hL⟩ : ∃ L, F.env.frame = some L := by
    obtain ⟨_, ⟨L, _, h, _⟩, _⟩ := R.funFrames
    exact ⟨L, by rw [← hfe]; exact h⟩
  have he := (R.hr.kept (e, oe) (.head _)).get (notDict_fields hd)
  unfold noteFrame
  simp only [hL]
  refine wpAny_bind (wpAny_field he hd h1 ?_)
  rw [if_neg (by decide)]
  rw [hfe] at hA
  refine wpAny_bind (wpAny_frameOf_fun (base := G.h₀) hA (by rw [← hfe]; exact R.funFrames) hL fun h₁ hs₁ => ?_)
  have R₁ := R.slots (h₁ := h₁) (by rw [hfe]; exact hs₁)
  refine wpAny_bind (wpAny_entryPlaceOf fun pl hpl => ?_)
  unfold EntryCells.newEntry newFields
  refine wpAny_bind (wpAny_newObj_type ?_ (hpl.sizeOk5 _ _ _ _ _))
  have R₂ := R₁.lay (o := tbObj L pl) rfl
  have Ptb : Apart G ((e, oe) :: keep) F h₁.objs.size := R₁.apartNew (Nat.le_refl _)
  have he₂ := (R₂.hr.kept (e, oe) (.tail _ (.head _))).get (notDict_fields hd)
  have hne : h₁.objs.size ≠ e := (Ptb.ne (e, oe) (.head _)).symm
  refine wpAny_setField he₂ hd hsz (hQ _ ⟨h₁.objs.size, oe.mapFields (·.setIfInBounds 1 (.ref h₁.objs.size)), tbObj L pl, vs.setIfInBounds 1 (.ref h₁.objs.size), _, ?_, hne, Ptb.tl, P, ?_, Obj.data_mapFields hd _, by simp [hsz], rfl, ?_⟩)
  · exact (R₂.swap.turn (o' := oe.mapFields (·.setIfInBounds 1 (.ref h₁.objs.size))) (t := s.toks) (P.cons hne) (Heap.SameBut.update ..) (Heap.get?_update_self _ he₂ (Obj.isFreed_of_fields (Obj.data_mapFields hd _)))).swap
  · exact (Obj.cls_mapFields ..).trans hc
  · simp only [List.size_toArray, List.length_append, List.length_cons, List.length_nil]; omega
theorem flight_R {e : Addr} {X : String} {Q : Unit → Shared → Prop} {E : Value → Shared → Prop} (h : Flown G keep F σ X e s) (hQ : ∀ s', Flown G keep F σ X e s' → Q () s') : wpAny G.M A (setFlight (.ref e) none) Q E s := by
  obtain ⟨tb, oe, ot, vs, ts, R, hne, Ptb, Pe, hc, hd, h1, hdt, hsz⟩ := h.ex
  have he := (R.hr.kept (e, oe) (.tail _ (.head _))).get (notDict_fields hd)
  have htb := (R.hr.kept (tb, ot) (.head _)).get (notDict_fields hdt)
  refine wpAny_setFlight_none he hd h1 htb hdt hsz (hQ _ ⟨tb, oe, _, vs, ts.setIfInBounds 3 .none, R.turn (t := s.toks) (Ptb.cons hne.symm) (Heap.SameBut.update ..) (Heap.get?_update_self _ htb (Obj.isFreed_of_fields (Obj.data_mapFields hdt _))), hne, Ptb, Pe, hc, hd, h1, Obj.data_mapFields hdt _, by simpa using hsz⟩)
theorem Flown.drop {e : Addr} {X : String} (h : Flown G keep F σ X e s) : FR G keep F σ s := by
  obtain ⟨tb, oe, ot, vs, ts, R, hne, Ptb, Pe, _⟩ := h.ex
  exact (R.drop (Ptb.cons hne.symm)).drop Pe
theorem handle_R {e : Addr} {X T : String} {Tn : Str} {np pos : Pos} {b₀ : Stmt} {suite : List Stmt} {rest : List ExceptHandler} {m : Sm Flow} {Q : Flow → St → Prop} {E : Value → Shared → Prop} (h : Flown G keep F σ X e s)
    (hexc : isSubtype (.type T) (.type "BaseException") = pure true) (hnt : isSubtype (.type ((Manifest.find? T).elim "type" fun x => x.metatype)) (.type "tuple") = pure false) (hsub : isSubtype (.type X) (.type T) = pure true)
    (hname : RV G (A.mark (some (.ref e))) F (eval (.Name Tn np) F.env) (pureM (.type T))) (hs : RF G (A.mark (some (.ref e))) F (execs (b₀ :: suite) F.env) m) (hm : m Q σ) :
    wpAny G.M A (handleBy (.ref e) F.env (.ExceptHandler (some (.Name Tn np)) none (b₀ :: suite) pos :: rest)) (fun f s' => ∃ σ', FR G keep F σ' s' ∧ Q (erF f) σ') E s := by
  obtain ⟨tb, oe, ot, vs, ts, R, hne, Ptb, Pe, hc, hd, h1, hdt, hsz⟩ := h.ex
  refine wpAny_handleBy_builtin (X := X) (T := T) (b := true) hexc hnt hsub ?_
  refine wpAny_mono (hname.run _ σ s (fun v σ' => v = .type T ∧ σ' = σ) _ R ⟨rfl, rfl⟩) (fun c s₁ ⟨σ₁, R₁, hv, hσ⟩ => ?_) fun _ _ e => e
  subst hσ
  have he := (R₁.hr.kept (e, oe) (.tail _ (.head _))).get (notDict_fields hd)
  refine ⟨er_type hv, ⟨oe, he, hc⟩, ?_⟩
  rw [if_pos rfl]
  refine flight_R (X := X) ⟨tb, oe, ot, vs, ts, R₁, hne, Ptb, Pe, hc, hd, h1, hdt, hsz⟩ fun s₂ h₂ => ?_
  exact hs.run keep σ₁ s₂ Q _ h₂.drop hm
end
end Mine
end
section
open PySem PySem.W PyProof.Rows PySem.Calls
set_option maxRecDepth 100000
set_option maxHeartbeats 2000000
namespace Mine
noncomputable def H.del (h : H) (a : Addr) : H := fun b => if b = a then none else h b
theorem H.del_self (h : H) (a : Addr) : h.del a a = none := if_pos rfl
theorem H.del_ne (h : H) {a b : Addr} (e : b ≠ a) : h.del a b = h b := if_neg e
section
variable {G : Gnd} {A : Around} {F : Fd} {keep keep' : Keep} {σ : St} {s s' : Shared}
theorem FR.delExt (R : FR G keep F σ s) {it : Addr} {ao : AObj} (ha : σ.h it = some ao) (hf : ao.fixed = false) {hp : Heap} {t : Nat} (hx : Heap.ExtBut it s.heap hp) : FR G keep F ⟨σ.l, σ.h.del it⟩ { s with heap := hp, toks := t } := by
  have h1 : F.env.locals ≠ it := fun q => by have := R.lh; rw [q, ha] at this; cases this
  have h2 : ∀ x ca, F.env.cells.lookup x = some ca → ca ≠ it := fun x ca e q => by have := R.ch x ca e; rw [q, ha] at this; cases this
  have hd : ∀ {a bo}, σ.h.del it a = some bo → a ≠ it ∧ σ.h a = some bo := fun {a bo} e => by
    by_cases q : a = it
    · rw [q, H.del_self] at e; cases e
    · rw [H.del_ne _ q] at e; exact ⟨q, e⟩
  have hn : ∀ {a}, σ.h a = none → σ.h.del it a = none := fun {a} e => by
    by_cases q : a = it
    · rw [q, H.del_self]
    · rw [H.del_ne _ q, e]
  have hfr := R.hr.fresh it ao ha hf
  obtain ⟨m, hns, hm⟩ := R.ns
  refine ⟨⟨fun b o e => hx b o (fun q => by rw [q] at e; exact absurd (Heap.lt_size e) (Nat.not_lt.mpr hfr)) (R.hr.base b o e), Nat.le_trans R.lb (Nat.le_of_lt (hns.extBut hx h1).lt), fun p hp' => (R.hr.kept p hp').at fun o q => hx _ _ (R.hr.apart _ _ ha p hp') q,
    fun a bo e => (R.hr.cell a bo (hd e).2).at fun o q => hx _ _ (hd e).1 q, fun a bo e => R.hr.apart a bo (hd e).2, fun a bo e => R.hr.fresh a bo (hd e).2, R.hr.gens, R.hr.os⟩, ⟨m, hns.extBut hx h1, hm⟩, fun x ca e => ?_, R.lk, R.lb, hn R.lh, R.lc, R.ck, R.cb, fun x ca e => hn (R.ch x ca e), R.ci, R.hasc, R.stk, R.top⟩
  obtain ⟨v, ⟨o, ho, hd'⟩, hq⟩ := R.cl x ca e
  exact ⟨v, ⟨o, hx _ _ (h2 x ca e) ho, hd'⟩, hq⟩
noncomputable def tryNextM (f : Sm Value) (x : Str) (suite : Sm Flow) : Sm Flow := fun Q σ => f (fun v σ₁ => match v with
  | .ref mw => match σ₁.h mw with
    | some (.mw it) => match σ₁.h it with
      | some (.lit l i) => match σ₁.h l with
        | some (.list xs) => (∀ v, xs[i]? = some v → Q .brk ((σ₁.seth it (.lit l (i + 1))).put x v)) ∧ (xs[i]? = none → suite Q ⟨σ₁.l, σ₁.h.del it⟩)
        | _ => False
      | _ => False
    | _ => False
  | _ => False) σ
theorem stop_exc : isSubtype (.type "StopIteration") (.type "BaseException") = pure true := by rw [isSubtype_type]; kernel_rfl
theorem stop_nt : isSubtype (.type ((Manifest.find? "StopIteration").elim "type" fun x => x.metatype)) (.type "tuple") = pure false := by rw [isSubtype_type]; kernel_rfl
theorem R_TryNext {x : Str} {xp cp ap bp hp np tp : Pos} {func : Expr} {b₀ : Stmt} {suite : List Stmt} {f : Sm Value} {m : Sm Flow} (hA : A.frames = some (F.fenv :: F.outer)) (hh : A.handled = none) (hfe : F.fenv = F.env)
    (hl : ownKind F x = true) (hk : F.env.scope.kind = .function) (hf : (match func with | .Attribute .. => false | _ => true) = true)
    (hname : ∀ e, RV G (A.mark (some (.ref e))) F (eval (.Name "StopIteration" np) F.env) (pureM (.type "StopIteration")))
    (h0 : RV G A F (eval func F.env) f) (hs : ∀ e, RF G (A.mark (some (.ref e))) F (execs (b₀ :: suite) F.env) m) (hsw : swapsWith (.Call func [] [] cp) (some (.Name x xp)) ap.line F.env = pure false) :
    RF G A F (exec (.Try [.Assign [.Name x xp] (.Call func [] [] cp) ap, .Break bp] [.ExceptHandler (some (.Name "StopIteration" np)) none (b₀ :: suite) hp] [] [] tp) F.env) (tryNextM f x m) := RA.mk fun keep σ s Q E R hm => by
  refine wpAny_Try_except (wpAny_execs_cons (wpAny_Assign_Name ?_ hsw))
  have e : eval (.Call func [] [] cp) F.env = (eval func F.env >>= fun f => callWith cp f [] (backTo cp (starEach [] F.env)) []) := by
    cases func <;> first | rfl | cases hf
  rw [e]
  refine wpAny_bind (wpAny_mono (h0.run keep σ s _ _ R hm) (fun v s₁ ⟨σ₁, R₁, hq⟩ => ?_) fun _ _ e => e)
  split at hq
  · rename_i mw ev
    have ev := er_ref ev
    subst ev
    split at hq
    · rename_i it h1
      split at hq
      · rename_i l i h2
        split at hq
        · rename_i xs h3
          have g1 : s₁.heap.get? mw = some (mwObj it) := R₁.hr.cell mw _ h1
          have g2 : s₁.heap.get? it = some (litObj l i) := R₁.hr.cell it _ h2
          obtain ⟨items, g3, hi⟩ := R₁.hr.cell l _ h3
          refine callWith_of (P := fun h => h.get? mw = some (mwObj it)) rfl (fun h X => ⟨.machine, .inr (.inl rfl), (Looks.ld (part := none) X).andThen .now⟩) (evalArgs_nil3 ⟨g1, wpAny_call (mw_call hh g1 g2 g3.isList (fun u hu h' gi hs' => ?_) fun hn h' e oe vs hx hle ge hc hd hv => ?_)⟩)
          · have R₂ := R₁.upd (t := s₁.toks) h2 rfl hs' (ao' := .lit l (i + 1)) gi
            refine wpAny_mono ((store_R (A := A) (own_of hl) hk).run keep _ _ (fun _ σ₃ => σ₃ = (σ₁.seth it (.lit l (i + 1))).put x (er u)) _ R₂ rfl) (fun _ s₃ ⟨σ₃, R₃, h₃⟩ => ?_) fun _ _ e => e
            subst h₃
            refine wpAny_execs_cons (wpAny_mono (R_Break.run keep _ s₃ (fun f σ' => f = .brk ∧ σ' = (σ₁.seth it (.lit l (i + 1))).put x (er u)) _ R₃ ⟨rfl, rfl⟩) (fun f s₄ ⟨σ₄, R₄, hf, h₄⟩ => ?_) fun _ _ e => e)
            subst h₄
            have hu' : xs[i]? = some (er u) := by rw [← hi, List.getElem?_map, Array.getElem?_toList, hu]; rfl
            cases f <;> simp only [erF, reduceCtorEq] at hf
            exact ⟨_, R₄, hq.1 _ hu'⟩
          · have hn' : xs[i]? = none := by rw [← hi, List.getElem?_map, Array.getElem?_toList, hn]; rfl
            have P := R₁.apartNew hle
            have R₂ := (R₁.delExt (t := s₁.toks) h2 rfl hx).layOld P (Nat.ne_of_gt (Nat.lt_of_lt_of_le R₁.locals_lt hle)) ge (by
              have := R₁.none_new hle
              show σ₁.h.del it e = none
              by_cases q : e = it
              · rw [q, H.del_self]
              · rw [H.del_ne _ q, this])
            refine noted_R hA hfe R₂ P hc hd hv fun s₃ fl => flight_R fl fun s₄ fl' => ?_
            exact handle_R fl' stop_exc stop_nt isSubtype_stop (hname e) (hs e) (hq.2 hn')
        · exact hq.elim
      · exact hq.elim
    · exact hq.elim
  · exact hq.elim
end
end Mine
end
section
open PySem PySem.W PyProof.Rows PySem.Calls
set_option maxRecDepth 100000
set_option maxHeartbeats 2000000
namespace Mine
section
open PySem.AutoSeq1 (wpAny_loadPart')
open PySem.MeetsSeq PySem.MeetsSeq2 PySem.MeetsSeq3
noncomputable def EqM (prog : Program) (w : World) (A : Around) (s : Shared) (v u : Value) : Prop := ∀ (E : Value → Shared → Prop) (Q : Bool → Shared → Prop), Q true s → wpAny (model prog w) A (eqBool v u) Q E s
noncomputable abbrev lsObj (items : Array Value) (n : Nat) : Obj := { cls := .type "list", data := .seq items n }
variable {prog : Program} {w : World}
theorem sameLoop {a b : Addr} {xs ys : Array Value} {m n : Nat} (hlen : xs.size = ys.size) {code : Int} {r : Bool} (hcode : (code = 2 ∧ r = true) ∨ (code = 3 ∧ r = false)) (k : Nat) :
    ∀ i : Nat, xs.size - i = k → MeetsIn prog w (Builtin.«list.__eq__.loop» ⟨[.ref a, .ref b, rawInt i, rawInt code], []⟩)
      (fun A R s => s.heap.get? a = some (lsObj xs m) ∧ s.heap.get? b = some (lsObj ys n) ∧ (∀ j (h1 : j < xs.size) (h2 : j < ys.size), EqM prog w A.in1 s xs[j] ys[j]) ∧ R (.ok (.ret (.bool r))) s) := by
  induction k with
  | zero =>
    rintro i hk A R ⟨hp, g, d, tk, os⟩ ⟨ha, hb, -, hR⟩
    have n1 : xs[((i : Nat) : Int).toNat]? = none := by simp; omega
    have n2 : ys[((i : Nat) : Int).toNat]? = none := by simp; omega
    rcases hcode with ⟨rfl, rfl⟩ | ⟨rfl, rfl⟩
    all_goals
      wp_walk using wpAny_loadPart' ha, wpAny_loadPart' hb
      rw [n1, n2]
      wp_walk using wpAny_loadPart' ha, wpAny_loadPart' hb
    · show R (.ok (.ret (.bool (xs.size == ys.size)))) _
      rw [hlen, beq_self_eq_true]; exact hR
    · show R (.ok (.ret (.bool (xs.size != ys.size)))) _
      rw [hlen, bne_self_eq_false]; exact hR
  | succ k ih =>
    rintro i hk A R ⟨hp, g, d, tk, os⟩ ⟨ha, hb, he, hR⟩
    have l1 : i < xs.size := by omega
    have l2 : i < ys.size := by omega
    have n1 : xs[((i : Nat) : Int).toNat]? = some xs[i] := by simp [l1]
    have n2 : ys[((i : Nat) : Int).toNat]? = some ys[i] := by simp [l2]
    have hc : ((i : Int) + 1) = ((i + 1 : Nat) : Int) := by push_cast; rfl
    have again := ih (i + 1) (by omega) A R _ ⟨ha, hb, he, hR⟩
    have hcode' := hcode
    rcases hcode with ⟨rfl, rfl⟩ | ⟨rfl, rfl⟩
    all_goals
      wp_walk using wpAny_loadPart' ha, wpAny_loadPart' hb
      rw [n1, n2]
      refine wpAny_bind (he i l1 l2 _ _ ?_)
      wp_walk
      rw [hc]
      exact ⟨plainId_quiet plain_eq_loop _, codeAny_builtin entry_eq_loop (by rw [Around.under_plainId plain_eq_loop _]; exact again)⟩
theorem sameList_eq {a b : Addr} {xs ys : Array Value} {m n : Nat} (hlen : xs.size = ys.size) : MeetsIn prog w (Builtin.«list.__eq__» ⟨[.ref a, .ref b], []⟩)
    (fun A R s => s.heap.get? a = some (lsObj xs m) ∧ s.heap.get? b = some (lsObj ys n) ∧ (∀ j (h1 : j < xs.size) (h2 : j < ys.size), EqM prog w A.in1 s xs[j] ys[j]) ∧ R (.ok (.ret (.bool true))) s) := by
  rintro A R ⟨hp, g, d, tk, os⟩ ⟨ha, hb, he, hR⟩
  have f3 := AutoSeq1.sub_list_list
  have hne : ¬ (xs.size != ys.size) = true := by simp [hlen]
  wp_walk using wpAny_loadPart' ha, wpAny_loadPart' hb
  exact ⟨plainId_quiet plain_eq_loop _, codeAny_builtin entry_eq_loop (by
    rw [Around.under_plainId plain_eq_loop _]
    exact sameLoop hlen (.inl ⟨rfl, rfl⟩) _ 0 rfl A R _ ⟨ha, hb, he, hR⟩)⟩
theorem sameList_ne {a b : Addr} {xs ys : Array Value} {m n : Nat} (hlen : xs.size = ys.size) : MeetsIn prog w (Builtin.«list.__ne__» ⟨[.ref a, .ref b], []⟩)
    (fun A R s => s.heap.get? a = some (lsObj xs m) ∧ s.heap.get? b = some (lsObj ys n) ∧ (∀ j (h1 : j < xs.size) (h2 : j < ys.size), EqM prog w A.in1 s xs[j] ys[j]) ∧ R (.ok (.ret (.bool false))) s) := by
  rintro A R ⟨hp, g, d, tk, os⟩ ⟨ha, hb, he, hR⟩
  have f3 := AutoSeq1.sub_list_list
  have hne : ¬ (xs.size != ys.size) = true := by simp [hlen]
  wp_walk using wpAny_loadPart' ha, wpAny_loadPart' hb
  exact ⟨plainId_quiet plain_eq_loop _, codeAny_builtin entry_eq_loop (by
    rw [Around.under_plainId plain_eq_loop _]
    exact sameLoop hlen (.inr ⟨rfl, rfl⟩) _ 0 rfl A R _ ⟨ha, hb, he, hR⟩)⟩
end
noncomputable def isAtom : Value → Bool
  | .int _ _ => true
  | .str _ _ => true
  | .bool _ => true
  | .none => true
  | _ => false
noncomputable def Eqv (h : H) : Nat → Bool → Value → Value → Prop
  | 0, _, v, u => isAtom v = true ∧ v = u
  | n + 1, d, v, u => (isAtom v = true ∧ v = u) ∨
    (∃ a b xs ys, v = .ref a ∧ u = .ref b ∧ h a = some (.list xs) ∧ h b = some (.list ys) ∧ xs.length = ys.length ∧ ∀ (j : Nat) (v u : Value), xs[j]? = some v → ys[j]? = some u → Eqv h n d v u) ∨
    (d = true ∧ ∃ a b ka kb ea eb, v = .ref a ∧ u = .ref b ∧ h a = some (.sd ka ea) ∧ h b = some (.sd kb eb) ∧ ka.length = kb.length ∧ ∀ p ∈ ka, ∃ u, valueAt kb p.1 = some u ∧ Eqv h n false p.2 u)
theorem Eqv.atom {h : H} {n : Nat} {d : Bool} {v : Value} (e : isAtom v = true) : Eqv h n d v v := by cases n <;> first | exact ⟨e, rfl⟩ | exact .inl ⟨e, rfl⟩
theorem all_true {n : Nat} : (List.range n).all (fun _ => true) = true := by simp
section
variable {G : Gnd} {keep : Keep} {h : H} {s : Shared}
theorem eqA_atom {A : Around} {v v' u' : Value} (ha : isAtom v = true) (e1 : er v' = v) (e2 : er u' = v) : SeqAt.EqAt A s v' u' true := by
  cases v with
  | int i k =>
    obtain ⟨t, rfl⟩ := er_int e1
    obtain ⟨t', rfl⟩ := er_int e2
    have := SeqAt.EqAt.int_int (A := A) (s := s) i t i t'
    simpa using this
  | str i k =>
    obtain ⟨t, rfl⟩ := er_str e1
    obtain ⟨t', rfl⟩ := er_str e2
    have := SeqAt.EqAt.str_str (A := A) (s := s) i t i t'
    simpa using this
  | bool b => rw [er_bool e1, er_bool e2]; exact SeqAt.EqAt.same _
  | none => rw [er_none e1, er_none e2]; exact SeqAt.EqAt.same _
  | _ => cases ha
theorem eqA_of (R : HR G keep h s) : ∀ (n : Nat) {A : Around} {v u v' u' : Value}, Eqv h n false v u → er v' = v → er u' = u → A.units + n < cLine → SeqAt.EqAt A s v' u' true := by
  intro n
  induction n with
  | zero => rintro A v u v' u' ⟨ha, rfl⟩ e1 e2 hu; exact eqA_atom ha e1 e2
  | succ n ih =>
    rintro A v u v' u' (⟨ha, rfl⟩ | ⟨a, b, xs, ys, rfl, rfl, h1, h2, hl, hj⟩ | ⟨hd, _⟩) e1 e2 hu
    · exact eqA_atom ha e1 e2
    · rw [er_ref e1, er_ref e2]
      by_cases hab : a = b
      · subst hab; exact SeqAt.EqAt.same _
      obtain ⟨items, hp, hi⟩ := R.cell a _ h1
      obtain ⟨items', hp', hi'⟩ := R.cell b _ h2
      have s1 := toList_eq hi
      have s2 := toList_eq hi'
      refine SeqAt.EqAt.of_refs hab ?_
      have := SeqAt.RcAt.lists (A := A) (e := fun _ => true) hp.isList hp'.isList (by omega) (by omega) fun j j1 j2 => ih (A := A.in1) (hj j (er items[j]) (er items'[j]) (by rw [← hi, List.getElem?_map, Array.getElem?_toList, Array.getElem?_eq_getElem j1]; rfl)
        (by rw [← hi', List.getElem?_map, Array.getElem?_toList, Array.getElem?_eq_getElem j2]; rfl)) rfl rfl (by show A.units + 1 + n < _; omega)
      rwa [all_true] at this
    · cases hd
theorem EqM.of_at {prog : Program} {w : World} {A : Around} {v u : Value} (x : SeqAt.EqAt A s v u true) : EqM prog w A s v u := fun E Q hq => x prog w E Q hq
theorem rich_lists {prog : Program} {w : World} {A : Around} {E : Value → Shared → Prop} {a b : Addr} {xs ys : Array Value} {Q : Value → Shared → Prop} (ne : Bool) (ha : s.heap.PlainList a xs) (hb : s.heap.PlainList b ys) (hlen : xs.size = ys.size) (hu : A.units < cLine)
    (he : ∀ j (h1 : j < xs.size) (h2 : j < ys.size), EqM prog w A.in1 s xs[j] ys[j]) (hq : Q (.bool (!ne)) s) : wpAny (model prog w) A (richCompare (if ne then .NotEq else .Eq) (.ref a) (.ref b)) Q E s := by
  obtain ⟨m, ha⟩ := ha
  obtain ⟨n, hb⟩ := hb
  cases ne with
  | false =>
    refine wpAny_richCompare_same_room (op := .Eq) (T := "list") ⟨_, ha, rfl⟩ ⟨_, hb, rfl⟩ PySem.F.slot_list_eq (call_meetsIn PySem.F.slot_list_eq ⟨_, ha, rfl⟩ PySem.F.entry_list_eq (PySem.F.args_list_eq_2 _ _) (sameList_eq hlen) ⟨ha, hb, he, ?_⟩) hu
    show Value.bool true ≠ Value.notImplemented ∧ Q (.bool true) s
    exact ⟨(fun x => nomatch x), hq⟩
  | true =>
    refine wpAny_richCompare_same_room (op := .NotEq) (T := "list") ⟨_, ha, rfl⟩ ⟨_, hb, rfl⟩ PySem.F.slot_list_ne (call_meetsIn PySem.F.slot_list_ne ⟨_, ha, rfl⟩ PySem.F.entry_list_ne (PySem.F.args_list_ne_2 _ _) (sameList_ne hlen) ⟨ha, hb, he, ?_⟩) hu
    show Value.bool false ≠ Value.notImplemented ∧ Q (.bool false) s
    exact ⟨(fun x => nomatch x), hq⟩
theorem EqM.of_rich {prog : Program} {w : World} {A : Around} {a b : Addr} (hab : a ≠ b) (x : ∀ (E : Value → Shared → Prop) (Q : Value → Shared → Prop), Q (.bool true) s → wpAny (model prog w) A (richCompare .Eq (.ref a) (.ref b)) Q E s) : EqM prog w A s (.ref a) (.ref b) := fun E Q hq => by
  unfold eqBool
  refine wpAny_holding ?_
  refine wpAny_ite_split (fun e => absurd (by have := eq_of_beq e; injection this) hab) (fun _ => ?_)
  exact wpAny_bind (x E _ (wpAny_truthy_bool hq))
theorem hits_of {A : Around} {kb kb' : List (Str × Value)} {n : Nat} (R : HR G keep h s) (hu : A.units + n < cLine) (hkb : kb'.map erp = kb) : ∀ (ka' : List (Str × Value)), (∀ p ∈ ka'.map erp, ∃ u, valueAt kb p.1 = some u ∧ Eqv h n false p.2 u) → KeqHits A s kb' ka' true
  | [], _ => .nil
  | (k, v) :: r, hp => by
    obtain ⟨u, hu', he⟩ := hp (k, er v) (by rw [List.map_cons]; exact .head _)
    rw [← hkb, valueAt_erp] at hu'
    cases q : valueAt kb' k with
    | none => rw [q] at hu'; cases hu'
    | some u' =>
      rw [q] at hu'
      have := KeqHits.hit (A := A) q (eqA_of R n he rfl (by cases hu'; rfl) hu) (hits_of R hu hkb r fun p hp' => hp p (by rw [List.map_cons]; exact .tail _ hp'))
      simpa using this
theorem eqM_of (R : HR G keep h s) : ∀ (n : Nat) {A : Around} {v u v' u' : Value} {d : Bool}, Eqv h n d v u → er v' = v → er u' = u → A.units + n < cLine → EqM G.prog G.w A s v' u' := by
  intro n
  induction n with
  | zero => rintro A v u v' u' d ⟨ha, rfl⟩ e1 e2 hu; exact EqM.of_at (eqA_atom ha e1 e2)
  | succ n ih =>
    rintro A v u v' u' d (⟨ha, rfl⟩ | ⟨a, b, xs, ys, rfl, rfl, h1, h2, hl, hj⟩ | ⟨-, a, b, ka, kb, ea, eb, rfl, rfl, h1, h2, hl, hj⟩) e1 e2 hu
    · exact EqM.of_at (eqA_atom ha e1 e2)
    · rw [er_ref e1, er_ref e2]
      by_cases hab : a = b
      · subst hab; exact EqM.of_at (SeqAt.EqAt.same _)
      obtain ⟨items, hp, hi⟩ := R.cell a _ h1
      obtain ⟨items', hp', hi'⟩ := R.cell b _ h2
      have s1 := toList_eq hi
      have s2 := toList_eq hi'
      exact EqM.of_rich hab fun E Q hq => rich_lists false hp hp' (by omega) (by omega) (fun j j1 j2 => ih (A := A.in1) (hj j (er items[j]) (er items'[j]) (by rw [← hi, List.getElem?_map, Array.getElem?_toList, Array.getElem?_eq_getElem j1]; rfl)
        (by rw [← hi', List.getElem?_map, Array.getElem?_toList, Array.getElem?_eq_getElem j2]; rfl)) rfl rfl (by show A.units + 1 + n < _; omega)) hq
    · rw [er_ref e1, er_ref e2]
      by_cases hab : a = b
      · subst hab; exact EqM.of_at (SeqAt.EqAt.same _)
      obtain ⟨ka', ha, hka⟩ := R.cell a _ h1
      obtain ⟨kb', hb, hkb⟩ := R.cell b _ h2
      have l1 : ka'.length = ka.length := by rw [← hka, List.length_map]
      have l2 : kb'.length = kb.length := by rw [← hkb, List.length_map]
      refine EqM.of_rich hab fun E Q hq => ?_
      refine keq_eq (knd := strKind G.prog G.w) (R.ne_mods h1 rfl) (R.ne_mods h2 rfl) ha.dictOf hb.dictOf (by omega) (r := true) (fun _ => hits_of (A := A.in1) (n := n) R (by show A.units + 1 + n < _; omega) hkb ka' (by rw [hka]; exact hj)) ?_
      rw [l1, l2, hl, beq_self_eq_true, Bool.true_and]; exact hq
end
noncomputable def eqRefM (ne : Bool) (a b : Addr) : Sm Value := fun Q σ => match σ.h a, σ.h b with
  | some (.list xs), some (.list ys) => (xs.length ≠ ys.length ∧ Q (.bool ne) σ) ∨ (xs.length = ys.length ∧ (∀ (j : Nat) (v u : Value), xs[j]? = some v → ys[j]? = some u → Eqv σ.h 15 true v u) ∧ Q (.bool (!ne)) σ)
  | _, _ => False
noncomputable def cmpM2 (op : CmpOp) (x y : Value) : Sm Value := fun Q σ => match op, x, y with
  | .Eq, .ref a, .ref b => eqRefM false a b Q σ
  | .NotEq, .ref a, .ref b => eqRefM true a b Q σ
  | op, x, y => cmpM op x y Q σ
section
variable {G : Gnd} {A : Around} {F : Fd}
theorem eqRef_R {ne : Bool} {a b : Addr} (hu : A.units + 16 < cLine) : RV G A F (richCompare (if ne then .NotEq else .Eq) (.ref a) (.ref b)) (eqRefM ne a b) := by
  refine RA.mk fun keep σ s Q E R hm => ?_
  unfold eqRefM at hm
  split at hm
  · rename_i xs ys h1 h2
    obtain ⟨items, hp, hi⟩ := R.hr.cell a _ h1
    obtain ⟨items', hp', hi'⟩ := R.hr.cell b _ h2
    have s1 := toList_eq hi
    have s2 := toList_eq hi'
    rcases hm with ⟨hl, hq⟩ | ⟨hl, he, hq⟩
    · cases ne with
      | false => exact SeqAt.RcAt.lists_lengths hp.isList hp'.isList (by simp; omega) (by omega) _ _ _ _ ⟨σ, R, hq⟩
      | true => exact SeqAt.RcNeAt.lists_lengths hp.isList hp'.isList (by simp; omega) (by omega) _ _ _ _ ⟨σ, R, hq⟩
    · refine rich_lists ne hp hp' (by omega) (by omega) (fun j j1 j2 => eqM_of R.hr 15 (A := A.in1) (he j (er items[j]) (er items'[j]) ?_ ?_) rfl rfl (by show A.units + 1 + 15 < _; omega)) ⟨σ, R, hq⟩
      · rw [← hi, List.getElem?_map, Array.getElem?_toList, Array.getElem?_eq_getElem j1]; rfl
      · rw [← hi', List.getElem?_map, Array.getElem?_toList, Array.getElem?_eq_getElem j2]; rfl
  · exact hm.elim
theorem cmp2_R (hu : A.units + 16 < cLine) (op : CmpOp) (x y : Value) : RV G A F (compareOp op x y) (cmpM2 op (er x) (er y)) := by
  refine RA.mk fun keep σ s Q E R hm => ?_
  unfold cmpM2 at hm
  split at hm
  · rename_i a b e1 e2
    rw [er_ref e1, er_ref e2]
    exact (eqRef_R (ne := false) hu).run keep σ s Q E R hm
  · rename_i a b e1 e2
    rw [er_ref e1, er_ref e2]
    exact (eqRef_R (ne := true) hu).run keep σ s Q E R hm
  · exact (cmp_R _ _ _).run keep σ s Q E R hm
theorem Room.eq {n : Nat} (h : Room n A) : A.units + 16 < cLine := by have := h.units; omega
theorem D_cmp2 {n : Nat} {l r : Expr} {op : CmpOp} {pos : Pos} {a b : Sm Value} (hr : Room n A) (hm : behindInMarks op r = false) (h1 : RV G A F (eval l F.env) a) (h2 : RV G A F (eval r F.env) b) :
    RV G A F (eval (.Compare l [op] [r] pos) F.env) (bindM a fun x => bindM b fun y => cmpM2 op x y) := R_cmp hm (cmp2_R hr.eq op) h1 h2
theorem DB_cmp2 {n : Nat} {l r : Expr} {op : CmpOp} {pos : Pos} {whole : Sem Value} {a b : Sm Value} (hr : Room n A) (hm : behindInMarks op r = false) (h1 : RV G A F (eval l F.env) a) (h2 : RV G A F (eval r F.env) b) :
    RB G A F (isTrue (.Compare l [op] [r] pos) F.env whole) (bindM a fun x => bindM b fun y => bindM (cmpM2 op x y) truM) := RB_cmp hm truthy_R (cmp2_R hr.eq op) h1 h2
end
end Mine
end
section
open PySem PySem.W PyProof.Rows PySem.Calls
set_option maxRecDepth 100000
namespace Mine
section
variable {G : Gnd} {A : Around} {F : Fd}
theorem D_typed {func : Expr} {args : List Expr} {pos : Pos} {i : String} {m : Sm (List Value)} {cm : List Value → Sm Value} (hc : ∀ vs, RV G A F (call (.type i) vs) (cm (vs.map er))) (hf : (match func with | .Attribute .. => false | _ => true) = true) (h0 : RV G A F (eval func F.env) (pureM (.type i)))
    (h1 : RArg G A F pos args m) : RV G A F (eval (.Call func args [] pos) F.env) (bindM m cm) := R_Call hf (fun _ => er_type) h0 keeps_type h1 hc
theorem D_attr_d {C : Addr} {value : Expr} {attr : Str} {pos : Pos} {a : Sm Value} (hst : dictAttrOk G.K C attr = true) (hb : ∀ w, attributeBase value attr F.env w = w) (h1 : RV G A F (eval value F.env) a) : RV G A F (eval (.Attribute value attr pos) F.env) (bindM a (dattrM C attr)) := R_Attr hb (fun o => getAttr_dict_R hst o true) h1
theorem D_attr_s {C : Addr} {i : Nat} {value : Expr} {attr : Str} {pos : Pos} {a : Sm Value} (hst : slotAttrOk G.K C attr i = true) (hb : ∀ w, attributeBase value attr F.env w = w) (h1 : RV G A F (eval value F.env) a) : RV G A F (eval (.Attribute value attr pos) F.env) (bindM a (sattrM C i)) := R_Attr hb (fun o => getAttr_slot_R hst o true) h1
theorem D_attr_next {value : Expr} {pos : Pos} {a : Sm Value} (hb : ∀ w, attributeBase value "__next__" F.env w = w) (h1 : RV G A F (eval value F.env) a) : RV G A F (eval (.Attribute value "__next__" pos) F.env) (bindM a nextAttrM) := R_Attr hb nextAttr_R h1
theorem D_st_d {C : Addr} {o : Expr} {attr : Str} {value : Expr} {pos p : Pos} {a v : Sm Value} (hst : dictAttrOk G.K C attr = true) (hs : swapsWith value (some (.Attribute o attr p)) pos.line F.env = pure false) (hw : swappedStores [.Attribute o attr p] value F.env = pure none) (h1 : RV G A F (eval o F.env) a) (h2 : RV G A F (eval value F.env) v) :
    RF G A F (exec (.Assign [.Attribute o attr p] value pos) F.env) (stAttrM a v (dsetM attr C)) := R_Assign_Attr hs hw (fun x v => setAttr_dict_R hst x v) h1 h2
theorem D_st_s {C : Addr} {i : Nat} {o : Expr} {attr : Str} {value : Expr} {pos p : Pos} {a v : Sm Value} (hst : slotAttrOk G.K C attr i = true) (hs : swapsWith value (some (.Attribute o attr p)) pos.line F.env = pure false) (hw : swappedStores [.Attribute o attr p] value F.env = pure none) (h1 : RV G A F (eval o F.env) a) (h2 : RV G A F (eval value F.env) v) :
    RF G A F (exec (.Assign [.Attribute o attr p] value pos) F.env) (stAttrM a v (ssetM i C)) := R_Assign_Attr hs hw (fun x v => setAttr_slot_R hst x v) h1 h2
theorem D_aug_d {C : Addr} {o : Expr} {attr : Str} {op : Operator} {value : Expr} {pos p : Pos} {a v : Sm Value} (hst : dictAttrOk G.K C attr = true) (h1 : RV G A F (eval o F.env) a) (h2 : RV G A F (eval value F.env) v) :
    RF G A F (exec (.AugAssign (.Attribute o attr p) op value pos) F.env) (augAttrM a v (dattrM C attr) (augOp op) (dsetM attr C)) := R_Aug_Attr (fun x => getAttr_dict_R hst x true) (aug_R op) (fun x v => setAttr_dict_R hst x v) h1 h2
theorem D_aug_s {C : Addr} {i : Nat} {o : Expr} {attr : Str} {op : Operator} {value : Expr} {pos p : Pos} {a v : Sm Value} (hst : slotAttrOk G.K C attr i = true) (h1 : RV G A F (eval o F.env) a) (h2 : RV G A F (eval value F.env) v) :
    RF G A F (exec (.AugAssign (.Attribute o attr p) op value pos) F.env) (augAttrM a v (sattrM C i) (augOp op) (ssetM i C)) := R_Aug_Attr (fun x => getAttr_slot_R hst x true) (aug_R op) (fun x v => setAttr_slot_R hst x v) h1 h2
theorem D_Global {x : Str} {pos : Pos} {v u : Value} (e : nsIn G.K mainGlobals x = some (some v)) (hu : er v = u) (hl : F.env.kindOf x = some .globalImplicit) (hk : F.env.scope.kind = .function) (hg : F.env.globals = mainGlobals) (hd : (x == ("__debug__" : Str)) = false) :
    RV G A F (eval (.Name x pos) F.env) (pureM u) := by subst hu; exact R_Global e hl hk hg hd
theorem D_Builtin {x : Str} {pos : Pos} {v u : Value} (e : nsIn G.K mainGlobals x = some none) (hv : bootBuiltins x = some v) (hu : er v = u) (hx : (x == ("__name__" : Str)) = false) (hl : F.env.kindOf x = some .globalImplicit) (hk : F.env.scope.kind = .function)
    (hg : F.env.globals = mainGlobals) (hb : F.env.builtins = builtinsNs) (hd : (x == ("__debug__" : Str)) = false) : RV G A F (eval (.Name x pos) F.env) (pureM u) := by subst hu; exact R_Builtin e hv (by simpa using hx) hl hk hg hb hd
theorem D_sum {n : Nat} {func : Expr} {args : List Expr} {pos : Pos} {m : Sm (List Value)} (hr : Room n A) (hf : (match func with | .Attribute .. => false | _ => true) = true) (h0 : RV G A F (eval func F.env) (pureM (.builtin "sum"))) (h1 : RArg G A F pos args m) :
    RV G A F (eval (.Call func args [] pos) F.env) (bindM m sumM) := D_built (sum_R hr.handled) hf h0 h1
theorem D_len {func : Expr} {args : List Expr} {pos : Pos} {m : Sm (List Value)} (hf : (match func with | .Attribute .. => false | _ => true) = true) (h0 : RV G A F (eval func F.env) (pureM (.builtin "len"))) (h1 : RArg G A F pos args m) :
    RV G A F (eval (.Call func args [] pos) F.env) (bindM m lenM) := D_built len_R hf h0 h1
theorem D_hex {func : Expr} {args : List Expr} {pos : Pos} {m : Sm (List Value)} (hf : (match func with | .Attribute .. => false | _ => true) = true) (h0 : RV G A F (eval func F.env) (pureM (.builtin "hex"))) (h1 : RArg G A F pos args m) :
    RV G A F (eval (.Call func args [] pos) F.env) (bindM m hexM) := D_built hex_R hf h0 h1
theorem D_iter {func : Expr} {args : List Expr} {pos : Pos} {m : Sm (List Value)} (hf : (match func with | .Attribute .. => false | _ => true) = true) (h0 : RV G A F (eval func F.env) (pureM (.builtin "iter"))) (h1 : RArg G A F pos args m) :
    RV G A F (eval (.Call func args [] pos) F.env) (bindM m iterM) := D_built iterB_R hf h0 h1
theorem D_tuple {func : Expr} {args : List Expr} {pos : Pos} {m : Sm (List Value)} (hf : (match func with | .Attribute .. => false | _ => true) = true) (h0 : RV G A F (eval func F.env) (pureM (.type "tuple"))) (h1 : RArg G A F pos args m) :
    RV G A F (eval (.Call func args [] pos) F.env) (bindM m tupleM) := D_typed tuple_R hf h0 h1
theorem D_set {func : Expr} {args : List Expr} {pos : Pos} {m : Sm (List Value)} (hf : (match func with | .Attribute .. => false | _ => true) = true) (h0 : RV G A F (eval func F.env) (pureM (.type "set"))) (h1 : RArg G A F pos args m) :
    RV G A F (eval (.Call func args [] pos) F.env) (bindM m setM) := D_typed set_R hf h0 h1
theorem D_bool {func : Expr} {args : List Expr} {pos : Pos} {m : Sm (List Value)} (hf : (match func with | .Attribute .. => false | _ => true) = true) (h0 : RV G A F (eval func F.env) (pureM (.type "bool"))) (h1 : RArg G A F pos args m) :
    RV G A F (eval (.Call func args [] pos) F.env) (bindM m boolOfM) := D_typed boolOf_R hf h0 h1
theorem D_range1 {n : Nat} {fn e : Expr} {pos : Pos} {m : Sm Value} (hr : Room n A) (hf : (match fn with | .Attribute .. => false | _ => true) = true) (h0 : RV G A F (eval fn F.env) (pureM (.type "range"))) (hs : notStar e = true) (h1 : RV G A F (eval e F.env) m) : RI G A F (fn.Call [e] [] pos) fun Q σ => m (fun v σ' => range1M v Q σ') σ := RI_range1 (pos := pos) hr.handled hf h0 hs h1
noncomputable def seqJ (a b : Sm Flow) : Sm Flow := fun Q σ => ∃ J : St → Prop, a (fun f σ' => match f with | .next => J σ' | f => Q f σ') σ ∧ ∀ σ', J σ' → b Q σ'
theorem RS_consJ {st : Stmt} {rest : List Stmt} {a b : Sm Flow} (h1 : RF G A F (exec st F.env) a) (h2 : RF G A F (execs rest F.env) b) : RF G A F (execs (st :: rest) F.env) (seqJ a b) := RA.mk fun keep σ s Q E R hm => by
  obtain ⟨J, hm, hJ⟩ := hm
  refine wpAny_execs_cons (wpAny_mono (h1.run keep σ s _ E R hm) (fun f s' ⟨σ', R', hq⟩ => ?_) fun _ _ e => e)
  cases f <;> first | exact h2.run keep σ' s' Q E R' (hJ σ' hq) | exact ⟨σ', R', hq⟩
theorem R_dead {st : Stmt} : RF G A F (exec st F.env) failM := RA.fail
end
end Mine
end
section
open PySem PySem.W PyProof.Rows PySem.Calls
set_option maxRecDepth 100000
namespace Mine
set_option genInjectivity false in
inductive Ex2 {α1 α2 : Type} (p : α1 → α2 → Prop) : Prop
  | mk (x1 : α1) (x2 : α2) (h : p x1 x2) : Ex2 p
set_option genInjectivity false in
inductive Ex3 {α1 α2 α3 : Type} (p : α1 → α2 → α3 → Prop) : Prop
  | mk (x1 : α1) (x2 : α2) (x3 : α3) (h : p x1 x2 x3) : Ex3 p
set_option genInjectivity false in
inductive Ex4 {α1 α2 α3 α4 : Type} (p : α1 → α2 → α3 → α4 → Prop) : Prop
  | mk (x1 : α1) (x2 : α2) (x3 : α3) (x4 : α4) (h : p x1 x2 x3 x4) : Ex4 p
set_option genInjectivity false in
inductive Ex5 {α1 α2 α3 α4 α5 : Type} (p : α1 → α2 → α3 → α4 → α5 → Prop) : Prop
  | mk (x1 : α1) (x2 : α2) (x3 : α3) (x4 : α4) (x5 : α5) (h : p x1 x2 x3 x4 x5) : Ex5 p
set_option genInjectivity false in
inductive Ex6 {α1 α2 α3 α4 α5 α6 : Type} (p : α1 → α2 → α3 → α4 → α5 → α6 → Prop) : Prop
  | mk (x1 : α1) (x2 : α2) (x3 : α3) (x4 : α4) (x5 : α5) (x6 : α6) (h : p x1 x2 x3 x4 x5 x6) : Ex6 p
set_option genInjectivity false in
inductive Ex7 {α1 α2 α3 α4 α5 α6 α7 : Type} (p : α1 → α2 → α3 → α4 → α5 → α6 → α7 → Prop) : Prop
  | mk (x1 : α1) (x2 : α2) (x3 : α3) (x4 : α4) (x5 : α5) (x6 : α6) (x7 : α7) (h : p x1 x2 x3 x4 x5 x6 x7) : Ex7 p
set_option genInjectivity false in
inductive Ex8 {α1 α2 α3 α4 α5 α6 α7 α8 : Type} (p : α1 → α2 → α3 → α4 → α5 → α6 → α7 → α8 → Prop) : Prop
  | mk (x1 : α1) (x2 : α2) (x3 : α3) (x4 : α4) (x5 : α5) (x6 : α6) (x7 : α7) (x8 : α8) (h : p x1 x2 x3 x4 x5 x6 x7 x8) : Ex8 p
set_option genInjectivity false in
inductive Ex9 {α1 α2 α3 α4 α5 α6 α7 α8 α9 : Type} (p : α1 → α2 → α3 → α4 → α5 → α6 → α7 → α8 → α9 → Prop) : Prop
  | mk (x1 : α1) (x2 : α2) (x3 : α3) (x4 : α4) (x5 : α5) (x6 : α6) (x7 : α7) (x8 : α8) (x9 : α9) (h : p x1 x2 x3 x4 x5 x6 x7 x8 x9) : Ex9 p
set_option genInjectivity false in
inductive Ex10 {α1 α2 α3 α4 α5 α6 α7 α8 α9 α10 : Type} (p : α1 → α2 → α3 → α4 → α5 → α6 → α7 → α8 → α9 → α10 → Prop) : Prop
  | mk (x1 : α1) (x2 : α2) (x3 : α3) (x4 : α4) (x5 : α5) (x6 : α6) (x7 : α7) (x8 : α8) (x9 : α9) (x10 : α10) (h : p x1 x2 x3 x4 x5 x6 x7 x8 x9 x10) : Ex10 p
set_option genInjectivity false in
structure All2 (a1 a2 : Prop) : Prop where
  mk :: (p1 : a1) (p2 : a2)
set_option genInjectivity false in
structure All3 (a1 a2 a3 : Prop) : Prop where
  mk :: (p1 : a1) (p2 : a2) (p3 : a3)
set_option genInjectivity false in
structure All4 (a1 a2 a3 a4 : Prop) : Prop where
  mk :: (p1 : a1) (p2 : a2) (p3 : a3) (p4 : a4)
set_option genInjectivity false in
structure All5 (a1 a2 a3 a4 a5 : Prop) : Prop where
  mk :: (p1 : a1) (p2 : a2) (p3 : a3) (p4 : a4) (p5 : a5)
set_option genInjectivity false in
structure All6 (a1 a2 a3 a4 a5 a6 : Prop) : Prop where
  mk :: (p1 : a1) (p2 : a2) (p3 : a3) (p4 : a4) (p5 : a5) (p6 : a6)
set_option genInjectivity false in
structure All7 (a1 a2 a3 a4 a5 a6 a7 : Prop) : Prop where
  mk :: (p1 : a1) (p2 : a2) (p3 : a3) (p4 : a4) (p5 : a5) (p6 : a6) (p7 : a7)
set_option genInjectivity false in
structure All8 (a1 a2 a3 a4 a5 a6 a7 a8 : Prop) : Prop where
  mk :: (p1 : a1) (p2 : a2) (p3 : a3) (p4 : a4) (p5 : a5) (p6 : a6) (p7 : a7) (p8 : a8)
set_option genInjectivity false in
structure All9 (a1 a2 a3 a4 a5 a6 a7 a8 a9 : Prop) : Prop where
  mk :: (p1 : a1) (p2 : a2) (p3 : a3) (p4 : a4) (p5 : a5) (p6 : a6) (p7 : a7) (p8 : a8) (p9 : a9)
set_option genInjectivity false in
structure All10 (a1 a2 a3 a4 a5 a6 a7 a8 a9 a10 : Prop) : Prop where
  mk :: (p1 : a1) (p2 : a2) (p3 : a3) (p4 : a4) (p5 : a5) (p6 : a6) (p7 : a7) (p8 : a8) (p9 : a9) (p10 : a10)
set_option genInjectivity false in
structure All11 (a1 a2 a3 a4 a5 a6 a7 a8 a9 a10 a11 : Prop) : Prop where
  mk :: (p1 : a1) (p2 : a2) (p3 : a3) (p4 : a4) (p5 : a5) (p6 : a6) (p7 : a7) (p8 : a8) (p9 : a9) (p10 : a10) (p11 : a11)
set_option genInjectivity false in
structure All12 (a1 a2 a3 a4 a5 a6 a7 a8 a9 a10 a11 a12 : Prop) : Prop where
  mk :: (p1 : a1) (p2 : a2) (p3 : a3) (p4 : a4) (p5 : a5) (p6 : a6) (p7 : a7) (p8 : a8) (p9 : a9) (p10 : a10) (p11 : a11) (p12 : a12)
set_option genInjectivity false in
structure All13 (a1 a2 a3 a4 a5 a6 a7 a8 a9 a10 a11 a12 a13 : Prop) : Prop where
  mk :: (p1 : a1) (p2 : a2) (p3 : a3) (p4 : a4) (p5 : a5) (p6 : a6) (p7 : a7) (p8 : a8) (p9 : a9) (p10 : a10) (p11 : a11) (p12 : a12) (p13 : a13)
set_option genInjectivity false in
structure All14 (a1 a2 a3 a4 a5 a6 a7 a8 a9 a10 a11 a12 a13 a14 : Prop) : Prop where
  mk :: (p1 : a1) (p2 : a2) (p3 : a3) (p4 : a4) (p5 : a5) (p6 : a6) (p7 : a7) (p8 : a8) (p9 : a9) (p10 : a10) (p11 : a11) (p12 : a12) (p13 : a13) (p14 : a14)
set_option genInjectivity false in
structure All15 (a1 a2 a3 a4 a5 a6 a7 a8 a9 a10 a11 a12 a13 a14 a15 : Prop) : Prop where
  mk :: (p1 : a1) (p2 : a2) (p3 : a3) (p4 : a4) (p5 : a5) (p6 : a6) (p7 : a7) (p8 : a8) (p9 : a9) (p10 : a10) (p11 : a11) (p12 : a12) (p13 : a13) (p14 : a14) (p15 : a15)
set_option genInjectivity false in
structure All16 (a1 a2 a3 a4 a5 a6 a7 a8 a9 a10 a11 a12 a13 a14 a15 a16 : Prop) : Prop where
  mk :: (p1 : a1) (p2 : a2) (p3 : a3) (p4 : a4) (p5 : a5) (p6 : a6) (p7 : a7) (p8 : a8) (p9 : a9) (p10 : a10) (p11 : a11) (p12 : a12) (p13 : a13) (p14 : a14) (p15 : a15) (p16 : a16)
set_option genInjectivity false in
structure All17 (a1 a2 a3 a4 a5 a6 a7 a8 a9 a10 a11 a12 a13 a14 a15 a16 a17 : Prop) : Prop where
  mk :: (p1 : a1) (p2 : a2) (p3 : a3) (p4 : a4) (p5 : a5) (p6 : a6) (p7 : a7) (p8 : a8) (p9 : a9) (p10 : a10) (p11 : a11) (p12 : a12) (p13 : a13) (p14 : a14) (p15 : a15) (p16 : a16) (p17 : a17)
set_option genInjectivity false in
structure All18 (a1 a2 a3 a4 a5 a6 a7 a8 a9 a10 a11 a12 a13 a14 a15 a16 a17 a18 : Prop) : Prop where
  mk :: (p1 : a1) (p2 : a2) (p3 : a3) (p4 : a4) (p5 : a5) (p6 : a6) (p7 : a7) (p8 : a8) (p9 : a9) (p10 : a10) (p11 : a11) (p12 : a12) (p13 : a13) (p14 : a14) (p15 : a15) (p16 : a16) (p17 : a17) (p18 : a18)
set_option genInjectivity false in
structure All19 (a1 a2 a3 a4 a5 a6 a7 a8 a9 a10 a11 a12 a13 a14 a15 a16 a17 a18 a19 : Prop) : Prop where
  mk :: (p1 : a1) (p2 : a2) (p3 : a3) (p4 : a4) (p5 : a5) (p6 : a6) (p7 : a7) (p8 : a8) (p9 : a9) (p10 : a10) (p11 : a11) (p12 : a12) (p13 : a13) (p14 : a14) (p15 : a15) (p16 : a16) (p17 : a17) (p18 : a18) (p19 : a19)
set_option genInjectivity false in
structure All20 (a1 a2 a3 a4 a5 a6 a7 a8 a9 a10 a11 a12 a13 a14 a15 a16 a17 a18 a19 a20 : Prop) : Prop where
  mk :: (p1 : a1) (p2 : a2) (p3 : a3) (p4 : a4) (p5 : a5) (p6 : a6) (p7 : a7) (p8 : a8) (p9 : a9) (p10 : a10) (p11 : a11) (p12 : a12) (p13 : a13) (p14 : a14) (p15 : a15) (p16 : a16) (p17 : a17) (p18 : a18) (p19 : a19) (p20 : a20)
noncomputable def sto (l : List (Str × Value)) (h : H) : St := ⟨fun x => l.lookup x, h⟩
theorem sto_put (l : List (Str × Value)) (h : H) (x : Str) (v : Value) : (sto l h).put x v = sto ((x, v) :: l) h := rfl
theorem sto_seth (l : List (Str × Value)) (h : H) (a : Addr) (o : AObj) : (sto l h).seth a o = sto l (h.set a o) := rfl
theorem sto_h (l : List (Str × Value)) (h : H) : (sto l h).h = h := rfl
theorem sto_mk (l : List (Str × Value)) (h h' : H) : (⟨(sto l h).l, h'⟩ : St) = sto l h' := rfl
theorem bindsSt_sto (h : H) (binds : List (Str × Value)) : bindsSt h binds = sto binds.reverse h := rfl
theorem look {l : List (Str × Value)} {h : H} {x : Str} {v : Value} {P : Value → Prop} (e : l.lookup x = some v) (p : P v) : ∃ v, (sto l h).l x = some v ∧ P v := ⟨v, e, p⟩
noncomputable abbrev nm (l : List (Str × Value)) (x : Str) : Option Value := l.lookup x
noncomputable def AllIn (σ : St) : List (Str × Value) → Prop
  | [] => True
  | (x, v) :: r => σ.l x = some v ∧ AllIn σ r
theorem le_sto {l : List (Str × Value)} {h : H} {σ : St} (hl : AllIn σ l) (hh : ∀ a ao, h a = some ao → σ.h a = some ao) : (sto l h).le σ := by
  refine ⟨fun x v e => ?_, hh⟩
  have hm := mem_of_lookup (show l.lookup x = some v from e)
  clear e
  induction l with
  | nil => cases hm
  | cons p r ih =>
    obtain ⟨y, u⟩ := p
    rcases List.mem_cons.mp hm with q | q
    · cases q; exact hl.1
    · exact ih hl.2 q
theorem weak_sto {I : St → Prop} {l : List (Str × Value)} {h : H} {σ : St} (hI : I (sto l h)) (hl : AllIn σ l) (hh : ∀ a ao, h a = some ao → σ.h a = some ao) : weakI I σ := ⟨_, le_sto hl hh, hI⟩
theorem H.set_set (h : H) (a : Addr) (o o' : AObj) : (h.set a o).set a o' = h.set a o' := by
  funext b
  unfold H.set
  split <;> rfl
theorem H.set_same {h : H} {a : Addr} {o : AObj} (e : h a = some o) : h.set a o = h := by
  funext b
  unfold H.set
  split
  · rename_i q; rw [q, e]
  · rfl
theorem v_item {σ : St} {a : Addr} {k : Int} {t : Tok} {xs : List Value} {v : Value} {Q : Value → St → Prop} (e : σ.h a = some (.list xs)) (hk : at? xs k = some v) (hq : Q v σ) : itemM (.ref a) (.int k t) Q σ := by
  unfold itemM; simp only [e]; exact ⟨v, hk, hq⟩
theorem v_setItem {σ : St} {a : Addr} {k : Int} {t : Tok} {xs ys : List Value} {v : Value} {Q : Unit → St → Prop} (e : σ.h a = some (.list xs)) (hk : setAt? xs k v = some ys) (hq : Q () (σ.seth a (.list ys))) : setItemM (.ref a) (.int k t) v Q σ := by
  unfold setItemM; simp only [e]; exact ⟨ys, hk, hq⟩
section
variable {σ : St} {i j : Int} {t u : Tok} {Q : Value → St → Prop}
theorem v_tru {b : Bool} {Q : Bool → St → Prop} (h : Q b σ) : truM (.bool b) Q σ := h
theorem v_lt (h : Q (.bool (decide (i < j))) σ) : cmpM2 .Lt (.int i t) (.int j u) Q σ := h
theorem v_le (h : Q (.bool (decide (i ≤ j))) σ) : cmpM2 .LtE (.int i t) (.int j u) Q σ := h
theorem v_gt (h : Q (.bool (decide (i > j))) σ) : cmpM2 .Gt (.int i t) (.int j u) Q σ := h
theorem v_ge (h : Q (.bool (decide (i ≥ j))) σ) : cmpM2 .GtE (.int i t) (.int j u) Q σ := h
theorem v_eq (h : Q (.bool (i == j)) σ) : cmpM2 .Eq (.int i t) (.int j u) Q σ := h
theorem v_ne (h : Q (.bool (i != j)) σ) : cmpM2 .NotEq (.int i t) (.int j u) Q σ := h
theorem v_add (h : Q (.int (i + j) 0) σ) : binM .Add (.int i t) (.int j u) Q σ := h
theorem v_sub (h : Q (.int (i - j) 0) σ) : binM .Sub (.int i t) (.int j u) Q σ := h
theorem v_mul (hi : i.natAbs < 2 ^ 60) (h : Q (.int (i * j) 0) σ) : binM .Mult (.int i t) (.int j u) Q σ := ⟨hi, h⟩
theorem v_mod (hj : 0 < j) (h : Q (.int (i % j) 0) σ) : binM .Mod (.int i t) (.int j u) Q σ := ⟨hj, h⟩
theorem v_fdiv (hj : 0 < j) (hj' : j < 1000000) (h : Q (.int (i / j) 0) σ) : binM .FloorDiv (.int i t) (.int j u) Q σ := ⟨hj, hj', h⟩
theorem v_shl (hj : 0 ≤ j) (hj' : j ≤ 1000) (hi : i.natAbs < 2 ^ 60) (h : Q (.int (i * 2 ^ j.toNat) 0) σ) : binM .LShift (.int i t) (.int j u) Q σ := ⟨hj, hj', hi, h⟩
theorem v_shr (hj : 0 ≤ j) (h : Q (.int (i / 2 ^ j.toNat) 0) σ) : binM .RShift (.int i t) (.int j u) Q σ := ⟨hj, h⟩
theorem v_and (h : Q (.int (Builtin.bitAnd i j) 0) σ) : binM .BitAnd (.int i t) (.int j u) Q σ := h
theorem v_or (h : Q (.int (Builtin.bitOr i j) 0) σ) : binM .BitOr (.int i t) (.int j u) Q σ := h
theorem v_xor (h : Q (.int (Builtin.bitXor i j) 0) σ) : binM .BitXor (.int i t) (.int j u) Q σ := h
end
noncomputable def vInts (ns : List Int) : List Value := ns.map fun n => .int n 0
theorem at_vInts {ns : List Int} {k : Nat} (h : k < ns.length) (hk : k < 2 ^ 62) : at? (vInts ns) k = some (.int ns[k] 0) := by
  unfold at? vInts
  have h1 : (0 : Int) ≤ k := Int.natCast_nonneg k
  have h2 : (k : Int) < 2 ^ 62 := by omega
  rw [if_pos h1, if_pos h2]
  simp [h]
theorem setAt_vInts {ns : List Int} {k : Nat} {x : Int} (h : k < ns.length) (hk : k < 2 ^ 62) : setAt? (vInts ns) k (.int x 0) = some (vInts (ns.set k x)) := by
  unfold setAt? vInts
  rw [if_pos ⟨Int.natCast_nonneg k, by simpa using h, by omega⟩]
  simp
theorem vInts_length (ns : List Int) : (vInts ns).length = ns.length := by simp [vInts]
theorem v_len {σ : St} {a : Addr} {xs : List Value} {Q : Value → St → Prop} (e : σ.h a = some (.list xs)) (hl : xs.length ≤ 1000000) (hq : Q (.int xs.length 0) σ) : lenM [.ref a] Q σ := by
  unfold lenM; simp only [e]; exact ⟨hl, hq⟩
theorem v_append {σ : St} {a : Addr} {xs : List Value} {v : Value} {Q : Value → St → Prop} (e : σ.h a = some (.list xs)) (hl : xs.length ≤ 1000000) (hq : Q .none (σ.seth a (.list (xs ++ [v])))) : appendM (.ref a) [v] Q σ := by
  unfold appendM; simp only [e]; exact ⟨hl, hq⟩
theorem v_pop {σ : St} {a : Addr} {xs : List Value} {v : Value} {Q : Value → St → Prop} (e : σ.h a = some (.list xs)) (hl : xs.length ≤ 1000000) (hv : xs.getLast? = some v) (hq : Q v (σ.seth a (.list xs.dropLast))) : popM (.ref a) [] Q σ := by
  unfold popM; simp only [e]; exact ⟨hl, v, hv, hq⟩
theorem v_truList {σ : St} {a : Addr} {xs : List Value} {Q : Bool → St → Prop} (e : σ.h a = some (.list xs)) (hl : xs.length ≤ 1000000) (hq : Q (xs.length != 0) σ) : truM (.ref a) Q σ := by
  unfold truM; simp only [e]; exact ⟨hl, hq⟩
theorem v_isList {σ : St} {a : Addr} {xs : List Value} (e : σ.h a = some (.list xs)) : isListP (.ref a) σ := by
  unfold isListP; simp only [e]
theorem vInts_snoc (ns : List Int) (x : Int) : vInts ns ++ [.int x 0] = vInts (ns ++ [x]) := by simp [vInts]
theorem vInts_dropLast (ns : List Int) : (vInts ns).dropLast = vInts ns.dropLast := by simp [vInts]
theorem vInts_last {ns : List Int} (h : 0 < ns.length) : (vInts ns).getLast? = some (.int (ns.getLastD 0) 0) := by
  unfold vInts
  rw [List.getLast?_map]
  cases ns with
  | nil => simp at h
  | cons x r => simp [List.getLast?_cons]
theorem H.set_comm (h : H) {a b : Addr} (o o' : AObj) (e : a ≠ b) : (h.set a o).set b o' = (h.set b o').set a o := by
  funext c
  unfold H.set
  by_cases h1 : c = b
  · by_cases h2 : c = a
    · exact absurd (h2.symm.trans h1) e
    · simp [h1, e.symm]
  · by_cases h2 : c = a <;> simp [h1, h2, e]
theorem v_sset {σ : St} {a dx C : Addr} {i : Nat} {sl : List (Option Value)} {fs : List (Str × Value)} {v : Value} {Q : Unit → St → Prop} (e : σ.h a = some (.inst C dx sl)) (e' : σ.h dx = some (.nd fs)) (hq : Q () (σ.seth a (.inst C dx (slotPut sl i v)))) : ssetM i C (.ref a) v Q σ := by
  unfold ssetM; simp only [e, e']; exact ⟨trivial, hq⟩
theorem v_dset {σ : St} {a dx C : Addr} {name : Str} {sl : List (Option Value)} {fs : List (Str × Value)} {v : Value} {Q : Unit → St → Prop} (e : σ.h a = some (.inst C dx sl)) (e' : σ.h dx = some (.nd fs)) (hl : fs.length ≤ 100) (hq : Q () (σ.seth dx (.nd (ndPut fs name v)))) : dsetM name C (.ref a) v Q σ := by
  unfold dsetM; simp only [e, e']; exact ⟨trivial, hl, hq⟩
theorem v_sattr {σ : St} {a dx C : Addr} {i : Nat} {sl : List (Option Value)} {fs : List (Str × Value)} {v : Value} {Q : Value → St → Prop} (e : σ.h a = some (.inst C dx sl)) (e' : σ.h dx = some (.nd fs)) (hv : sl[i]? = some (some v)) (ho : okV v = true) (hq : Q v σ) : sattrM C i (.ref a) Q σ := by
  unfold sattrM; simp only [e, e']; exact ⟨trivial, v, hv, ho, hq⟩
theorem v_dattr {σ : St} {a dx C : Addr} {name : Str} {sl : List (Option Value)} {fs : List (Str × Value)} {v : Value} {Q : Value → St → Prop} (e : σ.h a = some (.inst C dx sl)) (e' : σ.h dx = some (.nd fs)) (hv : ndGet fs name = some v) (ho : okV v = true) (hq : Q v σ) : dattrM C name (.ref a) Q σ := by
  unfold dattrM; simp only [e, e']; exact ⟨trivial, v, hv, ho, hq⟩
end Mine
end
section
open PySem PySem.W PyProof.Rows PySem.Calls
set_option maxRecDepth 100000
namespace Mine
section
variable {G : Gnd}
noncomputable def bsVar (names : List Str) (va : Str) : List Value → (List (Str × Value) → H → Prop) → H → Prop := fun args Q h => names.length ≤ args.length ∧ args.length ≤ 1000000 ∧ ∀ T, h T = none → Q (names.zip (args.take names.length) ++ [(va, .ref T)]) (h.set T (.tup (args.drop names.length)))
theorem bindOK_var {fd : FuncData} {names : List Str} {va : Str} (hb : ∀ vs : List Value, names.length ≤ vs.length → bindArgs fd ⟨vs, []⟩ = (newTuple (vs.drop names.length) >>= fun t => pure (names.zip (vs.take names.length) ++ [(va, t)]))) : BindOK G fd (bsVar names va) := fun A vs keep h s Q E R ⟨h1, h2, hq⟩ => by
  rw [List.length_map] at h1 h2
  rw [hb vs h1]
  unfold newTuple
  refine wpAny_bind (wpAny_newObj_type (wpAny_pure ⟨_, R.alloc (t := s.toks) (ao := .tup ((vs.drop names.length).map er)) (Nat.le_refl _) (fun b o e => Heap.get?_push_of_some _ e) (push_le _ _) ⟨(vs.drop names.length).toArray, ⟨_, Heap.get?_push_size _ rfl, rfl, _, rfl⟩, by simp⟩, fun b o e => Heap.get?_push_of_some _ e, ?_⟩) (by show (vs.drop names.length).toArray.size ≤ sizeLine; simp only [List.size_toArray, List.length_drop, sizeLine]; omega))
  have := hq s.heap.objs.size (R.none_of_le (Nat.le_refl _))
  rw [List.map_append, zip_erp, List.map_take, List.map_drop]
  exact this
end
end Mine
namespace Mine
section
variable {G : Gnd}
theorem consOf {α : Type} {l : List α} {n : Nat} (h : l.length = n + 1) : ∃ a r, l = a :: r ∧ r.length = n := by
  cases l with
  | nil => cases h
  | cons a r => exact ⟨a, r, rfl, Nat.succ.inj h⟩
theorem consLe {α : Type} {l : List α} {n : Nat} (h : n + 1 ≤ l.length) : ∃ a r, l = a :: r ∧ n ≤ r.length := by
  cases l with
  | nil => cases h
  | cons a r => exact ⟨a, r, rfl, Nat.le_of_succ_le_succ h⟩
theorem bindOK1 {fd : FuncData} {x : Str} (hb : ∀ a, bindArgs fd ⟨[a], []⟩ = pure [(x, a)]) : BindOK G fd (bsPlain [x]) := bindOK_plain fun vs h => by
  obtain ⟨a, r1, e1, k1⟩ := consOf (n := 0) h
  subst e1
  cases List.length_eq_zero_iff.mp k1
  exact hb a
theorem bindOK2 {fd : FuncData} {x y : Str} (hb : ∀ a b, bindArgs fd ⟨[a, b], []⟩ = pure [(x, a), (y, b)]) : BindOK G fd (bsPlain [x, y]) := bindOK_plain fun vs h => by
  obtain ⟨a, r1, e1, k1⟩ := consOf (n := 1) h
  subst e1
  obtain ⟨b, r2, e2, k2⟩ := consOf (n := 0) k1
  subst e2
  cases List.length_eq_zero_iff.mp k2
  exact hb a b
theorem bindOK3 {fd : FuncData} {x y z : Str} (hb : ∀ a b c, bindArgs fd ⟨[a, b, c], []⟩ = pure [(x, a), (y, b), (z, c)]) : BindOK G fd (bsPlain [x, y, z]) := bindOK_plain fun vs h => by
  obtain ⟨a, r1, e1, k1⟩ := consOf (n := 2) h
  subst e1
  obtain ⟨b, r2, e2, k2⟩ := consOf (n := 1) k1
  subst e2
  obtain ⟨c, r3, e3, k3⟩ := consOf (n := 0) k2
  subst e3
  cases List.length_eq_zero_iff.mp k3
  exact hb a b c
theorem bindOKv1 {fd : FuncData} {x va : Str} (h0 : ∀ a, bindArgs fd ⟨[a], []⟩ = (newTuple [] >>= fun t => pure ([(x, a)] ++ [(va, t)]))) (h1 : ∀ a c r, bindArgs fd ⟨a :: c :: r, []⟩ = (newTuple (c :: r) >>= fun t => pure ([(x, a)] ++ [(va, t)]))) : BindOK G fd (bsVar [x] va) := bindOK_var fun vs h => by
  obtain ⟨a, r1, e1, k1⟩ := consLe (n := 0) h
  subst e1
  cases r1 with
  | nil => exact h0 a
  | cons c r => exact h1 a c r
theorem bindOKv2 {fd : FuncData} {x y va : Str} (h0 : ∀ a b, bindArgs fd ⟨[a, b], []⟩ = (newTuple [] >>= fun t => pure ([(x, a), (y, b)] ++ [(va, t)]))) (h1 : ∀ a b c r, bindArgs fd ⟨a :: b :: c :: r, []⟩ = (newTuple (c :: r) >>= fun t => pure ([(x, a), (y, b)] ++ [(va, t)]))) : BindOK G fd (bsVar [x, y] va) := bindOK_var fun vs h => by
  obtain ⟨a, r1, e1, k1⟩ := consLe (n := 1) h
  subst e1
  obtain ⟨b, r2, e2, k2⟩ := consLe (n := 0) k1
  subst e2
  cases r2 with
  | nil => exact h0 a b
  | cons c r => exact h1 a b c r
theorem all_zip {P : Str → Bool} : ∀ (names : List Str) (args : List Value), names.all P = true → ((names.zip args).all fun y => P y.1) = true
  | [], _, _ => by simp
  | _ :: _, [], _ => by simp
  | n :: ns, a :: as, h => by
    rw [List.all_cons, Bool.and_eq_true] at h
    rw [List.zip_cons_cons, List.all_cons, Bool.and_eq_true]
    exact ⟨h.1, all_zip ns as h.2⟩
theorem kind_plain {names : List Str} {sc : Scope} (hn : (names.all fun x => sc.names.lookup x == some .local || sc.names.lookup x == some .cell) = true) (args : List Value) (Q : List (Str × Value) → H → Prop) (h : H) (hb : bsPlain names args Q h) :
    bsPlain names args (fun binds h' => (binds.all fun y => sc.names.lookup y.1 == some .local || sc.names.lookup y.1 == some .cell) = true ∧ Q binds h') h := ⟨hb.1, all_zip names args hn, hb.2⟩
theorem kind_var {names : List Str} {va : Str} {sc : Scope} (hn : ((names ++ [va]).all fun x => sc.names.lookup x == some .local || sc.names.lookup x == some .cell) = true) (args : List Value) (Q : List (Str × Value) → H → Prop) (h : H) (hb : bsVar names va args Q h) :
    bsVar names va args (fun binds h' => (binds.all fun y => sc.names.lookup y.1 == some .local || sc.names.lookup y.1 == some .cell) = true ∧ Q binds h') h := ⟨hb.1, hb.2.1, fun T hT => ⟨by
  rw [List.all_append, Bool.and_eq_true] at hn ⊢
  refine ⟨all_zip (P := fun x => sc.names.lookup x == some .local || sc.names.lookup x == some .cell) names _ hn.1, ?_⟩
  have h2 := hn.2
  rw [List.all_cons, Bool.and_eq_true] at h2 ⊢
  exact ⟨h2.1, rfl⟩, hb.2.2 T hT⟩⟩
end
end Mine
end
section
open PySem PySem.W PyProof.Rows PySem.Calls
set_option maxRecDepth 100000
namespace Mine
theorem valueAt_map {f : Str → Value} {ns : List Str} {k : Str} : valueAt (ns.map fun v => (v, f v)) k = if k ∈ ns then some (f k) else none := by
  unfold valueAt
  induction ns with
  | nil => simp
  | cons n r ih =>
    rw [List.map_cons, List.find?_cons]
    by_cases h : n = k
    · subst h; simp
    · simp only [h, decide_false]
      rw [ih]
      have : (k ∈ n :: r) = (k ∈ r) := by simp [Ne.symm h]
      simp only [this]
theorem stored_map {f : Str → Value} {ns : List Str} {k : Str} (v : Value) (h : k ∉ ns) : stored (ns.map fun v => (v, f v)) k v = (ns.map fun v => (v, f v)) ++ [(k, v)] := by
  unfold stored
  rw [if_neg]
  simp only [List.any_map, List.any_eq_true, Function.comp_apply, decide_eq_true_eq]
  rintro ⟨x, hx, rfl⟩
  exact h hx
set_option genInjectivity false in
structure Frame (h h' : H) (fp fp' : Addr → Prop) : Prop where
  own : ∀ a, fp' a → fp a ∨ h a = none
  out : ∀ a, ¬ fp a → h a ≠ none → h' a = h a
theorem Frame.refl (h : H) (fp : Addr → Prop) : Frame h h fp fp := ⟨fun _ e => .inl e, fun _ _ _ => rfl⟩
theorem Frame.trans {h h' h'' : H} {fp fp' fp'' : Addr → Prop} (f : Frame h h' fp fp') (f' : Frame h' h'' fp' fp'') : Frame h h'' fp fp'' := ⟨fun a e => by
  rcases f'.own a e with q | q
  · exact f.own a q
  · by_cases k : fp a
    · exact .inl k
    · by_cases z : h a = none
      · exact .inr z
      · rw [f.out a k z] at q; exact .inr q, fun a e n => by
  have e1 := f.out a e n
  rw [← e1]
  refine f'.out a (fun q => ?_) (by rw [e1]; exact n)
  rcases f.own a q with k | k
  · exact e k
  · exact n k⟩
theorem Frame.fresh {h : H} {fp : Addr → Prop} {a : Addr} {o : AObj} (e : h a = none) : Frame h (h.set a o) fp fp := ⟨fun _ e => .inl e, fun b _ z => H.set_ne _ _ fun q => z (q ▸ e)⟩
theorem Frame.get {h h' : H} {fp fp' : Addr → Prop} (f : Frame h h' fp fp') {b : Addr} {o : AObj} (e : h b = some o) (k : ¬ fp b) : h' b = some o := by rw [f.out b k (by rw [e]; exact (fun q => by cases q)), e]
theorem Frame.not {h h' : H} {fp fp' : Addr → Prop} (f : Frame h h' fp fp') {b : Addr} {o : AObj} (e : h b = some o) (k : ¬ fp b) : ¬ fp' b := fun q => by
  rcases f.own b q with z | z
  · exact k z
  · rw [e] at z; cases z
set_option genInjectivity false in
structure TS where
  names : List Str
  np : Str → Int
  succ : Str → List Str
  ready : Option (List Str)
  npo : Int
  nfi : Int
set_option genInjectivity false in
structure Lay where
  dx : Addr
  D : Addr
  r : Addr
  ep : Nat
  na : Str → Addr
  da : Str → Addr
  sa : Str → Addr
noncomputable abbrev niSl (v : Value) (np : Int) (S : Addr) : List (Option Value) := [some v, some (.int np 0), some (.ref S)]
noncomputable def tsNd (D : Addr) (rdy : Value) (npo nfi : Int) : List (Str × Value) := [("_node2info", .ref D), ("_ready_nodes", rdy), ("_npassedout", .int npo 0), ("_nfinished", .int nfi 0)]
noncomputable def rvOf (L : Lay) (T : TS) : Value := match T.ready with
  | none => .none
  | some _ => .ref L.r
noncomputable abbrev nrefs (L : Lay) (T : TS) : List (Str × Value) := T.names.map fun v => (v, .ref (L.na v))
set_option genInjectivity false in
structure SA (cT cN : Addr) (h : H) (x : Addr) (L : Lay) (T : TS) : Prop where
  hx : h x = some (.inst cT L.dx [])
  hdx : h L.dx = some (.nd (tsNd L.D (rvOf L T) T.npo T.nfi))
  hD : h L.D = some (.sd (nrefs L T) L.ep)
  nd : T.names.Nodup
  hn : ∀ v ∈ T.names, h (L.na v) = some (.inst cN (L.da v) (niSl (.str v 0) (T.np v) (L.sa v)))
  hd : ∀ v ∈ T.names, h (L.da v) = some (.nd [])
  hs : ∀ v ∈ T.names, h (L.sa v) = some (.list (strVs (T.succ v)))
  inj : ∀ v ∈ T.names, ∀ w ∈ T.names, L.sa v = L.sa w → v = w
  hr : ∀ rs, T.ready = some rs → h L.r = some (.list (strVs rs)) ∧ ∀ v ∈ T.names, L.sa v ≠ L.r
noncomputable def Lay.fp (L : Lay) (x : Addr) (T : TS) (a : Addr) : Prop := a = x ∨ a = L.dx ∨ a = L.D ∨ (T.ready ≠ none ∧ a = L.r) ∨ ∃ v ∈ T.names, a = L.na v ∨ a = L.da v ∨ a = L.sa v
section
variable {cT cN x : Addr} {h h' : H} {L L' : Lay} {T T' : TS}
theorem SA.alive (S : SA cT cN h x L T) {a : Addr} (e : L.fp x T a) : ∃ o, h a = some o := by
  rcases e with rfl | rfl | rfl | ⟨e, rfl⟩ | ⟨v, hv, rfl | rfl | rfl⟩
  · exact ⟨_, S.hx⟩
  · exact ⟨_, S.hdx⟩
  · exact ⟨_, S.hD⟩
  · cases q : T.ready with
    | none => exact absurd q e
    | some rs => exact ⟨_, (S.hr rs q).1⟩
  · exact ⟨_, S.hn v hv⟩
  · exact ⟨_, S.hd v hv⟩
  · exact ⟨_, S.hs v hv⟩
theorem SA.new (S : SA cT cN h x L T) {a : Addr} (e : h a = none) : ¬ L.fp x T a := fun q => by
  obtain ⟨o, ho⟩ := S.alive q
  rw [e] at ho; cases ho
theorem SA.keep (S : SA cT cN h x L T) (k : ∀ a, L.fp x T a → h' a = h a) : SA cT cN h' x L T :=
  ⟨(k _ (.inl rfl)).trans S.hx, (k _ (.inr (.inl rfl))).trans S.hdx, (k _ (.inr (.inr (.inl rfl)))).trans S.hD, S.nd, fun v hv => (k _ (.inr (.inr (.inr (.inr ⟨v, hv, .inl rfl⟩))))).trans (S.hn v hv), fun v hv => (k _ (.inr (.inr (.inr (.inr ⟨v, hv, .inr (.inl rfl)⟩))))).trans (S.hd v hv),
    fun v hv => (k _ (.inr (.inr (.inr (.inr ⟨v, hv, .inr (.inr rfl)⟩))))).trans (S.hs v hv), S.inj, fun rs e => ⟨(k _ (.inr (.inr (.inr (.inl ⟨by rw [e]; exact (fun q => by cases q), rfl⟩))))).trans (S.hr rs e).1, (S.hr rs e).2⟩⟩
theorem SA.keepSet (S : SA cT cN h x L T) {a : Addr} {o : AObj} (k : ¬ L.fp x T a) : SA cT cN (h.set a o) x L T := S.keep fun b e => H.set_ne _ _ fun q => k (q ▸ e)
end
noncomputable def upd {β : Type} (f : Str → β) (v : Str) (b : β) : Str → β := fun w => if w = v then b else f w
theorem upd_self {β : Type} (f : Str → β) (v : Str) (b : β) : upd f v b v = b := if_pos rfl
theorem upd_ne {β : Type} (f : Str → β) {v w : Str} (b : β) (e : w ≠ v) : upd f v b w = f w := if_neg e
noncomputable def TS.blank (T : TS) : Prop := ∀ w, w ∉ T.names → T.np w = 0 ∧ T.succ w = []
noncomputable def infoT (T : TS) (v : Str) : TS := { T with names := if v ∈ T.names then T.names else T.names ++ [v] }
theorem SA.addNode {cT cN x : Addr} {h h' : H} {L : Lay} {T : TS} {v : Str} {n d s : Addr} {ep : Nat} (S : SA cT cN h x L T) (hv : v ∉ T.names) (hb : T.blank) (h1 : h n = none) (h2 : h d = none) (h3 : h s = none)
    (e1 : h' n = some (.inst cN d (niSl (.str v 0) 0 s))) (e2 : h' d = some (.nd [])) (e3 : h' s = some (.list [])) (e4 : h' L.D = some (.sd (nrefs L T ++ [(v, .ref n)]) ep)) (e5 : ∀ a, a ≠ n → a ≠ d → a ≠ s → a ≠ L.D → h' a = h a) :
    SA cT cN h' x { L with ep := ep, na := upd L.na v n, da := upd L.da v d, sa := upd L.sa v s } (infoT T v) := by
  have k : ∀ a o, h a = some o → a ≠ L.D → h' a = some o := fun a o e q => (e5 a (fun q => by rw [q, h1] at e; cases e) (fun q => by rw [q, h2] at e; cases e) (fun q => by rw [q, h3] at e; cases e) q).trans e
  have hne : ∀ w ∈ T.names, w ≠ v := fun w hw q => hv (q ▸ hw)
  have nD : ∀ a o, h a = some o → (∀ kvs ep, o ≠ .sd kvs ep) → a ≠ L.D := fun a o e z q => by rw [q, S.hD] at e; exact z _ _ (Option.some.inj e).symm
  have hm : ∀ w, w ∈ (infoT T v).names ↔ w ∈ T.names ∨ w = v := fun w => by unfold infoT; rw [if_neg hv]; simp
  refine ⟨k _ _ S.hx (nD _ _ S.hx (by intros; intro q; cases q)), k _ _ S.hdx (nD _ _ S.hdx (by intros; intro q; cases q)), ?_, ?_, fun w hw => ?_, fun w hw => ?_, fun w hw => ?_, fun w hw w' hw' => ?_, fun rs e => ?_⟩
  · show h' L.D = _
    rw [e4]
    unfold nrefs infoT
    simp only [if_neg hv, List.map_append, List.map_cons, List.map_nil, upd_self]
    congr 3
    refine List.map_congr_left fun w hw => ?_
    rw [upd_ne _ _ (hne w hw)]
  · unfold infoT
    simp only [if_neg hv]
    rw [List.nodup_append]
    exact ⟨S.nd, by simp, fun a ha b hb => by simp at hb; subst hb; exact hne a ha⟩
  · rcases (hm w).mp hw with q | rfl
    · simp only [upd_ne _ _ (hne w q)]; exact k _ _ (S.hn w q) (nD _ _ (S.hn w q) (by intros; intro q; cases q))
    · simp only [upd_self]; rw [show (infoT T w).np w = T.np w from rfl, (hb w hv).1]; exact e1
  · rcases (hm w).mp hw with q | rfl
    · simp only [upd_ne _ _ (hne w q)]; exact k _ _ (S.hd w q) (nD _ _ (S.hd w q) (by intros; intro q; cases q))
    · simp only [upd_self]; exact e2
  · rcases (hm w).mp hw with q | rfl
    · simp only [upd_ne _ _ (hne w q)]; exact k _ _ (S.hs w q) (nD _ _ (S.hs w q) (by intros; intro q; cases q))
    · simp only [upd_self]; rw [show (infoT T w).succ w = T.succ w from rfl, (hb w hv).2]; exact e3
  · rcases (hm w).mp hw with q | rfl <;> rcases (hm w').mp hw' with q' | rfl
    · simp only [upd_ne _ _ (hne w q), upd_ne _ _ (hne w' q')]; exact S.inj w q w' q'
    · simp only [upd_ne _ _ (hne w q), upd_self]; intro z; have := S.hs w q; rw [z, h3] at this; cases this
    · simp only [upd_ne _ _ (hne w' q'), upd_self]; intro z; have := S.hs w' q'; rw [← z, h3] at this; cases this
    · exact fun _ => rfl
  · obtain ⟨r1, r2⟩ := S.hr rs e
    refine ⟨k _ _ r1 (nD _ _ r1 (by intros; intro q; cases q)), fun w hw => ?_⟩
    rcases (hm w).mp hw with q | rfl
    · simp only [upd_ne _ _ (hne w q)]; exact r2 w q
    · simp only [upd_self]; intro z; rw [← z, h3] at r1; cases r1
theorem SA.addNode_frame {x : Addr} {h h' : H} {L : Lay} {T : TS} {v : Str} {n d s : Addr} {ep : Nat} (hv : v ∉ T.names) (h1 : h n = none) (h2 : h d = none) (h3 : h s = none) (e5 : ∀ a, a ≠ n → a ≠ d → a ≠ s → a ≠ L.D → h' a = h a) :
    Frame h h' (L.fp x T) (Lay.fp { L with ep := ep, na := upd L.na v n, da := upd L.da v d, sa := upd L.sa v s } x (infoT T v)) := by
  refine ⟨fun a e => ?_, fun a e z => e5 a (fun q => z (q ▸ h1)) (fun q => z (q ▸ h2)) (fun q => z (q ▸ h3)) (fun q => e (.inr (.inr (.inl q))))⟩
  have hm : ∀ w, w ∈ (infoT T v).names ↔ w ∈ T.names ∨ w = v := fun w => by unfold infoT; rw [if_neg hv]; simp
  rcases e with e | e | e | ⟨q, e⟩ | ⟨w, hw, e⟩
  · exact .inl (.inl e)
  · exact .inl (.inr (.inl e))
  · exact .inl (.inr (.inr (.inl e)))
  · exact .inl (.inr (.inr (.inr (.inl ⟨q, e⟩))))
  · rcases (hm w).mp hw with q | rfl
    · simp only [upd_ne _ _ (show w ≠ v from fun z => hv (z ▸ q))] at e
      exact .inl (.inr (.inr (.inr (.inr ⟨w, q, e⟩))))
    · simp only [upd_self] at e
      rcases e with rfl | rfl | rfl
      · exact .inr h1
      · exact .inr h2
      · exact .inr h3
end Mine
end
section
open PySem PySem.W PyProof.Rows PySem.Calls
set_option maxRecDepth 100000
namespace Mine
section
variable {σ : St} {a : Addr} {t : Tok} {xs : List Value} {v : Value} {kvs : List (Str × Value)} {kvi : List (Int × Value)} {ep : Nat} {k : Str} {Q : Value → St → Prop} {QU : Unit → St → Prop}
theorem v_isDict (e : σ.h a = some (.sd kvs ep)) : isDictP (.ref a) σ := by unfold isDictP; simp only [e]
theorem v_isDictR (e : σ.h a = some (.rod kvi)) : isDictP (.ref a) σ := by unfold isDictP; simp only [e]
theorem v_getS (e : σ.h a = some (.sd kvs ep)) (hq : Q ((valueAt kvs k).getD .none) σ) : getM (.ref a) [.str k t] Q σ := by unfold getM; simp only [e]; exact hq
theorem v_getR {i : Int} {d : Value} (e : σ.h a = some (.rod kvi)) (hq : Q ((valueAt kvi i).getD d) σ) : getM (.ref a) [.int i t, d] Q σ := by unfold getM; simp only [e]; exact hq
theorem v_setS (e : σ.h a = some (.sd kvs ep)) (hl : kvs.length ≤ 100000) (hq : ∀ ep, QU () (σ.seth a (.sd (stored kvs k v) ep))) : setItemM (.ref a) (.str k t) v QU σ := by unfold setItemM; simp only [e]; exact ⟨hl, hq⟩
theorem v_setI {i : Int} (e : σ.h a = some (.idt kvi)) (hl : kvi.length ≤ 100000) (hq : QU () (σ.seth a (.idt (stored kvi i v)))) : setItemM (.ref a) (.int i t) v QU σ := by unfold setItemM; simp only [e]; exact ⟨hl, hq⟩
theorem v_itemS (e : σ.h a = some (.sd kvs ep)) (hv : valueAt kvs k = some v) (hq : Q v σ) : itemM (.ref a) (.str k t) Q σ := by unfold itemM; simp only [e]; exact ⟨v, hv, hq⟩
theorem v_itemI {i : Int} (e : σ.h a = some (.idt kvi)) (hv : valueAt kvi i = some v) (hq : Q v σ) : itemM (.ref a) (.int i t) Q σ := by unfold itemM; simp only [e]; exact ⟨v, hv, hq⟩
theorem v_isInst {C dx : Addr} {sl : List (Option Value)} {fs : List (Str × Value)} {name : Str} (e : σ.h a = some (.inst C dx sl)) (e' : σ.h dx = some (.nd fs)) (hn : ndGet fs name = none) : isInstP C name (.ref a) σ := by unfold isInstP; simp only [e, e']; exact ⟨trivial, hn⟩
theorem v_inSet {S : List Str} (e : σ.h a = some (.ss S)) (hq : Q (.bool (decide (k ∈ S))) σ) : cmpM2 .In (.str k t) (.ref a) Q σ := by unfold cmpM2 cmpM inM; simp only [e]; exact hq
theorem v_inSd (e : σ.h a = some (.sd kvs ep)) (hq : Q (.bool (valueAt kvs k).isSome) σ) : cmpM2 .In (.str k t) (.ref a) Q σ := by unfold cmpM2 cmpM inM; simp only [e]; exact hq
theorem v_addSet {S : List Str} (e : σ.h a = some (.ss S)) (hl : S.length < 4000) (hq : Q .none (σ.seth a (.ss (if k ∈ S then S else S ++ [k])))) : addM (.ref a) [.str k t] Q σ := by unfold addM; simp only [e]; exact ⟨hl, hq⟩
theorem v_isSet {S : List Str} (e : σ.h a = some (.ss S)) : isSetP (.ref a) σ := by unfold isSetP; simp only [e]
theorem v_lenTup (e : σ.h a = some (.tup xs)) (hl : xs.length ≤ 1000000) (hq : Q (.int xs.length 0) σ) : lenM [.ref a] Q σ := by unfold lenM; simp only [e]; exact ⟨hl, hq⟩
theorem v_tuple (e : σ.h a = some (.list xs)) (hl : xs.length ≤ 1000000) (hq : ∀ D, σ.h D = none → Q (.ref D) (σ.seth D (.tup xs))) : tupleM [.ref a] Q σ := by unfold tupleM; simp only [e]; exact ⟨hl, hq⟩
theorem v_clear (e : σ.h a = some (.list xs)) (hl : xs.length ≤ 1000000) (hq : Q .none (σ.seth a (.list []))) : clearM (.ref a) [] Q σ := by unfold clearM; simp only [e]; exact ⟨hl, hq⟩
theorem v_iterList {QI : List Value → (H → Prop) → St → Prop} (e : σ.h a = some (.list xs)) (hq : QI xs (fun h => h a = some (.list xs) ∨ h a = some (.ro xs)) σ) : iterV (.ref a) QI σ := by unfold iterV; simp only [e]; exact hq
theorem v_iterTup {QI : List Value → (H → Prop) → St → Prop} (e : σ.h a = some (.tup xs)) (hq : QI xs (fun h => h a = some (.tup xs)) σ) : iterV (.ref a) QI σ := by unfold iterV; simp only [e]; exact hq
theorem v_iterSd {QI : List Value → (H → Prop) → St → Prop} (e : σ.h a = some (.sd kvs ep)) (hq : QI (kvs.map fun p => .str p.1 0) (fun h => h a = some (.sd kvs ep)) σ) : iterV (.ref a) QI σ := by unfold iterV; simp only [e]; exact hq
theorem v_vals {QI : List Value → (H → Prop) → St → Prop} (e : σ.h a = some (.sd kvs ep)) (hq : QI (kvs.map (·.2)) (fun h => h a = some (.sd kvs ep)) σ) : valsM (.ref a) QI σ := by unfold valsM; simp only [e]; exact hq
theorem v_range1 {n : Int} {QI : List Value → (H → Prop) → St → Prop} (h1 : n < 1000000) (h2 : -1000000 < n) (hq : QI (rangeVals 0 1 n.toNat) (fun _ => True) σ) : range1M (.int n t) QI σ := ⟨h1, h2, hq⟩
end
section
variable {σ : St} {i j : Int} {t u : Tok} {Q : Value → St → Prop}
theorem v_aAdd (h : Q (.int (i + j) 0) σ) : augOp .Add (.int i t) (.int j u) Q σ := h
theorem v_aSub (h : Q (.int (i - j) 0) σ) : augOp .Sub (.int i t) (.int j u) Q σ := h
theorem v_aOr (h : Q (.int (Builtin.bitOr i j) 0) σ) : augOp .BitOr (.int i t) (.int j u) Q σ := h
theorem v_aXor (h : Q (.int (Builtin.bitXor i j) 0) σ) : augOp .BitXor (.int i t) (.int j u) Q σ := h
end
theorem H.set_other {h : H} {a b : Addr} {o o' p : AObj} (e : h a = some o) (e' : h b = some o') (ne : o ≠ o') : (h.set b p) a = some o := (H.set_ne _ _ fun q => ne (by rw [q, e'] at e; exact (Option.some.inj e).symm)).trans e
theorem H.set_fresh {h : H} {a b : Addr} {o p : AObj} (e : h a = some o) (e' : h b = none) : (h.set b p) a = some o := (H.set_ne _ _ fun q => by rw [q, e'] at e; cases e).trans e
section
variable {cT cN x : Addr} {h h' : H} {L L' : Lay} {T T' : TS}
theorem SA.setNp (S : SA cT cN h x L T) {v : Str} (hv : v ∈ T.names) (n : Int) : SA cT cN (h.set (L.na v) (.inst cN (L.da v) (niSl (.str v 0) n (L.sa v)))) x L { T with np := upd T.np v n } := by
  have e := S.hn v hv
  refine ⟨H.set_other S.hx e (by intro q; injection q with _ _ z; cases z), H.set_other S.hdx e (by intro q; cases q), H.set_other S.hD e (by intro q; cases q), S.nd, fun w hw => ?_, fun w hw => H.set_other (S.hd w hw) e (by intro q; cases q), fun w hw => H.set_other (S.hs w hw) e (by intro q; cases q), S.inj, fun rs q => ⟨H.set_other (S.hr rs q).1 e (by intro q; cases q), (S.hr rs q).2⟩⟩
  by_cases q : w = v
  · subst q
    rw [H.set_self]
    simp only [upd_self]
  · simp only [upd_ne _ _ q]
    exact H.set_other (S.hn w hw) e (by intro z; injection z with _ _ z; injection z with z; injection z with z; injection z with z; exact q z)
theorem SA.setSucc (S : SA cT cN h x L T) {v : Str} (hv : v ∈ T.names) (xs : List Str) : SA cT cN (h.set (L.sa v) (.list (strVs xs))) x L { T with succ := upd T.succ v xs } := by
  have e := S.hs v hv
  refine ⟨H.set_other S.hx e (by intro q; cases q), H.set_other S.hdx e (by intro q; cases q), H.set_other S.hD e (by intro q; cases q), S.nd, fun w hw => H.set_other (S.hn w hw) e (by intro q; cases q), fun w hw => H.set_other (S.hd w hw) e (by intro q; cases q), fun w hw => ?_, S.inj, fun rs q => ⟨(H.set_ne _ _ ((S.hr rs q).2 v hv).symm).trans (S.hr rs q).1, (S.hr rs q).2⟩⟩
  by_cases q : w = v
  · subst q
    rw [H.set_self]
    simp only [upd_self]
  · simp only [upd_ne _ _ q]
    exact (H.set_ne _ _ fun z => q (S.inj w hw v hv z)).trans (S.hs w hw)
theorem SA.setR (S : SA cT cN h x L T) {rs : List Str} (hr : T.ready = some rs) (xs : List Str) : SA cT cN (h.set L.r (.list (strVs xs))) x L { T with ready := some xs } := by
  obtain ⟨e, ne⟩ := S.hr rs hr
  have z : rvOf L { T with ready := some xs } = rvOf L T := by unfold rvOf; simp only [hr]
  refine ⟨H.set_other S.hx e (by intro q; cases q), ?_, H.set_other S.hD e (by intro q; cases q), S.nd, fun w hw => H.set_other (S.hn w hw) e (by intro q; cases q), fun w hw => H.set_other (S.hd w hw) e (by intro q; cases q), fun w hw => (H.set_ne _ _ (ne w hw)).trans (S.hs w hw), S.inj, fun rs' q => ⟨by cases q; exact H.set_self .., ne⟩⟩
  rw [z]; exact H.set_other S.hdx e (by intro q; cases q)
theorem SA.setDx (S : SA cT cN h x L T) {npo nfi : Int} : SA cT cN (h.set L.dx (.nd (tsNd L.D (rvOf L T) npo nfi))) x L { T with npo := npo, nfi := nfi } := by
  have e := S.hdx
  exact ⟨H.set_other S.hx e (by intro q; cases q), H.set_self .., H.set_other S.hD e (by intro q; cases q), S.nd, fun w hw => H.set_other (S.hn w hw) e (by intro q; cases q), fun w hw => H.set_other (S.hd w hw) e (by intro q; cases q), fun w hw => H.set_other (S.hs w hw) e (by intro q; cases q), S.inj, fun rs q => ⟨H.set_other (S.hr rs q).1 e (by intro q; cases q), (S.hr rs q).2⟩⟩
theorem SA.newR (S : SA cT cN h x L T) {r : Addr} {rs : List Str} (e' : h r = some (.list (strVs rs))) (nf : ¬ L.fp x T r) : SA cT cN (h.set L.dx (.nd (tsNd L.D (.ref r) T.npo T.nfi))) x { L with r := r } { T with ready := some rs } := by
  have e := S.hdx
  exact ⟨H.set_other S.hx e (by intro q; cases q), H.set_self .., H.set_other S.hD e (by intro q; cases q), S.nd, fun w hw => H.set_other (S.hn w hw) e (by intro q; cases q), fun w hw => H.set_other (S.hd w hw) e (by intro q; cases q), fun w hw => H.set_other (S.hs w hw) e (by intro q; cases q), S.inj, fun rs' q => ⟨by cases q; exact H.set_other e' e (by intro q; cases q), fun w hw z => nf (.inr (.inr (.inr (.inr ⟨w, hw, .inr (.inr z.symm)⟩))))⟩⟩
theorem Frame.set {h : H} {fp : Addr → Prop} {a : Addr} {o : AObj} (k : fp a) : Frame h (h.set a o) fp fp := ⟨fun _ e => .inl e, fun b e _ => H.set_ne _ _ fun q => e (q ▸ k)⟩
theorem fp_dx : L.fp x T L.dx := .inr (.inl rfl)
theorem fp_r {rs : List Str} (e : T.ready = some rs) : L.fp x T L.r := .inr (.inr (.inr (.inl ⟨by rw [e]; exact (fun q => by cases q), rfl⟩)))
theorem fp_na {v : Str} (hv : v ∈ T.names) : L.fp x T (L.na v) := .inr (.inr (.inr (.inr ⟨v, hv, .inl rfl⟩)))
theorem fp_sa {v : Str} (hv : v ∈ T.names) : L.fp x T (L.sa v) := .inr (.inr (.inr (.inr ⟨v, hv, .inr (.inr rfl)⟩)))
theorem fp_setR {rs xs : List Str} (hr : T.ready = some rs) : L.fp x { T with ready := some xs } = L.fp x T := by
  funext a; unfold Lay.fp; simp [hr]
section
variable {l : List (Str × Value)} {Q : Value → St → Prop} {QU : Unit → St → Prop} {t : Tok}
theorem rvOf_ok : okV (rvOf L T) = true := by unfold rvOf; split <;> rfl
theorem sa_n2i (S : SA cT cN h x L T) (hq : Q (.ref L.D) (sto l h)) : dattrM cT "_node2info" (.ref x) Q (sto l h) := v_dattr S.hx S.hdx (by rfl) rfl hq
theorem sa_rdy (S : SA cT cN h x L T) (hq : Q (rvOf L T) (sto l h)) : dattrM cT "_ready_nodes" (.ref x) Q (sto l h) := v_dattr S.hx S.hdx (by rfl) rvOf_ok hq
theorem sa_npo (S : SA cT cN h x L T) (hq : Q (.int T.npo 0) (sto l h)) : dattrM cT "_npassedout" (.ref x) Q (sto l h) := v_dattr S.hx S.hdx (by rfl) rfl hq
theorem sa_nfi (S : SA cT cN h x L T) (hq : Q (.int T.nfi 0) (sto l h)) : dattrM cT "_nfinished" (.ref x) Q (sto l h) := v_dattr S.hx S.hdx (by rfl) rfl hq
theorem sa_setNpo {n : Int} (S : SA cT cN h x L T) (hq : ∀ h', SA cT cN h' x L { T with npo := n } → Frame h h' (L.fp x T) (L.fp x T) → QU () (sto l h')) : dsetM "_npassedout" cT (.ref x) (.int n 0) QU (sto l h) := v_dset S.hx S.hdx (Nat.le_trans (Nat.le_of_eq (show _ = 4 from rfl)) (by decide)) (hq _ S.setDx (Frame.set fp_dx))
theorem sa_setNfi {n : Int} (S : SA cT cN h x L T) (hq : ∀ h', SA cT cN h' x L { T with nfi := n } → Frame h h' (L.fp x T) (L.fp x T) → QU () (sto l h')) : dsetM "_nfinished" cT (.ref x) (.int n 0) QU (sto l h) := v_dset S.hx S.hdx (Nat.le_trans (Nat.le_of_eq (show _ = 4 from rfl)) (by decide)) (hq _ S.setDx (Frame.set fp_dx))
theorem sa_setRdy {r : Addr} {rs : List Str} (S : SA cT cN h x L T) (e' : h r = some (.list (strVs rs))) (nf : ¬ L.fp x T r) (hq : QU () (sto l (h.set L.dx (.nd (tsNd L.D (.ref r) T.npo T.nfi))))) : dsetM "_ready_nodes" cT (.ref x) (.ref r) QU (sto l h) := v_dset S.hx S.hdx (Nat.le_trans (Nat.le_of_eq (show _ = 4 from rfl)) (by decide)) hq
theorem sa_isD (S : SA cT cN h x L T) : isDictP (.ref L.D) (sto l h) := v_isDict S.hD
theorem sa_get {v : Str} (S : SA cT cN h x L T) (hq : Q (if v ∈ T.names then .ref (L.na v) else .none) (sto l h)) : getM (.ref L.D) [.str v t] Q (sto l h) := v_getS S.hD (by
  rw [valueAt_map]
  by_cases q : v ∈ T.names
  · rw [if_pos q] at hq ⊢; exact hq
  · rw [if_neg q] at hq ⊢; exact hq)
theorem sa_item {v : Str} (S : SA cT cN h x L T) (hv : v ∈ T.names) (hq : Q (.ref (L.na v)) (sto l h)) : itemM (.ref L.D) (.str v t) Q (sto l h) := v_itemS S.hD (by rw [valueAt_map, if_pos hv]) hq
theorem sa_node {v : Str} (S : SA cT cN h x L T) (hv : v ∈ T.names) (hq : Q (.str v 0) (sto l h)) : sattrM cN 0 (.ref (L.na v)) Q (sto l h) := v_sattr (S.hn v hv) (S.hd v hv) rfl rfl hq
theorem sa_np {v : Str} (S : SA cT cN h x L T) (hv : v ∈ T.names) (hq : Q (.int (T.np v) 0) (sto l h)) : sattrM cN 1 (.ref (L.na v)) Q (sto l h) := v_sattr (S.hn v hv) (S.hd v hv) rfl rfl hq
theorem sa_succ {v : Str} (S : SA cT cN h x L T) (hv : v ∈ T.names) (hq : Q (.ref (L.sa v)) (sto l h)) : sattrM cN 2 (.ref (L.na v)) Q (sto l h) := v_sattr (S.hn v hv) (S.hd v hv) rfl rfl hq
theorem sa_setNp {v : Str} {n : Int} (S : SA cT cN h x L T) (hv : v ∈ T.names) (hq : ∀ h', SA cT cN h' x L { T with np := upd T.np v n } → Frame h h' (L.fp x T) (L.fp x T) → QU () (sto l h')) : ssetM 1 cN (.ref (L.na v)) (.int n 0) QU (sto l h) := v_sset (S.hn v hv) (S.hd v hv) (hq _ (S.setNp hv n) (Frame.set (fp_na hv)))
theorem strVs_snoc (xs : List Str) (v : Str) : strVs xs ++ [.str v 0] = strVs (xs ++ [v]) := by simp [strVs]
theorem strVs_length (xs : List Str) : (strVs xs).length = xs.length := by simp [strVs]
theorem sa_addSucc {v w : Str} (S : SA cT cN h x L T) (hv : v ∈ T.names) (hl : (T.succ v).length ≤ 1000000) (hq : ∀ h', SA cT cN h' x L { T with succ := upd T.succ v (T.succ v ++ [w]) } → Frame h h' (L.fp x T) (L.fp x T) → Q .none (sto l h')) : appendM (.ref (L.sa v)) [.str w 0] Q (sto l h) :=
  v_append (S.hs v hv) (by rw [strVs_length]; exact hl) (by rw [strVs_snoc]; exact hq _ (S.setSucc hv _) (Frame.set (fp_sa hv)))
theorem sa_addReady {rs : List Str} {w : Str} (S : SA cT cN h x L T) (hr : T.ready = some rs) (hl : rs.length ≤ 1000000) (hq : ∀ h', SA cT cN h' x L { T with ready := some (rs ++ [w]) } → Frame h h' (L.fp x T) (L.fp x T) → Q .none (sto l h')) : appendM (.ref L.r) [.str w 0] Q (sto l h) :=
  v_append (S.hr rs hr).1 (by rw [strVs_length]; exact hl) (by rw [strVs_snoc]; exact hq _ (S.setR hr _) (Frame.set (fp_r hr)))
end
end
end Mine
end
section
open PySem PySem.W PyProof.Rows PySem.Calls
set_option maxRecDepth 100000
namespace Mine
theorem infoT_mem {T : TS} {v w : Str} : w ∈ (infoT T v).names ↔ w ∈ T.names ∨ w = v := by
  unfold infoT
  by_cases h : v ∈ T.names
  · rw [if_pos h]; exact ⟨.inl, fun q => q.elim id fun e => e ▸ h⟩
  · rw [if_neg h]; simp
theorem infoT_len {T : TS} {v : Str} : (infoT T v).names.length ≤ T.names.length + 1 := by
  unfold infoT
  by_cases h : v ∈ T.names
  · rw [if_pos h]; exact Nat.le_succ _
  · rw [if_neg h]; simp
theorem blank_info {T : TS} {v : Str} (h : T.blank) : (infoT T v).blank := fun w hw => h w fun q => hw (infoT_mem.mpr (.inl q))
noncomputable def predT (v : Str) (T : TS) (p : Str) : TS := { infoT T p with succ := upd T.succ p (T.succ p ++ [v]) }
noncomputable def addT (T : TS) (v : Str) (ps : List Str) : TS := ps.foldl (predT v) { infoT T v with np := upd T.np v (T.np v + ps.length) }
theorem blank_pred {T : TS} {v p : Str} (h : T.blank) : (predT v T p).blank := fun w hw => by
  have hw' : w ∉ (infoT T p).names := hw
  rw [infoT_mem, not_or] at hw'
  exact ⟨(h w hw'.1).1, (upd_ne _ _ hw'.2).trans (h w hw'.1).2⟩
theorem blank_np {T : TS} {v : Str} {n : Int} (hv : v ∈ T.names) (h : T.blank) : TS.blank { T with np := upd T.np v n } := fun w hw => ⟨(upd_ne _ _ fun (q : w = v) => hw (show w ∈ T.names from q ▸ hv)).trans (h w hw).1, (h w hw).2⟩
theorem predT_succ_len {T : TS} {v p w : Str} : ((predT v T p).succ w).length ≤ (T.succ w).length + 1 := by
  show (upd T.succ p (T.succ p ++ [v]) w).length ≤ _
  by_cases q : w = p
  · subst q; rw [upd_self]; simp
  · rw [upd_ne _ _ q]; omega
theorem foldPred {v : Str} : ∀ (ps : List Str) (T : TS), T.blank → (ps.foldl (predT v) T).blank ∧ (ps.foldl (predT v) T).names.length ≤ T.names.length + ps.length ∧ (∀ w, ((ps.foldl (predT v) T).succ w).length ≤ (T.succ w).length + ps.length) ∧ (ps.foldl (predT v) T).ready = T.ready ∧ (∀ w, w ∈ (ps.foldl (predT v) T).names ↔ w ∈ T.names ∨ w ∈ ps) ∧ (ps.foldl (predT v) T).np = T.np
  | [], T, h => ⟨h, by simp, by simp, rfl, by simp, rfl⟩
  | p :: ps, T, h => by
    obtain ⟨h1, h2, h3, h4, h5, h6⟩ := foldPred ps (predT v T p) (blank_pred h)
    have hn : (predT v T p).names.length ≤ T.names.length + 1 := infoT_len
    refine ⟨h1, ?_, fun w => ?_, h4, fun w => ?_, h6⟩
    · rw [List.foldl_cons, List.length_cons]; omega
    · have a := h3 w
      have b := predT_succ_len (T := T) (v := v) (p := p) (w := w)
      rw [List.foldl_cons, List.length_cons]; omega
    · rw [List.foldl_cons, h5 w]
      show (w ∈ (infoT T p).names ∨ _) ↔ _
      rw [infoT_mem, List.mem_cons, or_assoc]
end Mine
namespace Mine
noncomputable def readyT (T : TS) (rs : List Str) : TS := { T with np := fun v => if v ∈ rs then -1 else T.np v, ready := some [], npo := T.npo + rs.length }
noncomputable def decT (T : TS) (s : Str) : TS := { T with np := upd T.np s (T.np s - 1), ready := if T.np s - 1 = 0 then T.ready.map (· ++ [s]) else T.ready }
noncomputable def done1 (T : TS) (v : Str) : TS := { (T.succ v).foldl decT { T with np := upd T.np v (-2) } with nfi := T.nfi + 1 }
noncomputable def doneT (T : TS) (ns : List Str) : TS := ns.foldl done1 T
theorem foldDec : ∀ (ss : List Str) (T : TS) (rs : List Str), T.ready = some rs → (ss.foldl decT T).names = T.names ∧ (ss.foldl decT T).succ = T.succ ∧ (ss.foldl decT T).npo = T.npo ∧ (ss.foldl decT T).nfi = T.nfi ∧ ∃ rs', (ss.foldl decT T).ready = some rs' ∧ rs'.length ≤ rs.length + ss.length
  | [], T, rs, h => ⟨rfl, rfl, rfl, rfl, rs, h, by simp⟩
  | s :: ss, T, rs, h => by
    have : ∃ rs₁, (decT T s).ready = some rs₁ ∧ rs₁.length ≤ rs.length + 1 := by
      show ∃ rs₁, (if T.np s - 1 = 0 then T.ready.map (· ++ [s]) else T.ready) = some rs₁ ∧ _
      rw [h]
      by_cases q : T.np s - 1 = 0
      · rw [if_pos q]; exact ⟨_, rfl, by simp⟩
      · rw [if_neg q]; exact ⟨_, rfl, by omega⟩
    obtain ⟨rs₁, e, l⟩ := this
    obtain ⟨a, b, c, d, rs', e', l'⟩ := foldDec ss (decT T s) rs₁ e
    exact ⟨a, b, c, d, rs', e', by rw [List.length_cons]; omega⟩
theorem foldDone {B : Nat} : ∀ (ns : List Str) (T : TS) (rs : List Str), T.ready = some rs → (∀ v ∈ ns, v ∈ T.names) → (∀ v ∈ T.names, (T.succ v).length ≤ B) → (doneT T ns).names = T.names ∧ (doneT T ns).succ = T.succ ∧ (doneT T ns).npo = T.npo ∧ (doneT T ns).nfi = T.nfi + ns.length ∧ ∃ rs', (doneT T ns).ready = some rs' ∧ rs'.length ≤ rs.length + ns.length * B
  | [], T, rs, h, _, _ => ⟨rfl, rfl, rfl, by simp [doneT], rs, h, by simp⟩
  | v :: ns, T, rs, h, hn, hB => by
    obtain ⟨a, b, c, d, rs₁, e, l⟩ := foldDec (T.succ v) { T with np := upd T.np v (-2) } rs h
    have a : (done1 T v).names = T.names := a
    have b : (done1 T v).succ = T.succ := b
    have hb := hB v (hn v (.head _))
    obtain ⟨a', b', c', d', rs', e', l'⟩ := foldDone (B := B) ns (done1 T v) rs₁ e (fun w hw => by rw [a]; exact hn w (.tail _ hw)) (by rw [a, b]; exact hB)
    refine ⟨a'.trans a, b'.trans b, c'.trans c, d'.trans ?_, rs', e', ?_⟩
    · show T.nfi + 1 + _ = _; rw [List.length_cons]; omega
    · rw [List.length_cons, Nat.succ_mul]; omega
end Mine
end
section
open PySem PySem.W PyProof.Rows PySem.Calls
set_option maxRecDepth 100000
namespace Mine
set_option genInjectivity false in
inductive Reach (succ : Str → List Str) : Str → Str → Prop
  | one {a b : Str} : b ∈ succ a → Reach succ a b
  | tail {a b c : Str} : Reach succ a b → c ∈ succ b → Reach succ a c
noncomputable def Topo (succ : Str → List Str) : List Str → Prop
  | [] => True
  | v :: r => (∀ s ∈ succ v, s ∈ r) ∧ Topo succ r
set_option genInjectivity false in
structure Ent where
  v : Str
  p : Nat
  mw : Addr
  it : Addr
noncomputable def Okstk (succ : Str → List Str) (fin : List Str) : Option Str → List Ent → Prop
  | c, [] => True
  | c, e :: r => (∀ w, c = some w → w ∈ succ e.v) ∧ (∀ w ∈ (succ e.v).take e.p, w ∈ fin ∨ some w = c) ∧ Okstk succ fin (some e.v) r
theorem Okstk.reach {succ : Str → List Str} {fin : List Str} : ∀ {stk : List Ent} {c : Str}, Okstk succ fin (some c) stk → ∀ e ∈ stk, Reach succ e.v c
  | e :: r, c, ⟨h1, _, h3⟩, e', he => by
    rcases List.mem_cons.mp he with rfl | he
    · exact .one (h1 c rfl)
    · exact .tail (Okstk.reach h3 e' he) (h1 c rfl)
theorem Okstk.mono {succ : Str → List Str} {fin fin' : List Str} (hs : ∀ w, w ∈ fin → w ∈ fin') : ∀ {stk : List Ent} {c c' : Option Str}, (∀ w, c = some w → c' = some w ∨ w ∈ fin') → (∀ w, c' = some w → c = some w) → Okstk succ fin c stk → Okstk succ fin' c' stk
  | [], _, _, _, _, _ => trivial
  | e :: r, c, c', hc, hc', ⟨h1, h2, h3⟩ => by
    refine ⟨fun w hw => h1 w (hc' w hw), fun w hw => ?_, Okstk.mono hs (fun w hw => .inl hw) (fun w hw => hw) h3⟩
    rcases h2 w hw with q | q
    · exact .inl (hs w q)
    · rcases hc w q.symm with q | q
      · exact .inr q.symm
      · exact .inl q
theorem Topo.mem {succ : Str → List Str} : ∀ {fin : List Str} {v s : Str}, Topo succ fin → v ∈ fin → s ∈ succ v → s ∈ fin
  | u :: r, v, s, ⟨h1, h2⟩, hv, hs => by
    rcases List.mem_cons.mp hv with rfl | hv
    · exact .tail _ (h1 s hs)
    · exact .tail _ (Topo.mem h2 hv hs)
theorem nodup_len {α : Type} [DecidableEq α] {S N : List α} (h : S.Nodup) (hs : ∀ v ∈ S, v ∈ N) : S.length ≤ N.length := by
  induction S generalizing N with
  | nil => exact Nat.zero_le _
  | cons v S ih =>
    rw [List.nodup_cons] at h
    have hv : v ∈ N := hs v (.head _)
    have := ih (N := N.erase v) h.2 fun w hw => (List.mem_erase_of_ne fun (q : w = v) => h.1 (q ▸ hw)).mpr (hs w (.tail _ hw))
    rw [List.length_erase_of_mem hv] at this
    have : 0 < N.length := List.length_pos_of_mem hv
    rw [List.length_cons]; omega
noncomputable def restOf (succ : Str → List Str) (seen : List Str) (names : List Str) : Nat := ((names.filter fun v => decide (v ∉ seen)).map fun v => (succ v).length).sum
theorem rest_push {succ : Str → List Str} {seen : List Str} {v : Str} (hv : v ∉ seen) : ∀ {names : List Str}, names.Nodup → v ∈ names → restOf succ seen names = (succ v).length + restOf succ (seen ++ [v]) names
  | n :: r, hn, hm => by
    rw [List.nodup_cons] at hn
    unfold restOf
    rw [List.filter_cons, List.filter_cons]
    by_cases q : n = v
    · subst q
      have e : (r.filter fun w => decide (w ∉ seen ++ [n])) = r.filter fun w => decide (w ∉ seen) := by
        refine List.filter_congr fun w hw => ?_
        have : w ≠ n := fun z => hn.1 (z ▸ hw)
        simp [this]
      rw [if_pos (by simpa using hv), if_neg (by simp), e]
      simp
    · have hm : v ∈ r := (List.mem_cons.mp hm).resolve_left fun z => q z.symm
      have ih := rest_push (succ := succ) hv hn.2 hm
      unfold restOf at ih
      have e : decide (n ∉ seen ++ [v]) = decide (n ∉ seen) := by simp [q]
      rw [e]
      split
      · rw [List.map_cons, List.map_cons, List.sum_cons, List.sum_cons, ih]; omega
      · exact ih
noncomputable def remOf (succ : Str → List Str) (stk : List Ent) : Nat := (stk.map fun e => (succ e.v).length - e.p).sum
noncomputable def enumR : List Str → List (Str × Value)
  | [] => []
  | v :: r => enumR r ++ [(v, .int r.length 0)]
theorem enumR_len : ∀ (r : List Str), (enumR r).length = r.length
  | [] => rfl
  | v :: r => by unfold enumR; rw [List.length_append, enumR_len r]; rfl
theorem enumR_mem : ∀ {r : List Str} {v : Str} {u : Value}, (v, u) ∈ enumR r → v ∈ r
  | w :: r, v, u, h => by
    unfold enumR at h
    rcases List.mem_append.mp h with h | h
    · exact .tail _ (enumR_mem h)
    · have := List.mem_singleton.mp h
      cases this; exact .head _
theorem enumR_push {r : List Str} {v : Str} (h : v ∉ r) : stored (enumR r) v (.int r.length 0) = enumR (v :: r) := by
  unfold stored
  rw [if_neg]
  · rfl
  · simp only [List.any_eq_true, decide_eq_true_eq]
    rintro ⟨⟨x, u⟩, hx, rfl⟩
    exact h (enumR_mem hx)
theorem enumR_pop {r : List Str} {v : Str} (h : v ∉ r) : without (enumR (v :: r)) v = enumR r := by
  show (enumR r ++ [(v, Value.int r.length 0)]).filter _ = _
  rw [List.filter_append, List.filter_eq_self.mpr, List.filter_cons]
  · simp
  · rintro ⟨x, u⟩ hx
    simp only [ne_eq, decide_eq_true_eq]
    rintro rfl
    exact h (enumR_mem hx)
theorem valueAt_append {K : Type} [DecidableEq K] {a b : List (K × Value)} {k : K} : valueAt (a ++ b) k = (valueAt a k).or (valueAt b k) := by
  unfold valueAt
  rw [List.find?_append]
  cases a.find? fun kv => decide (kv.1 = k) <;> rfl
theorem enumR_at : ∀ {r : List Str} {v : Str}, v ∈ r → ∃ i : Nat, i < r.length ∧ valueAt (enumR r) v = some (.int i 0)
  | w :: r, v, h => by
    unfold enumR
    rw [valueAt_append]
    by_cases q : v ∈ r
    · obtain ⟨i, hi, e⟩ := enumR_at q
      exact ⟨i, Nat.lt_succ_of_lt hi, by rw [e]; rfl⟩
    · have hw : v = w := (List.mem_cons.mp h).resolve_right q
      subst hw
      have : valueAt (enumR r) v = none := by
        unfold valueAt
        rw [List.find?_eq_none.mpr]
        · rfl
        · rintro ⟨x, u⟩ hx
          simp only [decide_eq_true_eq]
          rintro rfl
          exact q (enumR_mem hx)
      refine ⟨r.length, by simp, ?_⟩
      rw [this]
      simp [valueAt]
theorem enumR_none {r : List Str} {v : Str} (h : v ∉ r) : valueAt (enumR r) v = none := by
  unfold valueAt
  rw [List.find?_eq_none.mpr]
  · rfl
  · rintro ⟨x, u⟩ hx
    simp only [decide_eq_true_eq]
    rintro rfl
    exact h (enumR_mem hx)
set_option genInjectivity false in
structure Dfs (h0 h : H) (L : Lay) (SL IL SS ND : Addr) (stk : List Ent) (seen : List Str) : Prop where
  sub : ∀ a o, h0 a = some o → h a = some o
  sl : h SL = some (.list (strVs (stk.map (·.v)).reverse))
  il : h IL = some (.list (stk.map fun e => Value.ref e.mw).reverse)
  ss : h SS = some (.ss seen)
  nd : ∃ ep, h ND = some (.sd (enumR (stk.map (·.v))) ep)
  f1 : h0 SL = none
  f2 : h0 IL = none
  f3 : h0 SS = none
  f4 : h0 ND = none
  ne : SL ≠ IL
  ents : ∀ e ∈ stk, h e.mw = some (.mw e.it) ∧ h e.it = some (.lit (L.sa e.v) e.p) ∧ h0 e.it = none
theorem Dfs.push {h0 h h' : H} {L : Lay} {SL IL SS ND : Addr} {stk : List Ent} {seen : List Str} {v : Str} {mw it : Addr} (d : Dfs h0 h L SL IL SS ND stk seen) (hit : h it = none) (hmw : h mw = none) (hv : v ∉ stk.map (·.v))
    (e1 : h' SL = some (.list (strVs (stk.map (·.v)).reverse ++ [.str v 0]))) (e2 : h' IL = some (.list ((stk.map fun e => Value.ref e.mw).reverse ++ [.ref mw]))) (e3 : h' SS = some (.ss (seen ++ [v]))) (e4 : ∃ ep, h' ND = some (.sd (stored (enumR (stk.map (·.v))) v (.int (stk.map (·.v)).length 0)) ep))
    (e5 : h' mw = some (.mw it)) (e6 : h' it = some (.lit (L.sa v) 0)) (e7 : ∀ a o, h a = some o → a ≠ SL → a ≠ IL → a ≠ SS → a ≠ ND → h' a = some o) : Dfs h0 h' L SL IL SS ND (⟨v, 0, mw, it⟩ :: stk) (seen ++ [v]) := by
  have hs : ∀ a o, h0 a = some o → h' a = some o := fun a o e => e7 a o (d.sub a o e) (fun q => by rw [q, d.f1] at e; cases e) (fun q => by rw [q, d.f2] at e; cases e) (fun q => by rw [q, d.f3] at e; cases e) (fun q => by rw [q, d.f4] at e; cases e)
  obtain ⟨ep, e4⟩ := e4
  obtain ⟨ep0, nd0⟩ := d.nd
  refine ⟨hs, ?_, ?_, e3, ⟨ep, ?_⟩, d.f1, d.f2, d.f3, d.f4, d.ne, fun e he => ?_⟩
  · rw [e1, strVs_snoc]; simp
  · rw [e2]; simp
  · rw [e4, enumR_push hv]; rfl
  · rcases List.mem_cons.mp he with rfl | he
    · refine ⟨e5, e6, ?_⟩
      cases q : h0 it with
      | none => rfl
      | some o => have := d.sub _ _ q; rw [hit] at this; cases this
    · obtain ⟨k1, k2, k3⟩ := d.ents e he
      have hne : ∀ {a : Addr} {o : AObj}, h a = some o → (∀ xs, o ≠ .list xs) → (∀ S, o ≠ .ss S) → (∀ k e, o ≠ .sd k e) → h' a = some o := fun {a o} e q1 q2 q3 =>
        e7 a o e (fun z => by rw [z, d.sl] at e; exact q1 _ (Option.some.inj e).symm) (fun z => by rw [z, d.il] at e; exact q1 _ (Option.some.inj e).symm) (fun z => by rw [z, d.ss] at e; exact q2 _ (Option.some.inj e).symm) (fun z => by rw [z, nd0] at e; exact q3 _ _ (Option.some.inj e).symm)
      exact ⟨hne k1 (by intros; intro q; cases q) (by intros; intro q; cases q) (by intros; intro q; cases q), hne k2 (by intros; intro q; cases q) (by intros; intro q; cases q) (by intros; intro q; cases q), k3⟩
theorem Dfs.next {h0 h : H} {L : Lay} {SL IL SS ND : Addr} {e : Ent} {stk : List Ent} {seen : List Str} (d : Dfs h0 h L SL IL SS ND (e :: stk) seen) (hd : ∀ e' ∈ stk, L.sa e'.v ≠ L.sa e.v) : Dfs h0 (h.set e.it (.lit (L.sa e.v) (e.p + 1))) L SL IL SS ND (⟨e.v, e.p + 1, e.mw, e.it⟩ :: stk) seen := by
  obtain ⟨k1, k2, k3⟩ := d.ents e (.head _)
  obtain ⟨ep0, nd0⟩ := d.nd
  refine ⟨fun a o q => (H.set_ne _ _ fun z => by rw [z, k3] at q; cases q).trans (d.sub a o q), H.set_other d.sl k2 (by intro q; cases q), H.set_other d.il k2 (by intro q; cases q), H.set_other d.ss k2 (by intro q; cases q), ⟨ep0, H.set_other nd0 k2 (by intro q; cases q)⟩, d.f1, d.f2, d.f3, d.f4, d.ne, fun e' he => ?_⟩
  rcases List.mem_cons.mp he with rfl | he
  · exact ⟨H.set_other k1 k2 (by intro q; cases q), H.set_self .., k3⟩
  · obtain ⟨j1, j2, j3⟩ := d.ents e' (.tail _ he)
    exact ⟨H.set_other j1 k2 (by intro q; cases q), H.set_other j2 k2 (by intro q; injection q with z _; exact hd e' he z), j3⟩
theorem Dfs.pop {h0 h h' : H} {L : Lay} {SL IL SS ND : Addr} {e : Ent} {stk : List Ent} {seen : List Str} (d : Dfs h0 h L SL IL SS ND (e :: stk) seen) (hd : ∀ e' ∈ stk, L.sa e'.v ≠ L.sa e.v) (hv : e.v ∉ stk.map (·.v))
    (e1 : h' SL = some (.list (strVs (stk.map (·.v)).reverse))) (e2 : h' IL = some (.list (stk.map fun e => Value.ref e.mw).reverse)) (e4 : ∃ ep, h' ND = some (.sd (enumR (stk.map (·.v))) ep))
    (e7 : ∀ a o, h a = some o → a ≠ SL → a ≠ IL → a ≠ ND → a ≠ e.it → h' a = some o) : Dfs h0 h' L SL IL SS ND stk seen := by
  obtain ⟨k1, k2, k3⟩ := d.ents e (.head _)
  obtain ⟨ep0, nd0⟩ := d.nd
  have hne : ∀ {a : Addr} {o : AObj}, h a = some o → (∀ xs, o ≠ .list xs) → (∀ k e, o ≠ .sd k e) → o ≠ .lit (L.sa e.v) e.p → h' a = some o := fun {a o} e q1 q3 q4 =>
    e7 a o e (fun z => by rw [z, d.sl] at e; exact q1 _ (Option.some.inj e).symm) (fun z => by rw [z, d.il] at e; exact q1 _ (Option.some.inj e).symm) (fun z => by rw [z, nd0] at e; exact q3 _ _ (Option.some.inj e).symm) (fun z => by rw [z, k2] at e; exact q4 (Option.some.inj e).symm)
  refine ⟨fun a o q => e7 a o (d.sub a o q) (fun z => by rw [z, d.f1] at q; cases q) (fun z => by rw [z, d.f2] at q; cases q) (fun z => by rw [z, d.f4] at q; cases q) (fun z => by rw [z, k3] at q; cases q), e1, e2, hne d.ss (by intros; intro q; cases q) (by intros; intro q; cases q) (by intro q; cases q), e4, d.f1, d.f2, d.f3, d.f4, d.ne, fun e' he => ?_⟩
  obtain ⟨j1, j2, j3⟩ := d.ents e' (.tail _ he)
  exact ⟨hne j1 (by intros; intro q; cases q) (by intros; intro q; cases q) (by intro q; cases q), hne j2 (by intros; intro q; cases q) (by intros; intro q; cases q) (by intro q; injection q with z _; exact hd e' he z), j3⟩
set_option genInjectivity false in
structure Know (T : TS) (stk : List Ent) (seen fin : List Str) (c : Option Str) : Prop where
  sn : ∀ v, v ∈ seen ↔ v ∈ stk.map (·.v) ∨ v ∈ fin
  nds : seen.Nodup
  sub : ∀ v ∈ seen, v ∈ T.names
  topo : Topo T.succ fin
  ndk : (stk.map (·.v)).Nodup
  dis : ∀ v ∈ stk.map (·.v), v ∉ fin
  ok : Okstk T.succ fin c stk
  ndf : fin.Nodup
theorem Know.push {T : TS} {stk : List Ent} {seen fin : List Str} {v : Str} {mw it : Addr} (k : Know T stk seen fin (some v)) (hv : v ∈ T.names) (hs : v ∉ seen) : Know T (⟨v, 0, mw, it⟩ :: stk) (seen ++ [v]) fin none := by
  have h1 : v ∉ stk.map (·.v) := fun q => hs ((k.sn v).mpr (.inl q))
  have h2 : v ∉ fin := fun q => hs ((k.sn v).mpr (.inr q))
  refine ⟨fun w => ?_, ?_, fun w hw => ?_, k.topo, ?_, fun w hw => ?_, ⟨fun w q => (by cases q), fun w hw => (by simp at hw), k.ok⟩, k.ndf⟩
  · rw [List.mem_append, k.sn w, List.mem_singleton, List.map_cons, List.mem_cons]
    constructor
    · rintro ((q | q) | q)
      · exact .inl (.inr q)
      · exact .inr q
      · exact .inl (.inl q)
    · rintro ((q | q) | q)
      · exact .inr q
      · exact .inl (.inl q)
      · exact .inl (.inr q)
  · rw [List.nodup_append]
    exact ⟨k.nds, by simp, fun a ha b hb => by rw [List.mem_singleton] at hb; subst hb; exact fun q => hs (q ▸ ha)⟩
  · rcases List.mem_append.mp hw with q | q
    · exact k.sub w q
    · rw [List.mem_singleton] at q; subst q; exact hv
  · rw [List.map_cons, List.nodup_cons]; exact ⟨h1, k.ndk⟩
  · rw [List.map_cons, List.mem_cons] at hw
    rcases hw with rfl | hw
    · exact h2
    · exact k.dis w hw
theorem Know.done {T : TS} {stk : List Ent} {seen fin : List Str} {v : Str} (k : Know T stk seen fin (some v)) (hv : v ∈ fin) : Know T stk seen fin none :=
  ⟨k.sn, k.nds, k.sub, k.topo, k.ndk, k.dis, k.ok.mono (fun _ q => q) (fun w q => .inr (by cases q; exact hv)) (fun w q => (by cases q)), k.ndf⟩
theorem Know.next {T : TS} {e : Ent} {stk : List Ent} {seen fin : List Str} (k : Know T (e :: stk) seen fin none) (hp : e.p < (T.succ e.v).length) : Know T (⟨e.v, e.p + 1, e.mw, e.it⟩ :: stk) seen fin (some (T.succ e.v)[e.p]) := by
  obtain ⟨h1, h2, h3⟩ := k.ok
  refine ⟨k.sn, k.nds, k.sub, k.topo, k.ndk, k.dis, ⟨fun w q => (by cases q; exact List.getElem_mem hp), fun w hw => ?_, h3⟩, k.ndf⟩
  rw [List.take_add_one, List.getElem?_eq_getElem hp] at hw
  rcases List.mem_append.mp hw with q | q
  · exact (h2 w q).imp id fun z => by cases z
  · simp only [Option.toList_some, List.mem_singleton] at q
    exact .inr (by rw [q])
theorem Know.pop {T : TS} {e : Ent} {stk : List Ent} {seen fin : List Str} (k : Know T (e :: stk) seen fin none) (hp : (T.succ e.v).length ≤ e.p) : Know T stk seen (e.v :: fin) none := by
  obtain ⟨h1, h2, h3⟩ := k.ok
  have hn := k.ndk
  rw [List.map_cons, List.nodup_cons] at hn
  refine ⟨fun w => ?_, k.nds, k.sub, ⟨fun s hs => ?_, k.topo⟩, hn.2, fun w hw => ?_, h3.mono (fun _ q => .tail _ q) (fun w q => .inr (by cases q; exact .head _)) (fun w q => (by cases q)), ?_⟩
  · rw [k.sn w, List.map_cons, List.mem_cons, List.mem_cons]
    constructor
    · rintro ((q | q) | q)
      · exact .inr (.inl q)
      · exact .inl q
      · exact .inr (.inr q)
    · rintro (q | q | q)
      · exact .inl (.inr q)
      · exact .inl (.inl q)
      · exact .inr q
  · rw [List.take_of_length_le hp] at h2
    exact (h2 s hs).resolve_right fun z => by cases z
  · rw [List.mem_cons, not_or]
    exact ⟨fun q => hn.1 (q ▸ hw), k.dis w (by rw [List.map_cons]; exact .tail _ hw)⟩
  · rw [List.nodup_cons]; exact ⟨k.dis _ (by rw [List.map_cons]; exact .head _), k.ndf⟩
theorem Know.ring {T : TS} {stk : List Ent} {seen fin : List Str} {v : Str} (k : Know T stk seen fin (some v)) (hv : v ∈ stk.map (·.v)) : Reach T.succ v v := by
  obtain ⟨e, he, rfl⟩ := List.mem_map.mp hv
  exact k.ok.reach e he
end Mine
namespace Mine
theorem H.set_fresh' {h : H} {a b c d e : Addr} {o p q r s : AObj} (k : h a = some o) (hb : h b = none) (hc : h c = none) (hd : h d = none) (he : h e = none) : H.set (H.set (H.set (H.set h b p) c q) d r) e s a = some o :=
  (H.set_ne _ _ fun z => by rw [z, he] at k; cases k).trans ((H.set_ne _ _ fun z => by rw [z, hd] at k; cases k).trans ((H.set_ne _ _ fun z => by rw [z, hc] at k; cases k).trans (H.set_fresh k hb)))
end Mine
end
section
open PySem PySem.W PyProof.Rows PySem.Calls
set_option maxRecDepth 100000
namespace Mine
noncomputable abbrev frees (scope : Scope) (l : List (Str × Value)) : List (Str × Value) := l.filter fun p => scope.names.lookup p.1 == some .free
theorem lookup_filter {P : Str → Bool} {x : Str} : ∀ (l : List (Str × Value)), (l.filter fun p => P p.1).lookup x = if P x then l.lookup x else none
  | [] => by simp
  | (y, v) :: r => by
    rw [List.filter_cons]
    by_cases hxy : x = y
    · subst hxy
      by_cases hp : P x = true
      · simp [hp]
      · simp only [hp]
        simp only [Bool.false_eq_true, if_false]
        rw [lookup_filter r]; simp [hp]
    · have : (x == y) = false := beq_eq_false_iff_ne.mpr hxy
      by_cases hp : P y = true
      · simp only [hp, if_true, List.lookup_cons, this]
        exact lookup_filter r
      · simp only [hp, List.lookup_cons, this]
        simp only [Bool.false_eq_true, if_false]
        exact lookup_filter r
theorem comp_sto (scope : Scope) (l : List (Str × Value)) (h0 h : H) : (⟨inL scope (sto l h0).l, h⟩ : St) = sto (frees scope l) h := by
  unfold sto frees inL
  congr 1
  funext x
  rw [lookup_filter (P := fun y => scope.names.lookup y == some .free)]
  by_cases q : scope.names.lookup x = some .free
  · simp [q]
  · rw [if_neg q, if_neg (by simpa using q)]
theorem nm_frees {scope : Scope} {l : List (Str × Value)} {x : Str} {v : Value} (e : nm l x = some v) (q : (scope.names.lookup x == some .free) = true) : nm (frees scope l) x = some v := by
  show (frees scope l).lookup x = _
  rw [lookup_filter (P := fun y => scope.names.lookup y == some .free), if_pos q]; exact e
noncomputable def prepT (T : TS) : TS := { T with ready := some (T.names.filter fun v => T.np v == 0) }
end Mine
end
section
open PySem PySem.W PyProof.Rows PySem.Calls
set_option maxRecDepth 100000
namespace Mine
theorem nat_xor_add (n : Nat) : ∀ m : Nat, (n ^^^ m) + (n &&& m) = n ||| m := by
  induction n using Nat.strongRecOn with
  | ind n ih =>
    intro m
    by_cases h : n = 0
    · subst h; simp
    · have := ih (n / 2) (by omega) (m / 2)
      rw [← Nat.xor_div_two, ← Nat.and_div_two, ← Nat.or_div_two] at this
      have h4 : (n ^^^ m) % 2 + (n &&& m) % 2 = (n ||| m) % 2 := by
        have p : (2 : Nat) = 2 ^ 1 := rfl
        rw [p, Nat.xor_mod_two_pow, Nat.and_mod_two_pow, Nat.or_mod_two_pow, ← p]
        rcases Nat.mod_two_eq_zero_or_one n with a | a <;> rcases Nat.mod_two_eq_zero_or_one m with b | b <;> rw [a, b] <;> rfl
      have a1 := Nat.div_add_mod (n ^^^ m) 2
      have a2 := Nat.div_add_mod (n &&& m) 2
      have a3 := Nat.div_add_mod (n ||| m) 2
      rw [← this, ← h4, Nat.mul_add] at a3
      rw [← a1, ← a2, ← a3]
      exact Nat.add_add_add_comm ..
theorem bitAnd_nat (n m : Nat) : Builtin.bitAnd n m = ((n &&& m : Nat) : Int) := by
  unfold Builtin.bitAnd
  rw [decide_eq_true (Int.natCast_nonneg n), decide_eq_true (Int.natCast_nonneg m)]
  rfl
theorem bitOr_nat (n m : Nat) : Builtin.bitOr n m = ((n ||| m : Nat) : Int) := by
  unfold Builtin.bitOr Builtin.bitAnd Builtin.bitNot
  rw [decide_eq_false (show ¬ (0 : Int) ≤ -(n : Int) - 1 by omega), decide_eq_false (show ¬ (0 : Int) ≤ -(m : Int) - 1 by omega)]
  have h1 : (-(-(n : Int) - 1) - 1).toNat = n := by omega
  have h2 : (-(-(m : Int) - 1) - 1).toNat = m := by omega
  simp only [h1, h2]
  omega
theorem bitXor_nat (n m : Nat) : Builtin.bitXor n m = ((n ^^^ m : Nat) : Int) := by
  unfold Builtin.bitXor
  rw [bitOr_nat, bitAnd_nat]
  have := nat_xor_add n m
  omega
theorem shl_nat (n k : Nat) : (n : Int) * 2 ^ (Int.toNat k) = ((n <<< k : Nat) : Int) := by
  rw [Nat.shiftLeft_eq]; simp
theorem shr_nat (n k : Nat) : (n : Int) / 2 ^ (Int.toNat k) = ((n >>> k : Nat) : Int) := by
  rw [Nat.shiftRight_eq_div_pow]; simp
section
variable {σ : St} {n m : Nat} {t u : Tok} {Q : Value → St → Prop}
theorem v_andN (h : Q (.int ((n &&& m : Nat) : Int) 0) σ) : binM .BitAnd (.int n t) (.int m u) Q σ := by show Q _ σ; rw [bitAnd_nat]; exact h
theorem v_orN (h : Q (.int ((n ||| m : Nat) : Int) 0) σ) : binM .BitOr (.int n t) (.int m u) Q σ := by show Q _ σ; rw [bitOr_nat]; exact h
theorem v_xorN (h : Q (.int ((n ^^^ m : Nat) : Int) 0) σ) : binM .BitXor (.int n t) (.int m u) Q σ := by show Q _ σ; rw [bitXor_nat]; exact h
theorem v_shlN (hm : m ≤ 1000) (hn : n < 2 ^ 60) (h : Q (.int ((n <<< m : Nat) : Int) 0) σ) : binM .LShift (.int n t) (.int m u) Q σ := v_shl (by omega) (by omega) (by rw [Int.natAbs_natCast]; exact hn) (by rw [shl_nat]; exact h)
theorem v_shrN (h : Q (.int ((n >>> m : Nat) : Int) 0) σ) : binM .RShift (.int n t) (.int m u) Q σ := v_shr (by omega) (by rw [shr_nat]; exact h)
theorem v_aOrN (h : Q (.int ((n ||| m : Nat) : Int) 0) σ) : augOp .BitOr (.int n t) (.int m u) Q σ := v_orN (t := t) (u := u) h
theorem v_aXorN (h : Q (.int ((n ^^^ m : Nat) : Int) 0) σ) : augOp .BitXor (.int n t) (.int m u) Q σ := v_xorN (t := t) (u := u) h
theorem v_addN (h : Q (.int ((n + m : Nat) : Int) 0) σ) : binM .Add (.int n t) (.int m u) Q σ := by show Q _ σ; rw [show (n : Int) + (m : Int) = ((n + m : Nat) : Int) by omega]; exact h
end
theorem bit_take {n i : Nat} : ((n >>> i) <<< i) &&& (1 <<< i) = if n.testBit i then 1 <<< i else 0 := by
  apply Nat.eq_of_testBit_eq
  intro j
  rw [Nat.testBit_and, Nat.testBit_shiftLeft, Nat.testBit_shiftRight]
  by_cases h : n.testBit i
  · rw [if_pos h]
    by_cases q : i = j
    · subst q; simp [h, Nat.one_shiftLeft, Nat.testBit_two_pow]
    · simp [Nat.one_shiftLeft, Nat.testBit_two_pow, q]
  · rw [if_neg h]
    by_cases q : i = j
    · subst q; simp [h]
    · simp [Nat.one_shiftLeft, Nat.testBit_two_pow, q]
theorem bit_drop {n i : Nat} (h : n.testBit i = true) : ((n >>> i) <<< i) ^^^ (1 <<< i) = (n >>> (i + 1)) <<< (i + 1) := by
  apply Nat.eq_of_testBit_eq
  intro j
  rw [Nat.testBit_xor, Nat.one_shiftLeft, Nat.testBit_two_pow]
  simp only [Nat.testBit_shiftLeft, Nat.testBit_shiftRight]
  by_cases q : i = j
  · subst q
    have : ¬ i + 1 ≤ i := by omega
    simp [h, this]
  · by_cases z : i ≤ j
    · have : i + 1 ≤ j := by omega
      simp [q, z, this]
    · have : ¬ i + 1 ≤ j := by omega
      simp [q, z, this]
theorem bit_skip {n i : Nat} (h : n.testBit i = false) : (n >>> i) <<< i = (n >>> (i + 1)) <<< (i + 1) := by
  apply Nat.eq_of_testBit_eq
  intro j
  rw [Nat.testBit_shiftLeft, Nat.testBit_shiftRight, Nat.testBit_shiftLeft, Nat.testBit_shiftRight]
  by_cases q : i = j
  · subst q
    have : ¬ i + 1 ≤ i := by omega
    simp [h, this]
  · by_cases z : i ≤ j
    · have : i + 1 ≤ j := by omega
      simp [z, this]
    · have : ¬ i + 1 ≤ j := by omega
      simp [z, this]
noncomputable def cfn : List (Int × Value) := [(1, .str (Str.ofString "OPTIMIZED") 0), (2, .str (Str.ofString "NEWLOCALS") 0), (4, .str (Str.ofString "VARARGS") 0), (8, .str (Str.ofString "VARKEYWORDS") 0), (16, .str (Str.ofString "NESTED") 0), (32, .str (Str.ofString "GENERATOR") 0), (64, .str (Str.ofString "NOFREE") 0),
  (128, .str (Str.ofString "COROUTINE") 0), (256, .str (Str.ofString "ITERABLE_COROUTINE") 0), (512, .str (Str.ofString "ASYNC_GENERATOR") 0)]
noncomputable def wordL : List Str := [Str.ofString "OPTIMIZED", Str.ofString "NEWLOCALS", Str.ofString "VARARGS", Str.ofString "VARKEYWORDS", Str.ofString "NESTED", Str.ofString "GENERATOR", Str.ofString "NOFREE", Str.ofString "COROUTINE", Str.ofString "ITERABLE_COROUTINE", Str.ofString "ASYNC_GENERATOR"]
noncomputable def nameF (i : Nat) : Str := if i < 10 then wordL.getD i Str.empty else baseText "0x" 16 ((1 <<< i : Nat) : Int)
theorem below_zero {P : Nat → Prop} : ∀ i, i < 0 → P i := fun _ h => absurd h (Nat.not_lt_zero _)
theorem below_succ {P : Nat → Prop} {n : Nat} (r : ∀ i, i < n → P i) (h : P n) : ∀ i, i < n + 1 → P i := fun i hi => (Nat.lt_succ_iff_lt_or_eq.mp hi).elim (r i) fun e => e ▸ h
theorem cfn_at {i : Nat} : (valueAt cfn ((1 <<< i : Nat) : Int)).getD (.str (baseText "0x" 16 ((1 <<< i : Nat) : Int)) 0) = .str (nameF i) 0 := by
  by_cases h : i < 10
  · have : ∀ i, i < 10 → (valueAt cfn ((1 <<< i : Nat) : Int)).getD (.str (baseText "0x" 16 ((1 <<< i : Nat) : Int)) 0) = .str (wordL.getD i Str.empty) 0 := below_succ (below_succ (below_succ (below_succ (below_succ (below_succ (below_succ (below_succ (below_succ (below_succ below_zero rfl) rfl) rfl) rfl) rfl) rfl) rfl) rfl) rfl) rfl
    unfold nameF
    rw [if_pos h]; exact this i h
  · unfold nameF
    rw [if_neg h]
    have : valueAt cfn ((1 <<< i : Nat) : Int) = none := by
      unfold valueAt
      rw [List.find?_eq_none.mpr]
      · rfl
      · have hb : 1024 ≤ 1 <<< i := by
          rw [Nat.one_shiftLeft]
          exact Nat.pow_le_pow_right (n := 2) (i := 10) (by decide) (Nat.le_of_not_lt h)
        intro p hp
        simp only [decide_eq_true_eq]
        have h9 : p.1 ≤ 512 := of_decide_eq_true (List.all_eq_true.mp (show cfn.all (fun p => decide (p.1 ≤ 512)) = true by decide) p hp)
        intro e
        rw [e] at h9
        exact absurd (Int.ofNat_le.mp h9) (Nat.not_le.mpr (Nat.lt_of_lt_of_le (by decide) hb))
    rw [this]; rfl
noncomputable def bitsTo (n k : Nat) : List Nat := (List.range k).filter n.testBit
noncomputable def prettyNames (n : Nat) : List Str := if n = 0 then [baseText "0x" 16 0] else (bitsTo n 32).map nameF
noncomputable abbrev sepS : Str := Str.ofString ", "
noncomputable def prettyS (n : Nat) : Str := Txt.join sepS (prettyNames n)
theorem bitsTo_succ (n k : Nat) : bitsTo n (k + 1) = if n.testBit k then bitsTo n k ++ [k] else bitsTo n k := by
  unfold bitsTo
  rw [List.range_succ, List.filter_append]
  by_cases h : n.testBit k
  · rw [if_pos h]; simp [h]
  · rw [if_neg h]; simp [h]
theorem bitsTo_all {n i k : Nat} (h : (n >>> i) <<< i = 0) (hk : i ≤ k) : bitsTo n k = bitsTo n i := by
  induction k with
  | zero => have : i = 0 := by omega
            subst this; rfl
  | succ k ih =>
    by_cases q : i = k + 1
    · subst q; rfl
    · rw [bitsTo_succ, if_neg, ih (by omega)]
      intro hb
      have : (((n >>> i) <<< i)).testBit k = true := by
        rw [Nat.testBit_shiftLeft, Nat.testBit_shiftRight]
        simp only [Bool.and_eq_true, decide_eq_true_eq]
        exact ⟨by omega, by rw [show i + (k - i) = k by omega]; exact hb⟩
      rw [h] at this
      simp at this
theorem strsOf_strVs : ∀ (ys : List Str), strsOf (strVs ys) = some ys
  | [] => rfl
  | y :: r => by
    show (strsOf (strVs r)).map (y :: ·) = _
    rw [strsOf_strVs r]; rfl
theorem nameF_len {i : Nat} (h : i < 40) : (nameF i).length ≤ 30 := by
  have : ∀ i, i < 40 → (nameF i).length ≤ 30 := by decide +kernel
  exact this i h
theorem v_join {σ : St} {a : Addr} {ys : List Str} {x : Str} {t : Tok} {Q : Value → St → Prop} (e : σ.h a = some (.list (strVs ys))) (hl : (ys.map (·.length)).sum + ys.length * x.length ≤ 1000000) (hq : Q (.str (Txt.join x ys) 0) σ) : joinM (.str x t) [.ref a] Q σ := by
  unfold joinM; simp only [e]; exact ⟨ys, strsOf_strVs ys, hl, hq⟩
theorem sum_len_le {B : Nat} : ∀ (ys : List Str), (∀ y ∈ ys, y.length ≤ B) → (ys.map (·.length)).sum ≤ ys.length * B
  | [], _ => by simp
  | y :: r, h => by
    have := sum_len_le r fun z hz => h z (.tail _ hz)
    have := h y (.head _)
    rw [List.map_cons, List.sum_cons, List.length_cons, Nat.succ_mul]; omega
theorem bitsTo_lt {n k i : Nat} (h : i ∈ bitsTo n k) : i < k := List.mem_range.mp (List.mem_filter.mp h).1
theorem bitsTo_len (n k : Nat) : (bitsTo n k).length ≤ k := by
  have := List.length_filter_le n.testBit (List.range k)
  rwa [List.length_range] at this
end Mine
end
section
open PySem PySem.W PyProof.Rows PySem.Calls
set_option maxRecDepth 100000
namespace Mine
section
variable {σ : St} {a b : Addr} {xs ys : List Value} {Q : Value → St → Prop}
theorem v_eqL_len (e1 : σ.h a = some (.list xs)) (e2 : σ.h b = some (.list ys)) (hl : xs.length ≠ ys.length) (hq : Q (.bool false) σ) : cmpM2 .Eq (.ref a) (.ref b) Q σ := by
  show eqRefM false a b Q σ; unfold eqRefM; simp only [e1, e2]; exact .inl ⟨hl, hq⟩
theorem v_eqL (e1 : σ.h a = some (.list xs)) (e2 : σ.h b = some (.list ys)) (hl : xs.length = ys.length) (hj : ∀ (j : Nat) (v u : Value), xs[j]? = some v → ys[j]? = some u → Eqv σ.h 15 true v u) (hq : Q (.bool true) σ) : cmpM2 .Eq (.ref a) (.ref b) Q σ := by
  show eqRefM false a b Q σ; unfold eqRefM; simp only [e1, e2]; exact .inr ⟨hl, hj, hq⟩
theorem v_eqNil (e1 : σ.h a = some (.list xs)) (e2 : σ.h b = some (.list [])) (hq : Q (.bool (decide (xs = []))) σ) : cmpM2 .Eq (.ref a) (.ref b) Q σ := by
  by_cases h : xs = []
  · subst h
    exact v_eqL e1 e2 rfl (fun j v u q => by simp at q) (by simpa using hq)
  · rw [decide_eq_false h] at hq
    exact v_eqL_len e1 e2 (fun q => h (List.length_eq_zero_iff.mp q)) hq
end
theorem range_at {i n : Nat} {v : Value} (h : (rangeVals 0 1 n)[i]? = some v) : i < n ∧ v = .int (i : Nat) 0 := by
  unfold rangeVals at h
  rw [List.getElem?_map] at h
  by_cases q : i < n
  · rw [List.getElem?_range q] at h
    exact ⟨q, by simpa using (Option.some.inj h).symm⟩
  · rw [List.getElem?_eq_none (by simpa using Nat.le_of_not_lt q)] at h; cases h
theorem range_len (n : Nat) : (rangeVals 0 1 n).length = n := by simp [rangeVals]
theorem range_end {i n : Nat} (h : (rangeVals 0 1 n)[i]? = none) : n ≤ i := by
  rw [List.getElem?_eq_none_iff, range_len] at h; exact h
theorem down_at {i n : Nat} {v : Value} (h : (rangeVals ((n : Int) - 1) (-1) n)[i]? = some v) : i < n ∧ v = .int ((n - 1 - i : Nat) : Int) 0 := by
  unfold rangeVals at h
  rw [List.getElem?_map] at h
  by_cases q : i < n
  · rw [List.getElem?_range q] at h
    refine ⟨q, ?_⟩
    have e : v = .int ((n : Int) - 1 + (i : Nat) * (-1)) 0 := (Option.some.inj h).symm
    rw [e, show (n : Int) - 1 + (i : Nat) * (-1) = ((n - 1 - i : Nat) : Int) by omega]
  · rw [List.getElem?_eq_none (by simpa using Nat.le_of_not_lt q)] at h; cases h
theorem mod2 (n k : Nat) : (n >>> k) &&& 1 = (n.testBit k).toNat := by
  rw [Nat.and_one_is_mod, Nat.testBit_eq_decide_div_mod_eq, Nat.shiftRight_eq_div_pow]
  have := Nat.mod_two_eq_zero_or_one (n / 2 ^ k)
  rcases this with h | h <;> simp [h]
theorem tru_toNat (b : Bool) : (((b.toNat : Nat) : Int) != 0) = b := by cases b <;> rfl
noncomputable def wordsL (m first : Nat) : List Str := (bitsTo m 5).map fun k => nameF (first + k)
noncomputable def textOf (first m : Nat) : Str := prettyS (m <<< first)
theorem bits_shift {m first : Nat} (hm : m < 32) (hf : first < 28) : bitsTo (m <<< first) 32 = (bitsTo m 5).map (first + ·) := by
  have : ∀ f, f < 28 → ∀ m, m < 32 → bitsTo (m <<< f) 32 = (bitsTo m 5).map (f + ·) := by decide +kernel
  exact this first hf m hm
theorem textOf_words {m first : Nat} (hm : m < 32) (hf : first < 28) : textOf first m = if m = 0 then Str.ofString "0x0" else Txt.join sepS (wordsL m first) := by
  unfold textOf prettyS prettyNames
  by_cases h : m = 0
  · subst h
    rw [if_pos rfl, if_pos (by simp)]
    have : Txt.join sepS [baseText "0x" 16 0] = Str.ofString "0x0" := by decide +kernel
    exact this
  · rw [if_neg h, if_neg (by rw [Nat.shiftLeft_eq_zero_iff]; exact h), bits_shift hm hf, List.map_map]; rfl
theorem word_far {n : Nat} (h1 : n < 32) (h2 : ¬ n < 10) : ∃ c, (Str.ofString "1248").cps[n % 4]? = some c ∧ Str.ofString "0x" ++ ⟨#[c]⟩ ++ Txt.mul (Str.ofString "0") ((n / 4 : Nat) : Int) = nameF n := by
  have : ∀ n, n < 32 → ¬ n < 10 → (match (Str.ofString "1248").cps[n % 4]? with | some c => decide (Str.ofString "0x" ++ ⟨#[c]⟩ ++ Txt.mul (Str.ofString "0") ((n / 4 : Nat) : Int) = nameF n) | none => false) = true := by decide +kernel
  have := this n h1 h2
  cases q : (Str.ofString "1248").cps[n % 4]? with
  | none => rw [q] at this; cases this
  | some c => rw [q] at this; exact ⟨c, rfl, of_decide_eq_true this⟩
end Mine
namespace Mine
noncomputable def nInts (ns : List Nat) : List Value := ns.map fun n : Nat => .int (n : Int) 0
theorem nInts_length (ns : List Nat) : (nInts ns).length = ns.length := by simp [nInts]
theorem nInts_snoc (ns : List Nat) (n : Nat) : nInts ns ++ [.int (n : Int) 0] = nInts (ns ++ [n]) := by simp [nInts]
theorem at_nInts {ns : List Nat} {k : Nat} (h : k < ns.length) (hk : k < 2 ^ 62) : at? (nInts ns) k = some (.int (ns.getD k 0 : Nat) 0) := by
  unfold at? nInts
  rw [if_pos (Int.natCast_nonneg k), if_pos (by omega)]
  simp [h, List.getD]
theorem setAt_nInts {ns : List Nat} {k x : Nat} (h : k < ns.length) (hk : k < 2 ^ 62) : setAt? (nInts ns) k (.int x 0) = some (nInts (ns.set k x)) := by
  unfold setAt? nInts
  rw [if_pos ⟨Int.natCast_nonneg k, by simpa using h, by omega⟩]
  simp
noncomputable def Garden (us : List Nat) : Prop := us.length = 5 ∧ ∀ k, k < 5 → us.getD k 0 ≤ k
noncomputable def fallsStep (us f : List Nat) (k : Nat) : List Nat := if 0 < us.getD k 0 then f.set (us.getD k 0 - 1) (f.getD (us.getD k 0 - 1) 0 ||| f.getD k 0) else f
noncomputable def fallsOf (us : List Nat) : List Nat := [4, 3, 2, 1, 0].foldl (fallsStep us) [1, 2, 4, 8, 16]
noncomputable def hangs (us : List Nat) (m k : Nat) : Bool := m.testBit k && (decide (0 < us.getD k 0) && !m.testBit (us.getD k 0 - 1))
noncomputable def standOk (us : List Nat) (m : Nat) : Bool := ((List.range 5).filter (hangs us m)).isEmpty
noncomputable def standsOf (us : List Nat) : List Nat := (List.range 32).filter (standOk us)
theorem fallsStep_len (us f : List Nat) (k : Nat) : (fallsStep us f k).length = f.length := by unfold fallsStep; split <;> simp
theorem foldFalls_len (us : List Nat) : ∀ (ks f : List Nat), (ks.foldl (fallsStep us) f).length = f.length
  | [], _ => rfl
  | k :: ks, f => by rw [List.foldl_cons, foldFalls_len us ks, fallsStep_len]
theorem filter_range_succ (p : Nat → Bool) (i : Nat) : (List.range (i + 1)).filter p = if p i then (List.range i).filter p ++ [i] else (List.range i).filter p := by
  rw [List.range_succ, List.filter_append]
  by_cases h : p i
  · rw [if_pos h]; simp [h]
  · rw [if_neg h]; simp [h]
end Mine
end
section
open PySem PySem.W PyProof.Rows PySem.Calls
set_option maxRecDepth 100000
namespace Mine
noncomputable def sdLoop (x : Int) (xs : List Int) (pos : Nat) : List Int :=
  if h : 0 < pos then (if x < xs.getD ((pos - 1) / 2) 0 then sdLoop x (xs.set pos (xs.getD ((pos - 1) / 2) 0)) ((pos - 1) / 2) else xs.set pos x) else xs.set pos x
termination_by pos
decreasing_by omega
noncomputable def suLoop (xs : List Int) (pos : Nat) : List Int × Nat :=
  if h : 2 * pos + 1 < xs.length then
    (let c := if 2 * pos + 2 < xs.length ∧ ¬ xs.getD (2 * pos + 1) 0 < xs.getD (2 * pos + 2) 0 then 2 * pos + 2 else 2 * pos + 1
    suLoop (xs.set pos (xs.getD c 0)) c)
  else (xs, pos)
termination_by xs.length - pos
decreasing_by rw [List.length_set]; split <;> omega
noncomputable def siftUp (ns : List Int) : List Int := sdLoop (ns.getD 0 0) ((suLoop ns 0).1.set (suLoop ns 0).2 (ns.getD 0 0)) (suLoop ns 0).2
noncomputable def heapPop (ns : List Int) : List Int := if ns.length ≤ 1 then [] else siftUp (ns.dropLast.set 0 (ns.getLastD 0))
noncomputable def heapPush (ns : List Int) (x : Int) : List Int := sdLoop x (ns ++ [x]) ns.length
theorem getD_set (xs : List Int) (i j : Nat) (v : Int) : (xs.set i v).getD j 0 = if i = j ∧ j < xs.length then v else xs.getD j 0 := by
  rw [List.getD_eq_getElem?_getD, List.getD_eq_getElem?_getD, List.getElem?_set]
  by_cases h : i = j
  · subst h
    by_cases q : i < xs.length
    · simp [q]
    · simp [q]
  · simp [h]
noncomputable abbrev par (i : Nat) : Nat := (i - 1) / 2
noncomputable def HeapL (xs : List Int) : Prop := ∀ i, 0 < i → i < xs.length → xs.getD (par i) 0 ≤ xs.getD i 0
noncomputable def HeapX (xs : List Int) (p : Nat) : Prop := (∀ i, 0 < i → i < xs.length → i ≠ p → xs.getD (par i) 0 ≤ xs.getD i 0) ∧ ∀ i, 0 < i → i < xs.length → par i = p → 0 < p → xs.getD (par p) 0 ≤ xs.getD i 0
noncomputable def HoleH (xs : List Int) (p : Nat) : Prop := (∀ i, 0 < i → i < xs.length → i ≠ p → par i ≠ p → xs.getD (par i) 0 ≤ xs.getD i 0) ∧ ∀ i, 0 < i → i < xs.length → par i = p → 0 < p → xs.getD (par p) 0 ≤ xs.getD i 0
theorem swap_perm {xs : List Int} {i j : Nat} {x : Int} (hi : i < xs.length) (hj : j < xs.length) (hij : j ≠ i) : ((xs.set i (xs.getD j 0)).set j x).Perm (xs.set i x) := by
  have h := List.set_set_perm (as := xs.set i x) (i := i) (j := j) (by simpa using hi) (by simpa using hj)
  have e1 : (xs.set i x)[j]'(by simpa using hj) = xs.getD j 0 := by
    rw [List.getElem_set_ne (Ne.symm hij)]
    simp [hj]
  have e2 : (xs.set i x)[i]'(by simpa using hi) = x := by simp
  rw [e1, e2, List.set_set] at h
  exact h
theorem gset {xs : List Int} {i : Nat} {v : Int} (h : i < xs.length) : (xs.set i v).getD i 0 = v := by rw [getD_set, if_pos ⟨rfl, h⟩]
theorem gne {xs : List Int} {i j : Nat} {v : Int} (h : i ≠ j) : (xs.set i v).getD j 0 = xs.getD j 0 := by rw [getD_set, if_neg fun q => h q.1]
theorem par_lt {i : Nat} (h : 0 < i) : par i < i := by unfold par; omega
theorem sd_spec (x : Int) : ∀ (pos : Nat) (xs : List Int), pos < xs.length → HeapX (xs.set pos x) pos → (sdLoop x xs pos).Perm (xs.set pos x) ∧ HeapL (sdLoop x xs pos) := by
  intro pos
  induction pos using Nat.strongRecOn with
  | ind pos ih =>
    intro xs hp ⟨ha, hb⟩
    simp only [List.length_set] at ha hb
    have ha1 : ∀ i, 0 < i → i < xs.length → i ≠ pos → par i ≠ pos → xs.getD (par i) 0 ≤ xs.getD i 0 := fun i h1 h2 h3 h4 => by
      have := ha i h1 h2 h3
      rwa [gne h4.symm, gne h3.symm] at this
    have hb1 : ∀ i, 0 < i → i < xs.length → par i = pos → 0 < pos → xs.getD (par pos) 0 ≤ xs.getD i 0 := fun i h1 h2 h3 h4 => by
      have := hb i h1 h2 h3 h4
      rwa [gne (Nat.ne_of_gt (par_lt h4)), gne fun e => Nat.ne_of_lt (par_lt h1) (h3.trans e)] at this
    rw [sdLoop.eq_1]
    by_cases h0 : 0 < pos
    · have hpl := par_lt h0
      rw [dif_pos h0]
      have hq : par pos < xs.length := Nat.lt_trans hpl hp
      by_cases hx : x < xs.getD (par pos) 0
      · rw [if_pos hx]
        have := ih (par pos) hpl (xs.set pos (xs.getD (par pos) 0)) (by rw [List.length_set]; exact hq) ⟨?_, ?_⟩
        · exact ⟨this.1.trans (swap_perm hp hq (Nat.ne_of_lt hpl)), this.2⟩
        · intro i h1 h2 h3
          simp only [List.length_set] at h2
          by_cases q : i = pos
          · rw [q, gset (by rw [List.length_set]; exact hq), gne (Nat.ne_of_lt hpl), gset hp]; exact Int.le_of_lt hx
          · rw [(gne (Ne.symm h3)).trans (gne (Ne.symm q))]
            by_cases z : par i = par pos
            · rw [z, gset (by rw [List.length_set]; exact hq)]
              have := ha1 i h1 h2 q (z ▸ Nat.ne_of_lt hpl)
              rw [z] at this
              exact Int.le_of_lt (Int.lt_of_lt_of_le hx this)
            · rw [gne (Ne.symm z)]
              by_cases y : par i = pos
              · rw [y, gset hp]; exact hb1 i h1 h2 y h0
              · rw [gne (Ne.symm y)]; exact ha1 i h1 h2 q y
        · intro i h1 h2 h3 h4
          simp only [List.length_set] at h2
          have hpp := par_lt h4
          have hap := ha1 (par pos) h4 hq (Nat.ne_of_lt hpl) (Nat.ne_of_lt (Nat.lt_trans hpp hpl))
          rw [(gne (Nat.ne_of_gt hpp)).trans (gne (Nat.ne_of_gt (Nat.lt_trans hpp hpl))), gne fun e => Nat.ne_of_lt (par_lt h1) (h3.trans e)]
          by_cases q : i = pos
          · rw [q, gset hp]; exact hap
          · rw [gne (Ne.symm q)]
            have := ha1 i h1 h2 q (h3 ▸ Nat.ne_of_lt hpl)
            rw [h3] at this
            exact Int.le_trans hap this
      · rw [if_neg hx]
        refine ⟨List.Perm.refl _, fun i h1 h2 => ?_⟩
        rw [List.length_set] at h2
        by_cases q : i = pos
        · rw [q, gne (Nat.ne_of_gt hpl), gset hp]; exact Int.not_lt.mp hx
        · exact ha i h1 h2 q
    · rw [dif_neg h0]
      exact ⟨List.Perm.refl _, fun i h1 h2 => ha i h1 (by rw [List.length_set] at h2; exact h2) fun e => h0 (e ▸ h1)⟩
theorem su_spec : ∀ (k : Nat) (xs : List Int) (pos : Nat), xs.length - pos ≤ k → pos < xs.length → HoleH xs pos → (suLoop xs pos).2 < xs.length ∧ (suLoop xs pos).1.length = xs.length ∧ HoleH (suLoop xs pos).1 (suLoop xs pos).2 ∧ xs.length ≤ 2 * (suLoop xs pos).2 + 1 ∧ ∀ x, ((suLoop xs pos).1.set (suLoop xs pos).2 x).Perm (xs.set pos x) := by
  intro k
  induction k with
  | zero => intro xs pos h1 h2; omega
  | succ k ih =>
    intro xs pos hk hp ⟨ha, hb⟩
    rw [suLoop.eq_1]
    by_cases hc : 2 * pos + 1 < xs.length
    · rw [dif_pos hc]
      generalize hcc : (if 2 * pos + 2 < xs.length ∧ ¬ xs.getD (2 * pos + 1) 0 < xs.getD (2 * pos + 2) 0 then 2 * pos + 2 else 2 * pos + 1) = c
      have c1 : c < xs.length ∧ par c = pos ∧ pos < c := by
        unfold par
        split at hcc <;> (subst hcc; omega)
      have c2 : ∀ i, 0 < i → i < xs.length → par i = pos → xs.getD c 0 ≤ xs.getD i 0 := by
        intro i h1 h2 h3
        have : i = 2 * pos + 1 ∨ i = 2 * pos + 2 := by unfold par at h3; omega
        split at hcc
        · rename_i hh; subst hcc
          rcases this with rfl | rfl <;> omega
        · rename_i hh; subst hcc
          rcases this with rfl | rfl
          · omega
          · have : xs.getD (2 * pos + 1) 0 < xs.getD (2 * pos + 2) 0 := by
              by_cases z : xs.getD (2 * pos + 1) 0 < xs.getD (2 * pos + 2) 0
              · exact z
              · exact absurd ⟨h2, z⟩ hh
            omega
      obtain ⟨c1, c3, c4⟩ := c1
      have key := ih (xs.set pos (xs.getD c 0)) c (by rw [List.length_set]; exact Nat.le_of_lt_succ (Nat.lt_of_lt_of_le (Nat.sub_lt_sub_left hp c4) hk)) (by rw [List.length_set]; exact c1) ⟨?_, ?_⟩
      · obtain ⟨r1, r2, r3, r4, r5⟩ := key
        rw [List.length_set] at r1 r2 r4
        exact ⟨r1, r2, r3, r4, fun x => (r5 x).trans (swap_perm hp c1 (Nat.ne_of_gt c4))⟩
      · intro i h1 h2 h3 h4
        simp only [List.length_set] at h2
        by_cases q : i = pos
        · rw [q, gne (Nat.ne_of_gt (par_lt (q ▸ h1))), gset hp]
          exact hb c (Nat.lt_of_le_of_lt (Nat.zero_le _) c4) c1 c3 (q ▸ h1)
        · rw [gne (Ne.symm q)]
          by_cases z : par i = pos
          · rw [z, gset hp]; exact c2 i h1 h2 z
          · rw [gne (Ne.symm z)]; exact ha i h1 h2 q z
      · intro i h1 h2 h3 h4
        simp only [List.length_set] at h2
        have hci : c < i := h3 ▸ par_lt h1
        rw [c3, gset hp, gne (Nat.ne_of_lt (Nat.lt_trans c4 hci))]
        have := ha i h1 h2 (Nat.ne_of_gt (Nat.lt_trans c4 hci)) (h3 ▸ Nat.ne_of_gt c4)
        rw [h3] at this; exact this
    · rw [dif_neg hc]
      exact ⟨hp, rfl, ⟨ha, hb⟩, by omega, fun x => List.Perm.refl _⟩
theorem siftUp_spec {xs : List Int} (h0 : 0 < xs.length) (h : HoleH xs 0) : (siftUp xs).Perm xs ∧ HeapL (siftUp xs) := by
  obtain ⟨r1, r2, ⟨ra, rb⟩, r4, r5⟩ := su_spec xs.length xs 0 (by omega) h0 h
  unfold siftUp
  generalize suLoop xs 0 = yq at *
  obtain ⟨ys, q⟩ := yq
  dsimp only at *
  have := sd_spec (xs.getD 0 0) q (ys.set q (xs.getD 0 0)) (by rw [List.length_set]; omega) ?_
  · refine ⟨this.1.trans ?_, this.2⟩
    rw [List.set_set]
    have e := r5 (xs.getD 0 0)
    have : xs.set 0 (xs.getD 0 0) = xs := by
      cases xs with
      | nil => rfl
      | cons a t => rfl
    rw [this] at e; exact e
  · rw [List.set_set]
    refine ⟨fun i h1 h2 h3 => ?_, fun i h1 h2 h3 h4 => ?_⟩
    · simp only [List.length_set] at h2
      simp only [getD_set]
      have : par i ≠ q := by unfold par; omega
      rw [if_neg fun z => this z.1.symm, if_neg fun z => h3 z.1.symm]
      exact ra i h1 h2 h3 this
    · simp only [List.length_set] at h2
      unfold par at h3; omega
theorem heapL_nil : HeapL [] := fun i _ h => by simp at h
theorem push_spec {ns : List Int} {x : Int} (h : HeapL ns) : (heapPush ns x).Perm (x :: ns) ∧ HeapL (heapPush ns x) := by
  have e : (ns ++ [x]).set ns.length x = ns ++ [x] := by
    rw [List.set_append_right _ _ (Nat.le_refl _)]; simp
  have := sd_spec x ns.length (ns ++ [x]) (by simp) ?_
  · refine ⟨this.1.trans ?_, this.2⟩
    rw [e]
    exact List.perm_append_comm
  · rw [e]
    refine ⟨fun i h1 h2 h3 => ?_, fun i h1 h2 h3 h4 => ?_⟩
    · have hi : i < ns.length := by
        rw [List.length_append, List.length_singleton] at h2; omega
      have hp : par i < ns.length := by unfold par; omega
      have := h i h1 hi
      rw [List.getD_eq_getElem?_getD, List.getD_eq_getElem?_getD, List.getElem?_append_left hi, List.getElem?_append_left hp]
      rw [List.getD_eq_getElem?_getD, List.getD_eq_getElem?_getD] at this
      exact this
    · rw [List.length_append, List.length_singleton] at h2
      unfold par at h3; omega
theorem heap_min {ns : List Int} (h : HeapL ns) : ∀ i, i < ns.length → ns.getD 0 0 ≤ ns.getD i 0 := by
  intro i
  induction i using Nat.strongRecOn with
  | ind i ih =>
    intro hi
    by_cases q : i = 0
    · subst q; exact Int.le_refl _
    · have := h i (by omega) hi
      have hp : par i < i := by unfold par; omega
      have := ih (par i) hp (by omega)
      omega
theorem pop_spec {ns : List Int} (h : HeapL ns) (h0 : 0 < ns.length) : (ns.getD 0 0 :: heapPop ns).Perm ns ∧ HeapL (heapPop ns) := by
  unfold heapPop
  by_cases h1 : ns.length ≤ 1
  · rw [if_pos h1]
    obtain ⟨x, rfl⟩ : ∃ x, ns = [x] := List.length_eq_one_iff.mp (by omega)
    exact ⟨List.Perm.refl _, heapL_nil⟩
  · rw [if_neg h1]
    have hd : ns.dropLast.length = ns.length - 1 := by simp
    have := siftUp_spec (xs := ns.dropLast.set 0 (ns.getLastD 0)) (by rw [List.length_set]; omega) ⟨?_, fun i _ _ _ h => absurd h (by omega)⟩
    · refine ⟨?_, this.2⟩
      refine (List.Perm.cons _ this.1).trans ?_
      obtain ⟨t, l, rfl⟩ : ∃ t l, ns = t ++ [l] := by
        rcases List.eq_nil_or_concat ns with q | ⟨t, l, q⟩
        · rw [q] at h0; simp at h0
        · exact ⟨t, l, by rw [q, List.concat_eq_append]⟩
      cases t with
      | nil => simp at h1
      | cons a t =>
        have e1 : (a :: t ++ [l]).dropLast = a :: t := by rw [List.dropLast_concat]
        have e2 : (a :: t ++ [l]).getLastD 0 = l := by rw [List.getLastD_eq_getLast?, List.getLast?_concat]; rfl
        rw [e1, e2]
        show (a :: l :: t).Perm (a :: (t ++ [l]))
        exact List.Perm.cons _ (List.perm_append_comm (l₁ := [l]) (l₂ := t))
    · intro i i1 i2 i3 i4
      rw [List.length_set, hd] at i2
      simp only [getD_set]
      rw [if_neg (by omega), if_neg (by omega)]
      have := h i i1 (by omega)
      have e : ∀ j, j < ns.length - 1 → ns.dropLast.getD j 0 = ns.getD j 0 := fun j hj => by
        rw [List.getD_eq_getElem?_getD, List.getD_eq_getElem?_getD, List.getElem?_dropLast, if_pos hj]
      rw [e i i2, e (par i) (by unfold par; omega)]
      exact this
theorem heapPop_len {ns : List Int} (h : HeapL ns) (h0 : 0 < ns.length) : (heapPop ns).length + 1 = ns.length := by
  have := (pop_spec h h0).1.length_eq
  rw [List.length_cons] at this; exact this
theorem heapPush_len {ns : List Int} {x : Int} (h : HeapL ns) : (heapPush ns x).length = ns.length + 1 := by
  have := (push_spec (x := x) h).1.length_eq
  rw [List.length_cons] at this; exact this
theorem pop_le {ns : List Int} (h : HeapL ns) {v : Int} (hv : v ∈ ns) : ns.getD 0 0 ≤ v := by
  obtain ⟨i, hi, rfl⟩ := List.getElem_of_mem hv
  have := heap_min h i hi
  rw [List.getD_eq_getElem?_getD, List.getD_eq_getElem?_getD, List.getElem?_eq_getElem hi] at this
  rw [List.getD_eq_getElem?_getD]
  exact this
set_option genInjectivity false in
structure IsMex (S : Int → Prop) (l r : Nat) : Prop where
  le : l ≤ r
  all : ∀ v : Nat, l ≤ v → v < r → S v
  out : ¬ S r
theorem mex_step {ns : List Int} (h : HeapL ns) (h0 : 0 < ns.length) {l r : Nat} (m : IsMex (· ∈ heapPop ns) (if ns.getD 0 0 = (l : Int) then l + 1 else l) r) : IsMex (· ∈ ns) l r := by
  have hp := (pop_spec h h0).1
  have hin : ∀ v, v ∈ ns ↔ v = ns.getD 0 0 ∨ v ∈ heapPop ns := fun v => by rw [← hp.mem_iff, List.mem_cons]
  have hmin : ∀ v ∈ heapPop ns, ns.getD 0 0 ≤ v := fun v hv => pop_le h ((hin v).mpr (.inr hv))
  by_cases q : ns.getD 0 0 = (l : Int)
  · rw [if_pos q] at m
    refine ⟨by have := m.le; omega, fun v h1 h2 => ?_, fun hr => ?_⟩
    · by_cases z : v = l
      · subst z; exact (hin _).mpr (.inl q.symm)
      · exact (hin _).mpr (.inr (m.all v (by omega) h2))
    · rcases (hin _).mp hr with z | z
      · have := m.le; omega
      · exact m.out z
  · rw [if_neg q] at m
    refine ⟨m.le, fun v h1 h2 => (hin _).mpr (.inr (m.all v h1 h2)), fun hr => ?_⟩
    rcases (hin _).mp hr with z | z
    · have := m.le
      by_cases y : l < r
      · have := hmin _ (m.all l (Nat.le_refl _) y)
        omega
      · omega
    · exact m.out z
end Mine
end
section
open PySem PySem.W PyProof.Rows PySem.Calls
set_option maxRecDepth 100000
namespace Mine
theorem v_repl {σ : St} {a : Addr} {x : Value} {n : Int} {t : Tok} {Q : Value → St → Prop} (e : σ.h a = some (.list [x])) (h0 : 0 ≤ n) (h1 : n ≤ 1000) (hq : ∀ c, σ.h c = none → Q (.ref c) (σ.seth c (.list (List.replicate n.toNat x)))) : binM .Mult (.ref a) (.int n t) Q σ := by
  show binRI .Mult a n Q σ
  unfold binRI; rw [e]; exact ⟨rfl, h0, h1, hq⟩
theorem v_cat {σ : St} {a b : Addr} {xs ys : List Value} {Q : Value → St → Prop} (e1 : σ.h a = some (.list xs)) (e2 : σ.h b = some (.list ys)) (hl : xs.length + ys.length ≤ 1000000) (hq : ∀ c, σ.h c = none → Q (.ref c) (σ.seth c (.list (xs ++ ys)))) : binM .Add (.ref a) (.ref b) Q σ := by
  show binRR .Add a b Q σ
  unfold binRR; rw [e1, e2]; exact ⟨hl, hq⟩
noncomputable def wStep (us : List Nat) (m : Nat) (p : Nat × List Nat) (k : Nat) : Nat × List Nat :=
  if m.testBit k then (p.1 + 1, p.2.set (us.getD k 0) (p.2.getD (us.getD k 0) 0 ^^^ (p.2.getD (k + 1) 0 + 1))) else p
noncomputable def wFold (us : List Nat) (m : Nat) : Nat × List Nat := [4, 3, 2, 1, 0].foldl (wStep us m) (0, [0, 0, 0, 0, 0, 0])
noncomputable def tw (us : List Nat) (m : Nat) : Nat × Nat := ((wFold us m).1, (wFold us m).2.getD 0 0)
theorem wStep_len (us : List Nat) (m : Nat) (p : Nat × List Nat) (k : Nat) : (wStep us m p k).2.length = p.2.length := by unfold wStep; split <;> simp
theorem foldW_len (us : List Nat) (m : Nat) : ∀ (ks : List Nat) (p : Nat × List Nat), (ks.foldl (wStep us m) p).2.length = p.2.length
  | [], _ => rfl
  | k :: ks, p => by rw [List.foldl_cons, foldW_len us m ks, wStep_len]
noncomputable def textNat (s : Str) : Nat := s.cps.toList.foldl (fun a c => a * 1000 + c) 1
theorem text_nodup : ∀ first, first < 28 → ((List.range 32).map fun m => textNat (textOf first m)).Nodup := by decide +kernel
theorem text_inj {first m n : Nat} (hf : first < 28) (hm : m < 32) (hn : n < 32) (h : textOf first m = textOf first n) : m = n := by
  have key : ∀ m n, m < n → n < 32 → textOf first m ≠ textOf first n := fun m n hmn hn h => by
    have hd := List.pairwise_iff_getElem.mp (text_nodup first hf) m n (by simp; omega) (by simpa using hn) hmn
    simp only [List.getElem_map, List.getElem_range] at hd
    exact hd (congrArg textNat h)
  rcases Nat.lt_trichotomy m n with q | q | q
  · exact absurd h (key m n q hn)
  · exact q
  · exact absurd h.symm (key n m q hm)
set_option genInjectivity false in
structure TDict (h : H) (D : Addr) (first : Nat) (ms : List Nat) (F : Nat → List Value) : Prop where
  e : ∃ (ad : Nat → Addr) (ep : Nat), h D = some (.sd (ms.map fun m => (textOf first m, Value.ref (ad m))) ep) ∧ ∀ m ∈ ms, h (ad m) = some (.list (F m))
theorem TDict.new {h : H} {D : Addr} {ep first : Nat} {F : Nat → List Value} (e : h D = some (.sd [] ep)) : TDict h D first [] F := ⟨fun _ => 0, ep, e, fun m hm => by cases hm⟩
theorem TDict.ext {h h' : H} {D : Addr} {first : Nat} {ms : List Nat} {F : Nat → List Value} (w : TDict h D first ms F) (k : ∀ a o, h a = some o → h' a = some o) : TDict h' D first ms F := by
  obtain ⟨ad, ep, e1, e2⟩ := w.e
  exact ⟨ad, ep, k _ _ e1, fun m hm => k _ _ (e2 m hm)⟩
theorem TDict.alive {h : H} {D : Addr} {first : Nat} {ms : List Nat} {F : Nat → List Value} (w : TDict h D first ms F) : ∃ kvs ep, h D = some (.sd kvs ep) := by
  obtain ⟨ad, ep, e1, _⟩ := w.e
  exact ⟨_, _, e1⟩
theorem TDict.other {h : H} {D : Addr} {first : Nat} {ms : List Nat} {F : Nat → List Value} (w : TDict h D first ms F) {a : Addr} {o o' : AObj} (e : h a = some o) (hd : a ≠ D) (hl : ∀ m ∈ ms, o ≠ .list (F m)) : TDict (h.set a o') D first ms F := by
  obtain ⟨ad, ep, e1, e2⟩ := w.e
  exact ⟨ad, ep, (H.set_ne _ _ hd.symm).trans e1, fun m hm => H.set_other (e2 m hm) e (hl m hm).symm⟩
noncomputable abbrev WD (h : H) (D : Addr) (first : Nat) (ms : List Nat) (f : Nat → Nat × Nat) : Prop := TDict h D first ms fun m => nInts [(f m).1, (f m).2]
theorem valueAt_mapN {first : Nat} (hf : first < 28) {f : Nat → Value} : ∀ {ms : List Nat} {m : Nat}, (∀ n ∈ ms, n < 32) → m < 32 → valueAt (ms.map fun m => (textOf first m, f m)) (textOf first m) = if m ∈ ms then some (f m) else none
  | [], m, _, _ => by simp [valueAt]
  | n :: r, m, h1, h2 => by
    have ih := valueAt_mapN hf (f := f) (fun n hn => h1 n (.tail _ hn)) h2
    unfold valueAt at ih ⊢
    rw [List.map_cons, List.find?_cons]
    by_cases q : n = m
    · subst q; simp
    · have : ¬ textOf first n = textOf first m := fun z => q (text_inj hf (h1 n (.head _)) h2 z)
      simp only [this, decide_false]
      rw [ih]
      have : (m ∈ n :: r) = (m ∈ r) := by simp [Ne.symm q]
      simp only [this]
theorem stored_mapN {first : Nat} (hf : first < 28) {f : Nat → Value} {ms : List Nat} {m : Nat} (h1 : ∀ n ∈ ms, n < 32) (h2 : m < 32) (h : m ∉ ms) (v : Value) : stored (ms.map fun m => (textOf first m, f m)) (textOf first m) v = (ms.map fun m => (textOf first m, f m)) ++ [(textOf first m, v)] := by
  unfold stored
  rw [if_neg]
  simp only [List.any_map, List.any_eq_true, Function.comp_apply, decide_eq_true_eq]
  rintro ⟨x, hx, hxm⟩
  exact h (text_inj hf (h1 x hx) h2 hxm ▸ hx)
theorem v_tdSetK {l : List (Str × Value)} {h K : H} {D r : Addr} {first : Nat} {ms : List Nat} {F : Nat → List Value} {m : Nat} {t : Tok} {QU : Unit → St → Prop} (w : TDict K D first ms F) (sub : ∀ a o, K a = some o → h a = some o) (hf : first < 28) (h1 : ∀ n ∈ ms, n < 32) (h2 : m < 32) (hm : m ∉ ms) (hl : ms.length ≤ 100000)
    (hr : K r = some (.list (F m))) (hq : ∀ o, TDict (K.set D o) D first (ms ++ [m]) F → QU () (sto l (h.set D o))) : setItemM (.ref D) (.str (textOf first m) t) (.ref r) QU (sto l h) := by
  obtain ⟨ad, ep, e1, e2⟩ := w.e
  refine v_setS (sub _ _ e1) (by rw [List.length_map]; exact hl) fun ep' => hq _ ⟨fun n => if n = m then r else ad n, ep', ?_, fun n hn => ?_⟩
  · rw [stored_mapN hf h1 h2 hm, H.set_self, List.map_append]
    simp only [List.map_cons, List.map_nil, if_true]
    congr 3
    refine List.map_congr_left fun n hn => ?_
    rw [if_neg fun (q : n = m) => hm (q ▸ hn)]
  · by_cases q : n = m
    · subst q
      simp only [if_true]
      exact H.set_other hr e1 (by intro q; cases q)
    · simp only [if_neg q]
      have hn : n ∈ ms := (List.mem_append.mp hn).resolve_right fun z => q (List.mem_singleton.mp z)
      exact H.set_other (e2 n hn) e1 (by intro q; cases q)
theorem v_wdSet {l : List (Str × Value)} {h : H} {D r : Addr} {first : Nat} {ms : List Nat} {F : Nat → List Value} {m : Nat} {t : Tok} {QU : Unit → St → Prop} (w : TDict h D first ms F) (hf : first < 28) (h1 : ∀ n ∈ ms, n < 32) (h2 : m < 32) (hm : m ∉ ms) (hl : ms.length ≤ 100000)
    (hr : h r = some (.list (F m))) (hq : ∀ h', TDict h' D first (ms ++ [m]) F → (∀ a, a ≠ D → h' a = h a) → QU () (sto l h')) : setItemM (.ref D) (.str (textOf first m) t) (.ref r) QU (sto l h) :=
  v_tdSetK w (fun _ _ e => e) hf h1 h2 hm hl hr fun _ w' => hq _ w' fun _ q => H.set_ne _ _ q
theorem v_tdGetK {l : List (Str × Value)} {h K : H} {D : Addr} {first : Nat} {ms : List Nat} {F : Nat → List Value} {m : Nat} {t : Tok} {Q : Value → St → Prop} (w : TDict K D first ms F) (sub : ∀ a o, K a = some o → h a = some o) (hf : first < 28) (h1 : ∀ n ∈ ms, n < 32) (hm : m ∈ ms)
    (hq : ∀ r, K r = some (.list (F m)) → Q (.ref r) (sto l h)) : itemM (.ref D) (.str (textOf first m) t) Q (sto l h) := by
  obtain ⟨ad, ep, e1, e2⟩ := w.e
  exact v_itemS (sub _ _ e1) (by rw [valueAt_mapN hf h1 (h1 m hm), if_pos hm]) (hq _ (e2 m hm))
theorem wd_eqv {h : H} {D D' : Addr} {first : Nat} {ms ms' : List Nat} {f f' : Nat → Nat × Nat} (w : WD h D first ms f) (w' : WD h D' first ms' f') (hf : first < 28) (h1 : ∀ n ∈ ms', n < 32) (hlen : ms.length = ms'.length) (hsub : ∀ m ∈ ms, m ∈ ms' ∧ f m = f' m) {n : Nat} : Eqv h (n + 2) true (.ref D) (.ref D') := by
  obtain ⟨ad, ep, e1, e2⟩ := w.e
  obtain ⟨ad', ep', e1', e2'⟩ := w'.e
  refine .inr (.inr ⟨rfl, D, D', _, _, ep, ep', rfl, rfl, e1, e1', by simp [hlen], ?_⟩)
  intro p hp
  obtain ⟨m, hm, rfl⟩ := List.mem_map.mp hp
  obtain ⟨hm', hff⟩ := hsub m hm
  refine ⟨.ref (ad' m), by rw [valueAt_mapN hf h1 (h1 m hm'), if_pos hm'], .inr (.inl ⟨ad m, ad' m, _, _, rfl, rfl, e2 m hm, e2' m hm', by simp [nInts_length], ?_⟩)⟩
  intro j v u hv hu
  rw [hff] at hv
  rw [hv] at hu
  cases hu
  have : isAtom v = true := by
    unfold nInts at hv
    rw [List.getElem?_map] at hv
    cases q : ([(f' m).1, (f' m).2] : List Nat)[j]? with
    | none => rw [q] at hv; cases hv
    | some x => rw [q] at hv; cases hv; rfl
  exact Eqv.atom this
end Mine
end
section
open PySem PySem.W PyProof.Rows PySem.Calls
set_option maxRecDepth 100000
namespace Mine
noncomputable def outs (E : List (Str × Str)) (p : Str) : List Str := (E.filter fun e => decide (e.1 = p)).map (·.2)
noncomputable def cnt (E : List (Str × Str)) (D : Str → Bool) (v : Str) : Nat := E.countP fun e => decide (e.2 = v) && !D e.1
set_option genInjectivity false in
structure Built (E : List (Str × Str)) (N : List Str) (T : TS) : Prop where
  np : ∀ v, T.np v = (cnt E (fun _ => false) v : Nat)
  succ : ∀ p, T.succ p = outs E p
  mem : ∀ w, w ∈ T.names ↔ w ∈ N
  rdy : T.ready = none
  npo : T.npo = 0
  nfi : T.nfi = 0
  blank : T.blank
  cl : ∀ e ∈ E, e.1 ∈ N ∧ e.2 ∈ N
noncomputable def T0 : TS := ⟨[], fun _ => 0, fun _ => [], none, 0, 0⟩
theorem built0 : Built [] [] T0 := ⟨fun _ => rfl, fun _ => rfl, fun _ => Iff.rfl, rfl, rfl, rfl, fun _ _ => ⟨rfl, rfl⟩, fun e he => by cases he⟩
theorem foldPred_succ {v : Str} : ∀ (ps : List Str) (T : TS) (p : Str), (ps.foldl (predT v) T).succ p = T.succ p ++ (ps.filter fun q => decide (q = p)).map fun _ => v
  | [], T, p => by simp
  | q :: ps, T, p => by
    rw [List.foldl_cons, foldPred_succ ps, List.filter_cons]
    show (upd T.succ q (T.succ q ++ [v]) p) ++ _ = _
    by_cases h : q = p
    · subst h; rw [upd_self]; simp
    · rw [upd_ne _ _ (Ne.symm h)]; simp [h]
theorem foldPred_rest {v : Str} : ∀ (ps : List Str) (T : TS), (ps.foldl (predT v) T).npo = T.npo ∧ (ps.foldl (predT v) T).nfi = T.nfi
  | [], _ => ⟨rfl, rfl⟩
  | p :: ps, T => foldPred_rest ps (predT v T p)
theorem Built.add {E : List (Str × Str)} {N : List Str} {T : TS} (b : Built E N T) (v : Str) (ps : List Str) : Built (E ++ ps.map fun p => (p, v)) (N ++ v :: ps) (addT T v ps) := by
  have hv : v ∈ (infoT T v).names := infoT_mem.mpr (.inr rfl)
  obtain ⟨h1, _, _, h4, h5, h6⟩ := foldPred (v := v) ps { infoT T v with np := upd T.np v (T.np v + ps.length) } (blank_np hv (blank_info b.blank))
  obtain ⟨h7, h8⟩ := foldPred_rest (v := v) ps { infoT T v with np := upd T.np v (T.np v + ps.length) }
  refine ⟨fun w => ?_, fun p => ?_, fun w => ?_, h4.trans b.rdy, h7.trans b.npo, h8.trans b.nfi, h1, fun e he => ?_⟩
  · show (ps.foldl (predT v) _).np w = _
    rw [h6]
    show upd T.np v (T.np v + ps.length) w = _
    unfold cnt
    rw [List.countP_append, List.countP_map]
    by_cases q : w = v
    · subst q
      rw [upd_self, b.np]
      unfold cnt
      have : List.countP ((fun e : Str × Str => decide (e.2 = w) && !false) ∘ fun p => (p, w)) ps = ps.length := by
        rw [List.countP_eq_length]; intro a _; simp
      rw [this]; omega
    · rw [upd_ne _ _ q, b.np]
      unfold cnt
      have : List.countP ((fun e : Str × Str => decide (e.2 = w) && !false) ∘ fun p => (p, v)) ps = 0 := by
        rw [List.countP_eq_zero]; intro a _; simp [Ne.symm q]
      rw [this]; omega
  · show (ps.foldl (predT v) _).succ p = _
    rw [foldPred_succ]
    show T.succ p ++ _ = _
    rw [b.succ]
    unfold outs
    rw [List.filter_append, List.map_append]
    congr 1
    rw [List.filter_map, List.map_map]
    rfl
  · show w ∈ (ps.foldl (predT v) _).names ↔ _
    rw [h5]
    show (w ∈ (infoT T v).names ∨ w ∈ ps) ↔ _
    rw [infoT_mem, b.mem, List.mem_append, List.mem_cons, or_assoc]
  · rcases List.mem_append.mp he with he | he
    · exact ⟨List.mem_append_left _ (b.cl e he).1, List.mem_append_left _ (b.cl e he).2⟩
    · obtain ⟨p, hp, rfl⟩ := List.mem_map.mp he
      exact ⟨List.mem_append_right _ (.tail _ hp), List.mem_append_right _ (.head _)⟩
theorem outs_mem {E : List (Str × Str)} {p v : Str} : v ∈ outs E p ↔ (p, v) ∈ E := by
  unfold outs
  rw [List.mem_map]
  constructor
  · rintro ⟨⟨a, b⟩, he, rfl⟩
    rw [List.mem_filter] at he
    have : a = p := of_decide_eq_true he.2
    subst this; exact he.1
  · intro h
    exact ⟨(p, v), List.mem_filter.mpr ⟨h, by simp⟩, rfl⟩
theorem outs_len (E : List (Str × Str)) (p : Str) : (outs E p).length ≤ E.length := by
  unfold outs; rw [List.length_map]; exact List.length_filter_le _ _
set_option genInjectivity false in
structure Rd (E : List (Str × Str)) (N : List Str) (D : Str → Bool) (T : TS) (rs : List Str) : Prop where
  succ : ∀ p, T.succ p = outs E p
  mem : ∀ w, w ∈ T.names ↔ w ∈ N
  cl : ∀ e ∈ E, e.1 ∈ N ∧ e.2 ∈ N
  rdy : T.ready = some rs
  nod : rs.Nodup
  rs : ∀ v, v ∈ rs ↔ v ∈ N ∧ D v = false ∧ cnt E D v = 0
  np : ∀ v, D v = false → T.np v = (cnt E D v : Nat)
  down : ∀ e ∈ E, D e.2 = true → D e.1 = true
  even : T.npo = T.nfi
theorem Built.prep {E : List (Str × Str)} {N : List Str} {T : TS} (b : Built E N T) (hn : T.names.Nodup) : Rd E N (fun _ => false) (prepT T) (T.names.filter fun v => T.np v == 0) := by
  refine ⟨b.succ, b.mem, b.cl, rfl, hn.filter _, fun v => ?_, fun v _ => b.np v, fun e _ h => (by cases h), b.npo.trans b.nfi.symm⟩
  rw [List.mem_filter, b.mem, b.np]
  constructor
  · rintro ⟨h1, h2⟩
    exact ⟨h1, rfl, by have : ((cnt E (fun _ => false) v : Nat) : Int) = 0 := by simpa using h2
                       omega⟩
  · rintro ⟨h1, _, h2⟩
    exact ⟨h1, by rw [h2]; rfl⟩
theorem dec_spec : ∀ (ss : List Str) (T : TS) (rs : List Str), T.ready = some rs → (∀ s ∈ ss, (ss.count s : Int) ≤ T.np s) → (∀ s, (ss.foldl decT T).np s = T.np s - ss.count s) ∧ ∃ zs, (ss.foldl decT T).ready = some (rs ++ zs) ∧ zs.Nodup ∧ ∀ z, z ∈ zs ↔ z ∈ ss ∧ T.np z = ss.count z
  | [], T, rs, h, _ => ⟨fun s => by simp, [], by simp [h], by simp, by simp⟩
  | s :: ss, T, rs, h, hc => by
    have hnp : ∀ z, (decT T s).np z = if z = s then T.np s - 1 else T.np z := fun z => rfl
    have hcnt : ∀ z, (s :: ss).count z = ss.count z + if z = s then 1 else 0 := fun z => by
      rw [List.count_cons]
      by_cases q : z = s
      · subst q; simp
      · simp [q, Ne.symm q]
    have hs := hc s (.head _)
    rw [hcnt, if_pos rfl] at hs
    have hc' : ∀ z ∈ ss, (ss.count z : Int) ≤ (decT T s).np z := fun z hz => by
      have := hc z (.tail _ hz)
      rw [hcnt] at this
      rw [hnp]
      by_cases q : z = s
      · subst q; rw [if_pos rfl] at this ⊢; omega
      · rw [if_neg q] at this ⊢; omega
    have key : ∀ rs₁, (decT T s).ready = some rs₁ → (∀ x, ((s :: ss).foldl decT T).np x = T.np x - (s :: ss).count x) ∧ ∃ zs, ((s :: ss).foldl decT T).ready = some (rs₁ ++ zs) ∧ zs.Nodup ∧ ∀ z, z ∈ zs ↔ z ∈ ss ∧ (decT T s).np z = ss.count z := fun rs₁ h₁ => by
      obtain ⟨k1, k2⟩ := dec_spec ss (decT T s) rs₁ h₁ hc'
      refine ⟨fun x => ?_, k2⟩
      rw [List.foldl_cons, k1 x, hnp, hcnt]
      by_cases q : x = s
      · subst q; rw [if_pos rfl, if_pos rfl]; omega
      · rw [if_neg q, if_neg q]; omega
    have hr : (decT T s).ready = if T.np s - 1 = 0 then T.ready.map (· ++ [s]) else T.ready := rfl
    rw [h] at hr
    by_cases h0 : T.np s - 1 = 0
    · rw [if_pos h0] at hr
      obtain ⟨k1, zs, k2, k3, k4⟩ := key (rs ++ [s]) hr
      have hss : s ∉ ss := fun q => by
        have := List.count_pos_iff.mpr q
        omega
      refine ⟨k1, s :: zs, by rw [k2]; simp, ?_, fun z => ?_⟩
      · rw [List.nodup_cons]; exact ⟨fun q => hss ((k4 s).mp q).1, k3⟩
      · rw [List.mem_cons, k4 z, hnp, hcnt, List.mem_cons]
        by_cases q : z = s
        · subst q
          rw [if_pos rfl, if_pos rfl]
          have : ss.count z = 0 := List.count_eq_zero.mpr hss
          exact ⟨fun _ => ⟨.inl rfl, by omega⟩, fun _ => .inl rfl⟩
        · rw [if_neg q, if_neg q]
          exact ⟨fun k => k.elim (fun e => absurd e q) fun k => ⟨.inr k.1, by omega⟩, fun k => .inr ⟨k.1.resolve_left q, by omega⟩⟩
    · rw [if_neg h0] at hr
      obtain ⟨k1, zs, k2, k3, k4⟩ := key rs hr
      refine ⟨k1, zs, k2, k3, fun z => ?_⟩
      rw [k4 z, hnp, hcnt, List.mem_cons]
      by_cases q : z = s
      · subst q
        rw [if_pos rfl, if_pos rfl]
        constructor
        · rintro ⟨k, e⟩; exact ⟨.inl rfl, by omega⟩
        · rintro ⟨_, e⟩
          refine ⟨?_, by omega⟩
          exact List.count_pos_iff.mp (by omega)
      · rw [if_neg q, if_neg q]
        exact ⟨fun k => ⟨.inr k.1, by omega⟩, fun k => ⟨k.1.resolve_left q, by omega⟩⟩
noncomputable def orD (D : Str → Bool) (xs : List Str) : Str → Bool := fun v => D v || decide (v ∈ xs)
theorem cnt_more {E : List (Str × Str)} {D : Str → Bool} {v s : Str} (hv : D v = false) : cnt E D s = cnt E (orD D [v]) s + (outs E v).count s := by
  unfold cnt outs
  induction E with
  | nil => simp
  | cons e E ih =>
    obtain ⟨a, b⟩ := e
    simp only [List.countP_cons, List.filter_cons]
    by_cases h1 : a = v
    · subst h1
      simp only [decide_true, if_true, List.map_cons, List.count_cons, orD, hv]
      by_cases h2 : b = s
      · subst h2; simp [orD] at ih ⊢; omega
      · simp [h2, orD] at ih ⊢; omega
    · simp only [h1, decide_false, Bool.false_eq_true, if_false, orD, List.mem_singleton, Bool.or_false]
      simp only [orD, List.mem_singleton] at ih
      omega
theorem orD_snoc (D : Str → Bool) (xs : List Str) (v : Str) : orD D (xs ++ [v]) = orD (orD D xs) [v] := by
  funext w; unfold orD; simp [Bool.or_assoc]
theorem orD_nil (D : Str → Bool) : orD D [] = D := by funext w; unfold orD; simp
set_option genInjectivity false in
structure Dn (E : List (Str × Str)) (N : List Str) (D : Str → Bool) (rs : List Str) (T T' : TS) (i : Nat) : Prop where
  names : T'.names = T.names
  succ : ∀ p, T'.succ p = outs E p
  npo : T'.npo = T.npo
  nfi : T'.nfi = T.nfi + i
  np : ∀ s, D s = false → s ∉ rs → T'.np s = (cnt E (orD D (rs.take i)) s : Nat)
  out : ∀ j (h : j < rs.length), i ≤ j → T'.np rs[j] = -1
  q : ∃ q, T'.ready = some q ∧ q.Nodup ∧ ∀ s, s ∈ q ↔ s ∈ N ∧ D s = false ∧ s ∉ rs ∧ cnt E (orD D (rs.take i)) s = 0
theorem Rd.ready {E : List (Str × Str)} {N : List Str} {D : Str → Bool} {T : TS} {rs : List Str} (r : Rd E N D T rs) : Dn E N D rs (readyT T rs) (readyT T rs) 0 := by
  refine ⟨rfl, r.succ, rfl, by simp, fun s h1 h2 => ?_, fun j h _ => ?_, [], rfl, by simp, fun s => ?_⟩
  · show (if s ∈ rs then (-1 : Int) else T.np s) = _
    rw [if_neg h2, List.take_zero, orD_nil]; exact r.np s h1
  · show (if rs[j] ∈ rs then (-1 : Int) else _) = _
    rw [if_pos (List.getElem_mem h)]
  · rw [List.take_zero, orD_nil]
    constructor
    · intro h; cases h
    · rintro ⟨h1, h2, h3, h4⟩; exact absurd ((r.rs s).mpr ⟨h1, h2, h4⟩) h3
theorem cnt_zero_pred {E : List (Str × Str)} {D : Str → Bool} {v : Str} : cnt E D v = 0 ↔ ∀ e ∈ E, e.2 = v → D e.1 = true := by
  unfold cnt
  rw [List.countP_eq_zero]
  constructor
  · intro h e he hv
    have := h e he
    cases q : D e.1 with
    | true => rfl
    | false => simp [hv, q] at this
  · intro h e he
    by_cases q : e.2 = v
    · simp [h e he q]
    · simp [q]
theorem take_mem_not {rs : List Str} (hn : rs.Nodup) {i : Nat} (h : i < rs.length) : rs[i] ∉ rs.take i := fun q => by
  have h1 : (rs.take i ++ rs.drop i).Nodup := by rw [List.take_append_drop]; exact hn
  rw [List.nodup_append] at h1
  exact h1.2.2 _ q _ (by rw [List.drop_eq_getElem_cons h]; exact .head _) rfl
theorem Rd.step {E : List (Str × Str)} {N : List Str} {D : Str → Bool} {T T' : TS} {rs : List Str} (r : Rd E N D T rs) {i : Nat} (hi : i < rs.length) (d : Dn E N D rs (readyT T rs) T' i) : Dn E N D rs (readyT T rs) (done1 T' rs[i]) (i + 1) := by
  obtain ⟨q, q1, q2, q3⟩ := d.q
  have hnt := take_mem_not r.nod hi
  have htk : rs.take (i + 1) = rs.take i ++ [rs[i]] := by rw [List.take_add_one, List.getElem?_eq_getElem hi]; rfl
  have hvr := List.getElem_mem hi
  obtain ⟨v1, v2, v3⟩ := (r.rs _).mp hvr
  have hout := d.out
  generalize hv : rs[i] = v at *
  have hDv : orD D (rs.take i) v = false := by unfold orD; rw [v2]; simpa using hnt
  have hsucc := d.succ v
  have hes : ∀ s ∈ outs E v, s ∈ N ∧ D s = false ∧ s ∉ rs := fun s hs => by
    have he := outs_mem.mp hs
    refine ⟨(r.cl _ he).2, ?_, fun z => ?_⟩
    · cases z : D s with
      | false => rfl
      | true => have h1 := r.down _ he z
                dsimp only at h1; rw [v2] at h1; cases h1
    · have h1 := cnt_zero_pred.mp ((r.rs s).mp z).2.2 _ he rfl
      dsimp only at h1; rw [v2] at h1; cases h1
  have hcm : ∀ s, cnt E (orD D (rs.take i)) s = cnt E (orD D (rs.take (i + 1))) s + (outs E v).count s := fun s => by
    rw [htk, orD_snoc]; exact cnt_more hDv
  have hup : ∀ s, s ≠ v → (upd T'.np v (-2)) s = T'.np s := fun s hs => upd_ne _ _ hs
  have hne : ∀ s, D s = false → s ∉ rs → s ≠ v := fun s _ h2 z => h2 (z ▸ hvr)
  obtain ⟨k1, zs, k2, k3, k4⟩ := dec_spec (T'.succ v) { T' with np := upd T'.np v (-2) } q q1 (fun s hs => by
    rw [hsucc] at hs ⊢
    obtain ⟨e1, e2, e3⟩ := hes s hs
    show _ ≤ (upd T'.np v (-2)) s
    rw [hup s (hne s e2 e3), d.np s e2 e3, hcm]; omega)
  rw [hsucc] at k1 k4
  obtain ⟨f1, f2, f3, f4, _⟩ := foldDec (T'.succ v) { T' with np := upd T'.np v (-2) } q q1
  refine ⟨?_, fun p => ?_, ?_, ?_, fun s h1 h2 => ?_, fun j hj hij => ?_, q ++ zs, k2, ?_, fun s => ?_⟩
  · exact f1.trans d.names
  · show ((T'.succ v).foldl decT _).succ p = _
    rw [f2]; exact d.succ p
  · exact f3.trans d.npo
  · show T'.nfi + 1 = _
    rw [d.nfi]; omega
  · show ((T'.succ v).foldl decT _).np s = _
    rw [hsucc, k1]
    show (upd T'.np v (-2)) s - _ = _
    rw [hup s (hne s h1 h2), d.np s h1 h2, hcm]; omega
  · show ((T'.succ v).foldl decT _).np rs[j] = _
    have hjv : rs[j] ≠ v := fun z => by
      have : i = j := by
        rcases Nat.lt_trichotomy i j with y | y | y
        · have := List.pairwise_iff_getElem.mp r.nod i j hi hj y
          rw [hv, z] at this; exact absurd rfl this
        · exact y
        · omega
      omega
    have hcz : (outs E v).count rs[j] = 0 := List.count_eq_zero.mpr fun z => (hes _ z).2.2 (List.getElem_mem hj)
    rw [hsucc, k1]
    show (upd T'.np v (-2)) rs[j] - _ = _
    rw [hup _ hjv, hcz, hout j hj (by omega)]; rfl
  · rw [List.nodup_append]
    refine ⟨q2, k3, fun a ha b hb hab => ?_⟩
    subst hab
    have h1 := ((q3 a).mp ha).2.2.2
    have h2 := ((k4 a).mp hb).1
    have := hcm a
    have := List.count_pos_iff.mpr h2
    omega
  · rw [List.mem_append, q3 s, k4 s]
    have hc := hcm s
    constructor
    · rintro (⟨h1, h2, h3, h4⟩ | ⟨h1, h2⟩)
      · exact ⟨h1, h2, h3, by omega⟩
      · obtain ⟨e1, e2, e3⟩ := hes s h1
        refine ⟨e1, e2, e3, ?_⟩
        replace h2 : (upd T'.np v (-2)) s = _ := h2
        rw [hup s (hne s e2 e3), d.np s e2 e3] at h2; omega
    · rintro ⟨h1, h2, h3, h4⟩
      by_cases z : s ∈ outs E v
      · refine .inr ⟨z, ?_⟩
        show (upd T'.np v (-2)) s = _
        rw [hup s (hne s h2 h3), d.np s h2 h3]; omega
      · exact .inl ⟨h1, h2, h3, by rw [hc, List.count_eq_zero.mpr z, h4]⟩
theorem Rd.done {E : List (Str × Str)} {N : List Str} {D : Str → Bool} {T : TS} {rs : List Str} (r : Rd E N D T rs) : ∀ i, i ≤ rs.length → Dn E N D rs (readyT T rs) (doneT (readyT T rs) (rs.take i)) i
  | 0, _ => by rw [List.take_zero]; exact r.ready
  | i + 1, h => by
    have d := Rd.done r i (by omega)
    have := r.step (by omega) d
    have e : doneT (readyT T rs) (rs.take (i + 1)) = done1 (doneT (readyT T rs) (rs.take i)) rs[i] := by
      unfold doneT
      rw [List.take_add_one, List.getElem?_eq_getElem (by omega), List.foldl_append]; rfl
    rw [e]; exact this
theorem Rd.turn {E : List (Str × Str)} {N : List Str} {D : Str → Bool} {T : TS} {rs : List Str} (r : Rd E N D T rs) : ∃ rs', Rd E N (orD D rs) (doneT (readyT T rs) rs) rs' := by
  have d := r.done rs.length (Nat.le_refl _)
  rw [List.take_length] at d
  obtain ⟨q, q1, q2, q3⟩ := d.q
  rw [List.take_length] at q3
  refine ⟨q, d.succ, fun w => by rw [d.names]; exact r.mem w, r.cl, q1, q2, fun v => ?_, fun v hv => ?_, fun e he h => ?_, ?_⟩
  · rw [q3 v]
    unfold orD
    constructor
    · rintro ⟨h1, h2, h3, h4⟩; exact ⟨h1, by rw [h2]; simpa using h3, h4⟩
    · rintro ⟨h1, h2, h4⟩
      simp only [Bool.or_eq_false_iff, decide_eq_false_iff_not] at h2
      exact ⟨h1, h2.1, h2.2, h4⟩
  · unfold orD at hv
    simp only [Bool.or_eq_false_iff, decide_eq_false_iff_not] at hv
    have := d.np v hv.1 hv.2
    rwa [List.take_length] at this
  · unfold orD at h ⊢
    simp only [Bool.or_eq_true, decide_eq_true_eq] at h ⊢
    rcases h with h | h
    · exact .inl (r.down e he h)
    · exact .inl (cnt_zero_pred.mp ((r.rs _).mp h).2.2 e he rfl)
  · rw [d.npo, d.nfi]
    show T.npo + rs.length = T.nfi + rs.length
    rw [r.even]
theorem Rd.minus {E : List (Str × Str)} {N : List Str} {D : Str → Bool} {T : TS} {rs : List Str} (r : Rd E N D T rs) (i : Nat) (hi : i < rs.length) : (doneT (readyT T rs) (rs.take i)).np rs[i] = -1 := (r.done i (by omega)).out i hi (Nat.le_refl _)
theorem Rd.sub {E : List (Str × Str)} {N : List Str} {D : Str → Bool} {T : TS} {rs : List Str} (r : Rd E N D T rs) : ∀ v ∈ rs, v ∈ T.names := fun v hv => (r.mem v).mpr ((r.rs v).mp hv).1
end Mine
end
section
open PySem PySem.W PyProof.Rows PySem.Calls
set_option maxRecDepth 100000
namespace Mine
noncomputable def cut (us : List Nat) (m k : Nat) : Nat := m - (m &&& (fallsOf us).getD k 0)
noncomputable def cuts (us : List Nat) (m : Nat) : List Nat := (bitsTo m 5).map (cut us m)
noncomputable def gOk (us : List Nat) : Bool := (standsOf us).all fun m => (cuts us m).all (fun c => (standsOf us).contains c && Nat.blt (tw us c).1 (tw us m).1 && (tw us c).2 != (tw us m).2) && ((tw us m).1 == 0 || (cuts us m).any fun c => (tw us c).1 + 1 == (tw us m).1) && Nat.ble (tw us m).1 5 &&
  (List.range (tw us m).2).all fun v => (cuts us m).any fun c => (tw us c).2 == v
theorem gOk_all : ∀ b, b < 2 → ∀ c, c < 3 → ∀ d, d < 4 → ∀ e, e < 5 → gOk [0, b, c, d, e] = true := by decide +kernel
theorem garden_ok {us : List Nat} (g : Garden us) : gOk us = true := by
  obtain ⟨h1, h2⟩ := g
  obtain ⟨a, r, rfl, q1⟩ := consOf h1
  obtain ⟨b, r, rfl, q2⟩ := consOf q1
  obtain ⟨c, r, rfl, q3⟩ := consOf q2
  obtain ⟨d, r, rfl, q4⟩ := consOf q3
  obtain ⟨e, r, rfl, q5⟩ := consOf q4
  cases List.length_eq_zero_iff.mp q5
  cases Nat.le_zero.mp (h2 0 (by decide))
  exact gOk_all b (Nat.lt_succ_of_le (h2 1 (by decide))) c (Nat.lt_succ_of_le (h2 2 (by decide))) d (Nat.lt_succ_of_le (h2 3 (by decide))) e (Nat.lt_succ_of_le (h2 4 (by decide)))
set_option genInjectivity false in
structure GF (us : List Nat) (m : Nat) : Prop where
  st : ∀ c ∈ cuts us m, c ∈ standsOf us
  lt : ∀ c ∈ cuts us m, (tw us c).1 < (tw us m).1
  up : (tw us m).1 = 0 ∨ ∃ c ∈ cuts us m, (tw us c).1 + 1 = (tw us m).1
  le : (tw us m).1 ≤ 5
  ne : ∀ c ∈ cuts us m, (tw us c).2 ≠ (tw us m).2
  all : ∀ v, v < (tw us m).2 → ∃ c ∈ cuts us m, (tw us c).2 = v
theorem gf {us : List Nat} (g : Garden us) {m : Nat} (hm : m ∈ standsOf us) : GF us m := by
  have h := garden_ok g
  unfold gOk at h
  have h := List.all_eq_true.mp h m hm
  simp only [Bool.and_eq_true, List.all_eq_true, Bool.or_eq_true, List.any_eq_true, Nat.blt_eq, beq_iff_eq, bne_iff_ne, List.contains_eq_mem, decide_eq_true_eq, Nat.ble_eq, List.mem_range] at h
  obtain ⟨⟨⟨h1, h2⟩, h3⟩, h4⟩ := h
  exact ⟨fun c hc => (h1 c hc).1.1, fun c hc => (h1 c hc).1.2, h2, h3, fun c hc => (h1 c hc).2, fun v hv => h4 v hv⟩
theorem stands_lt {us : List Nat} {m : Nat} (h : m ∈ standsOf us) : m < 32 := List.mem_range.mp (List.mem_filter.mp h).1
theorem stands_nodup (us : List Nat) : (standsOf us).Nodup := List.Pairwise.filter _ List.nodup_range
theorem stands_len (us : List Nat) : (standsOf us).length ≤ 32 := by
  have := List.length_filter_le (standOk us) (List.range 32)
  rwa [List.length_range] at this
end Mine
namespace Mine
theorem bitAnd_not (m f : Nat) : Builtin.bitAnd m (Builtin.bitNot f) = ((m - (m &&& f) : Nat) : Int) := by
  unfold Builtin.bitAnd Builtin.bitNot
  rw [decide_eq_true (Int.natCast_nonneg m), decide_eq_false (show ¬ (0 : Int) ≤ -(f : Int) - 1 by omega)]
  have h1 : (-(-(f : Int) - 1) - 1).toNat = f := by omega
  simp only [h1, Int.toNat_natCast]
  have := Nat.and_le_left (n := m) (m := f)
  omega
theorem v_andNot {σ : St} {m f : Nat} {t : Tok} {Q : Value → St → Prop} (h : Q (.int ((m - (m &&& f) : Nat) : Int) 0) σ) : binM .BitAnd (.int m t) (.int (Builtin.bitNot f) 0) Q σ := by
  show Q _ σ; rw [bitAnd_not]; exact h
theorem v_inv {σ : St} {n : Int} {t : Tok} {Q : Value → St → Prop} (h : Q (.int (Builtin.bitNot n) 0) σ) : unM .Invert (.int n t) Q σ := h
set_option genInjectivity false in
structure Own (K h : H) (fp : Addr → Prop) : Prop where
  get : ∀ a o, K a = some o → h a = some o
  out : ∀ a o, K a = some o → ¬ fp a
theorem Own.frame {K h h' : H} {fp fp' : Addr → Prop} (w : Own K h fp) (f : Frame h h' fp fp') : Own K h' fp' := ⟨fun a o e => f.get (w.get a o e) (w.out a o e), fun a o e => f.not (w.get a o e) (w.out a o e)⟩
theorem Own.set {K h : H} {fp : Addr → Prop} (w : Own K h fp) {a : Addr} {o o' : AObj} (e : K a = some o) : Own (K.set a o') (h.set a o') fp := ⟨fun b p q => by
  by_cases z : b = a
  · subst z; rw [H.set_self] at q ⊢; exact q
  · rw [H.set_ne _ _ z] at q ⊢; exact w.get b p q, fun b p q => by
  by_cases z : b = a
  · subst z; exact w.out b o e
  · rw [H.set_ne _ _ z] at q; exact w.out b p q⟩
theorem Own.new {K h : H} {fp : Addr → Prop} (w : Own K h fp) {a : Addr} {o' : AObj} (e : ¬ fp a) : Own (K.set a o') (h.set a o') fp := ⟨fun b p q => by
  by_cases z : b = a
  · subst z; rw [H.set_self] at q ⊢; exact q
  · rw [H.set_ne _ _ z] at q ⊢; exact w.get b p q, fun b p q => by
  by_cases z : b = a
  · subst z; exact e
  · rw [H.set_ne _ _ z] at q; exact w.out b p q⟩
theorem Own.none {K h : H} {fp : Addr → Prop} (w : Own K h fp) {a : Addr} (e : h a = none) : K a = none := by
  cases q : K a with
  | none => rfl
  | some o => have := w.get a o q; rw [e] at this; cases this
noncomputable abbrev txl (first : Nat) (ms : List Nat) : List (Int × Value) := ms.map fun m : Nat => ((m : Int), Value.str (textOf first m) 0)
theorem txl_at {first : Nat} : ∀ {ms : List Nat} {m : Nat}, valueAt (txl first ms) (m : Int) = if m ∈ ms then some (.str (textOf first m) 0) else none
  | [], m => by simp [valueAt]
  | n :: r, m => by
    have ih := txl_at (first := first) (ms := r) (m := m)
    unfold valueAt at ih ⊢
    rw [txl, List.map_cons, List.find?_cons]
    by_cases q : n = m
    · subst q; simp
    · have : ¬ (n : Int) = (m : Int) := by omega
      simp only [this, decide_false]
      rw [ih]
      have : (m ∈ n :: r) = (m ∈ r) := by simp [Ne.symm q]
      simp only [this]
theorem txl_set {first : Nat} {ms : List Nat} {m : Nat} (h : m ∉ ms) : stored (txl first ms) (m : Int) (.str (textOf first m) 0) = txl first (ms ++ [m]) := by
  unfold stored
  rw [if_neg]
  · simp [txl]
  · simp only [List.any_map, List.any_eq_true, Function.comp_apply, decide_eq_true_eq]
    rintro ⟨x, hx, hxm⟩
    have : x = m := by omega
    exact h (this ▸ hx)
noncomputable def gE (us : List Nat) (first : Nat) (l : List Nat) : List (Str × Str) := l.flatMap fun m => ((cuts us m).map (textOf first)).map fun c => (c, textOf first m)
noncomputable def gN (us : List Nat) (first : Nat) (l : List Nat) : List Str := l.flatMap fun m => textOf first m :: (cuts us m).map (textOf first)
theorem gE_snoc (us : List Nat) (first : Nat) (l : List Nat) (m : Nat) : gE us first (l ++ [m]) = gE us first l ++ ((cuts us m).map (textOf first)).map fun c => (c, textOf first m) := by
  unfold gE; rw [List.flatMap_append]; simp
theorem gN_snoc (us : List Nat) (first : Nat) (l : List Nat) (m : Nat) : gN us first (l ++ [m]) = gN us first l ++ textOf first m :: (cuts us m).map (textOf first) := by
  unfold gN; rw [List.flatMap_append]; simp
theorem cuts_len (us : List Nat) (m : Nat) : (cuts us m).length ≤ 5 := by unfold cuts; rw [List.length_map]; exact bitsTo_len m 5
theorem gE_len (us : List Nat) (first : Nat) : ∀ l : List Nat, (gE us first l).length ≤ 5 * l.length
  | [] => by simp [gE]
  | m :: l => by
    have := gE_len us first l
    have h2 := cuts_len us m
    unfold gE at this ⊢
    rw [List.flatMap_cons, List.length_append, List.length_map, List.length_map, List.length_cons]; omega
theorem gE_mem {us : List Nat} {first : Nat} {l : List Nat} {p v : Str} : (p, v) ∈ gE us first l ↔ ∃ m ∈ l, ∃ c ∈ cuts us m, p = textOf first c ∧ v = textOf first m := by
  unfold gE
  rw [List.mem_flatMap]
  constructor
  · rintro ⟨m, hm, h⟩
    obtain ⟨c', hc', e⟩ := List.mem_map.mp h
    obtain ⟨c, hc, rfl⟩ := List.mem_map.mp hc'
    cases e
    exact ⟨m, hm, c, hc, rfl, rfl⟩
  · rintro ⟨m, hm, c, hc, rfl, rfl⟩
    exact ⟨m, hm, List.mem_map.mpr ⟨_, List.mem_map_of_mem hc, rfl⟩⟩
theorem gN_text {us : List Nat} (g : Garden us) {first : Nat} {l : List Nat} (hl : ∀ m ∈ l, m ∈ standsOf us) {v : Str} (h : v ∈ gN us first l) : ∃ m ∈ standsOf us, v = textOf first m := by
  unfold gN at h
  obtain ⟨m, hm, h⟩ := List.mem_flatMap.mp h
  rcases List.mem_cons.mp h with rfl | h
  · exact ⟨m, hl m hm, rfl⟩
  · obtain ⟨c, hc, rfl⟩ := List.mem_map.mp h
    exact ⟨c, (gf g (hl m hm)).st c hc, rfl⟩
theorem gN_mem {us : List Nat} {first : Nat} {l : List Nat} {m : Nat} (h : m ∈ l) : textOf first m ∈ gN us first l := List.mem_flatMap.mpr ⟨m, h, .head _⟩
theorem g_reach {us : List Nat} (g : Garden us) {first : Nat} (hf : first < 28) {a b : Str} (h : Reach (outs (gE us first (standsOf us))) a b) : ∃ c m, c ∈ standsOf us ∧ m ∈ standsOf us ∧ a = textOf first c ∧ b = textOf first m ∧ (tw us c).1 < (tw us m).1 := by
  induction h with
  | one h =>
    obtain ⟨m, hm, c, hc, rfl, rfl⟩ := gE_mem.mp (outs_mem.mp h)
    exact ⟨c, m, (gf g hm).st c hc, hm, rfl, rfl, (gf g hm).lt c hc⟩
  | tail _ h ih =>
    obtain ⟨c, m, hc, hm, rfl, rfl, hlt⟩ := ih
    obtain ⟨m', hm', c', hc', e, rfl⟩ := gE_mem.mp (outs_mem.mp h)
    have := text_inj hf (stands_lt hm) (stands_lt ((gf g hm').st c' hc')) e
    subst this
    exact ⟨c, m', hc, hm', rfl, rfl, Nat.lt_trans hlt ((gf g hm').lt _ hc')⟩
theorem g_noRing {us : List Nat} (g : Garden us) {first : Nat} (hf : first < 28) (v : Str) : ¬ Reach (outs (gE us first (standsOf us))) v v := fun h => by
  obtain ⟨c, m, hc, hm, e1, e2, hlt⟩ := g_reach g hf h
  have := text_inj hf (stands_lt hc) (stands_lt hm) (e1.symm.trans e2)
  subst this
  omega
theorem g_cnt {us : List Nat} (g : Garden us) {first : Nat} (hf : first < 28) {D : Str → Bool} {m : Nat} (hm : m ∈ standsOf us) : cnt (gE us first (standsOf us)) D (textOf first m) = 0 ↔ ∀ c ∈ cuts us m, D (textOf first c) = true := by
  rw [cnt_zero_pred]
  constructor
  · exact fun h c hc => h (textOf first c, textOf first m) (gE_mem.mpr ⟨m, hm, c, hc, rfl, rfl⟩) rfl
  · rintro h ⟨p, v⟩ he hv
    obtain ⟨m', hm', c, hc, rfl, rfl⟩ := gE_mem.mp he
    have := text_inj hf (stands_lt hm') (stands_lt hm) hv
    subst this
    exact h c hc
theorem g_turn {us : List Nat} (g : Garden us) {first t : Nat} (hf : first < 28) {D : Str → Bool} {T : TS} {rs : List Str} (r : Rd (gE us first (standsOf us)) (gN us first (standsOf us)) D T rs) (hD : ∀ m ∈ standsOf us, D (textOf first m) = decide ((tw us m).1 < t)) :
    ∃ rm : List Nat, rs = rm.map (textOf first) ∧ rm.Nodup ∧ ∀ m, m ∈ rm ↔ m ∈ standsOf us ∧ (tw us m).1 = t := by
  have h1 : ∀ v ∈ rs, ∃ m ∈ standsOf us, v = textOf first m ∧ (tw us m).1 = t := fun v hv => by
    obtain ⟨a1, a2, a3⟩ := (r.rs v).mp hv
    obtain ⟨m, hm, rfl⟩ := gN_text g (fun _ h => h) a1
    refine ⟨m, hm, rfl, ?_⟩
    rw [hD m hm] at a2
    have a2 : ¬ (tw us m).1 < t := of_decide_eq_false a2
    have a3 := (g_cnt g hf hm).mp a3
    rcases (gf g hm).up with h0 | ⟨c, hc, hcl⟩
    · omega
    · have := a3 c hc
      rw [hD c ((gf g hm).st c hc)] at this
      have := of_decide_eq_true this
      omega
  have h2 : ∀ m ∈ standsOf us, (tw us m).1 = t → textOf first m ∈ rs := fun m hm hl => by
    refine (r.rs _).mpr ⟨gN_mem hm, by rw [hD m hm]; exact decide_eq_false (by omega), (g_cnt g hf hm).mpr fun c hc => ?_⟩
    rw [hD c ((gf g hm).st c hc)]
    exact decide_eq_true (by have := (gf g hm).lt c hc; omega)
  have h3 : ∀ (rs : List Str), rs.Nodup → (∀ v ∈ rs, ∃ m ∈ standsOf us, v = textOf first m ∧ (tw us m).1 = t) → ∃ rm : List Nat, rs = rm.map (textOf first) ∧ rm.Nodup ∧ ∀ m ∈ rm, m ∈ standsOf us ∧ (tw us m).1 = t := by
    intro rs
    induction rs with
    | nil => exact fun _ _ => ⟨[], rfl, by simp, fun m hm => by cases hm⟩
    | cons v rs ih =>
      intro hn h
      rw [List.nodup_cons] at hn
      obtain ⟨rm, e, k1, k2⟩ := ih hn.2 fun w hw => h w (.tail _ hw)
      obtain ⟨m, hm, rfl, hl⟩ := h v (.head _)
      refine ⟨m :: rm, by rw [e]; rfl, ?_, fun n hn' => ?_⟩
      · rw [List.nodup_cons]
        exact ⟨fun q => hn.1 (by rw [e]; exact List.mem_map_of_mem q), k1⟩
      · rcases List.mem_cons.mp hn' with rfl | hn'
        · exact ⟨hm, hl⟩
        · exact k2 n hn'
  obtain ⟨rm, e, k1, k2⟩ := h3 rs r.nod h1
  refine ⟨rm, e, k1, fun m => ⟨k2 m, fun ⟨hm, hl⟩ => ?_⟩⟩
  have := h2 m hm hl
  rw [e] at this
  obtain ⟨n, hn, hnm⟩ := List.mem_map.mp this
  have := text_inj hf (stands_lt (k2 n hn).1) (stands_lt hm) hnm
  exact this ▸ hn
theorem mex_unique {S : Int → Prop} {r n : Nat} (m : IsMex S 0 r) (h1 : ∀ v : Nat, v < n → S v) (h2 : ¬ S n) : r = n := by
  rcases Nat.lt_trichotomy r n with h | h | h
  · exact absurd (h1 r h) m.out
  · exact h
  · exact absurd (m.all n (Nat.zero_le _) h) h2
end Mine
end
section
open PySem PySem.W PyProof.Rows PySem.Calls
set_option maxRecDepth 1000000
set_option maxHeartbeats 0
namespace Mine
noncomputable def stAt (i : Nat) : Stmt := match (Program.main PySem.Challenge.pw_oy0274_01).body[i]? with | some s => s | none => .Pass ⟨0, 0, 0, 0⟩
noncomputable def stIn (s : Stmt) (i : Nat) : Stmt := match s with
  | .ClassDef (body := b) .. => (match b[i]? with | some s => s | none => .Pass ⟨0, 0, 0, 0⟩)
  | s => s
noncomputable def fdOf (s : Stmt) (qual mod : Str) (tok code : Nat) (dfl : Value) : FuncData := match s with
  | .FunctionDef (name := n) (args := a) (body := b) (scope := sc) .. => { name := n, qualname := qual, params := a, body := .stmts b, scope := sc, globals := 3, closure := [], defaults := dfl, kwdefaults := .none, pyModule := .str mod tok, code := .ref code }
  | _ => { name := qual, qualname := qual, params := ⟨[], [], none, [], [], none, []⟩, body := .stmts [], scope := { kind := .function, names := [], isGenerator := false, isCoroutine := false }, globals := 3, closure := [], defaults := dfl, kwdefaults := .none }
noncomputable def ex_pretty_flags : PSigma fun fd : FuncData => fdOf (stAt 3) (Str.ofString "pretty_flags") (Str.ofString "cpy313.dis") 194 28 (.none) = fd := by
  refine' ⟨?fd, ?h⟩
  case h => conv => lhs; whnf
noncomputable def ex_ni_init : PSigma fun fd : FuncData => fdOf (stIn (stAt 7) 1) (Str.ofString "_NodeInfo.__init__") (Str.ofString "cpy313.graphlib") 237 43 (.none) = fd := by
  refine' ⟨?fd, ?h⟩
  case h => conv => lhs; whnf
noncomputable def ex_ts_init : PSigma fun fd : FuncData => fdOf (stIn (stAt 9) 0) (Str.ofString "TopologicalSorter.__init__") (Str.ofString "cpy313.graphlib") 237 80 (.ref 74) = fd := by
  refine' ⟨?fd, ?h⟩
  case h => conv => lhs; whnf
noncomputable def ex_get_info : PSigma fun fd : FuncData => fdOf (stIn (stAt 9) 1) (Str.ofString "TopologicalSorter._get_nodeinfo") (Str.ofString "cpy313.graphlib") 237 87 (.none) = fd := by
  refine' ⟨?fd, ?h⟩
  case h => conv => lhs; whnf
noncomputable def ex_add : PSigma fun fd : FuncData => fdOf (stIn (stAt 9) 2) (Str.ofString "TopologicalSorter.add") (Str.ofString "cpy313.graphlib") 237 94 (.none) = fd := by
  refine' ⟨?fd, ?h⟩
  case h => conv => lhs; whnf
noncomputable def ex_prepare : PSigma fun fd : FuncData => fdOf (stIn (stAt 9) 3) (Str.ofString "TopologicalSorter.prepare") (Str.ofString "cpy313.graphlib") 237 99 (.none) = fd := by
  refine' ⟨?fd, ?h⟩
  case h => conv => lhs; whnf
noncomputable def ex_get_ready : PSigma fun fd : FuncData => fdOf (stIn (stAt 9) 4) (Str.ofString "TopologicalSorter.get_ready") (Str.ofString "cpy313.graphlib") 237 106 (.none) = fd := by
  refine' ⟨?fd, ?h⟩
  case h => conv => lhs; whnf
noncomputable def ex_is_active : PSigma fun fd : FuncData => fdOf (stIn (stAt 9) 5) (Str.ofString "TopologicalSorter.is_active") (Str.ofString "cpy313.graphlib") 237 113 (.none) = fd := by
  refine' ⟨?fd, ?h⟩
  case h => conv => lhs; whnf
noncomputable def ex_done : PSigma fun fd : FuncData => fdOf (stIn (stAt 9) 7) (Str.ofString "TopologicalSorter.done") (Str.ofString "cpy313.graphlib") 237 127 (.none) = fd := by
  refine' ⟨?fd, ?h⟩
  case h => conv => lhs; whnf
noncomputable def ex_find_cycle : PSigma fun fd : FuncData => fdOf (stIn (stAt 9) 8) (Str.ofString "TopologicalSorter._find_cycle") (Str.ofString "cpy313.graphlib") 237 134 (.none) = fd := by
  refine' ⟨?fd, ?h⟩
  case h => conv => lhs; whnf
noncomputable def ex_heappush : PSigma fun fd : FuncData => fdOf (stAt 11) (Str.ofString "heappush") (Str.ofString "cpy313.heapq") 419 155 (.none) = fd := by
  refine' ⟨?fd, ?h⟩
  case h => conv => lhs; whnf
noncomputable def ex_heappop : PSigma fun fd : FuncData => fdOf (stAt 12) (Str.ofString "heappop") (Str.ofString "cpy313.heapq") 419 162 (.none) = fd := by
  refine' ⟨?fd, ?h⟩
  case h => conv => lhs; whnf
noncomputable def ex__siftdown : PSigma fun fd : FuncData => fdOf (stAt 13) (Str.ofString "_siftdown") (Str.ofString "cpy313.heapq") 419 169 (.none) = fd := by
  refine' ⟨?fd, ?h⟩
  case h => conv => lhs; whnf
noncomputable def ex__siftup : PSigma fun fd : FuncData => fdOf (stAt 14) (Str.ofString "_siftup") (Str.ofString "cpy313.heapq") 419 176 (.none) = fd := by
  refine' ⟨?fd, ?h⟩
  case h => conv => lhs; whnf
noncomputable def ex__law_ups : PSigma fun fd : FuncData => fdOf (stAt 16) (Str.ofString "_law_ups") (Str.ofString "law_oy0274_01") 463 181 (.none) = fd := by
  refine' ⟨?fd, ?h⟩
  case h => conv => lhs; whnf
noncomputable def ex__law_falls : PSigma fun fd : FuncData => fdOf (stAt 17) (Str.ofString "_law_falls") (Str.ofString "law_oy0274_01") 463 186 (.none) = fd := by
  refine' ⟨?fd, ?h⟩
  case h => conv => lhs; whnf
noncomputable def ex__law_stands : PSigma fun fd : FuncData => fdOf (stAt 18) (Str.ofString "_law_stands") (Str.ofString "law_oy0274_01") 463 191 (.none) = fd := by
  refine' ⟨?fd, ?h⟩
  case h => conv => lhs; whnf
noncomputable def ex__law_word : PSigma fun fd : FuncData => fdOf (stAt 19) (Str.ofString "_law_word") (Str.ofString "law_oy0274_01") 463 198 (.none) = fd := by
  refine' ⟨?fd, ?h⟩
  case h => conv => lhs; whnf
noncomputable def ex__law_words : PSigma fun fd : FuncData => fdOf (stAt 20) (Str.ofString "_law_words") (Str.ofString "law_oy0274_01") 463 203 (.none) = fd := by
  refine' ⟨?fd, ?h⟩
  case h => conv => lhs; whnf
noncomputable def ex__law_told : PSigma fun fd : FuncData => fdOf (stAt 21) (Str.ofString "_law_told") (Str.ofString "law_oy0274_01") 463 210 (.none) = fd := by
  refine' ⟨?fd, ?h⟩
  case h => conv => lhs; whnf
noncomputable def ex__law_least : PSigma fun fd : FuncData => fdOf (stAt 22) (Str.ofString "_law_least") (Str.ofString "law_oy0274_01") 463 217 (.none) = fd := by
  refine' ⟨?fd, ?h⟩
  case h => conv => lhs; whnf
noncomputable def ex__law_played : PSigma fun fd : FuncData => fdOf (stAt 23) (Str.ofString "_law_played") (Str.ofString "law_oy0274_01") 463 222 (.none) = fd := by
  refine' ⟨?fd, ?h⟩
  case h => conv => lhs; whnf
noncomputable def ex_law : PSigma fun fd : FuncData => fdOf (stAt 24) (Str.ofString "law") (Str.ofString "law_oy0274_01") 463 229 (.none) = fd := by
  refine' ⟨?fd, ?h⟩
  case h => conv => lhs; whnf
noncomputable def cfnObj : Obj := { cls := .type "dict", data := .dict #[⟨1, .int 1 196, .str (Str.ofString "OPTIMIZED") 197⟩, ⟨2, .int 2 198, .str (Str.ofString "NEWLOCALS") 199⟩, ⟨4, .int 4 200, .str (Str.ofString "VARARGS") 201⟩, ⟨8, .int 8 202, .str (Str.ofString "VARKEYWORDS") 203⟩, ⟨16, .int 16 204, .str (Str.ofString "NESTED") 205⟩, ⟨32, .int 32 206, .str (Str.ofString "GENERATOR") 207⟩, ⟨64, .int 64 208, .str (Str.ofString "NOFREE") 209⟩, ⟨128, .int 128 210, .str (Str.ofString "COROUTINE") 211⟩, ⟨256, .int 256 212, .str (Str.ofString "ITERABLE_COROUTINE") 213⟩, ⟨512, .int 512 214, .str (Str.ofString "ASYNC_GENERATOR") 215⟩] 10 }
noncomputable def dflObj : Obj := { cls := .type "tuple", data := .seq #[.none] }
noncomputable def fragAt (h : Heap) : Frag := [2, 3, 15, 17, 18, 20, 21, 22, 23, 25, 26, 28, 29, 37, 38, 40, 41, 43, 44, 45, 47, 48, 49, 50, 51, 54, 61, 62, 63, 64, 74, 75, 77, 78, 80, 81, 82, 84, 85, 87, 88, 89, 91, 92, 94, 95, 96, 99, 100, 101, 103, 104, 106, 107, 108, 110, 111, 113, 114, 115, 117, 118, 120, 121, 122, 124, 125, 127, 128, 129, 131, 132, 134, 135, 136, 138, 139, 141, 142, 143, 144, 145, 146, 147, 150, 152, 153, 155, 156, 157, 159, 160, 162, 163, 164, 166, 167, 169, 170, 171, 173, 174, 176, 177, 178, 181, 182, 183, 186, 187, 188, 191, 192, 193, 195, 196, 198, 199, 200, 203, 204, 205, 207, 208, 210, 211, 212, 214, 215, 217, 218, 219, 222, 223, 224, 226, 227, 229, 230].filterMap fun a => (h.get? a).map fun o => (a, o)
theorem lookup_fm {h : Heap} {a : Addr} {o : Obj} : ∀ (l : List Nat), (l.filterMap fun a => (h.get? a).map fun o => (a, o)).lookup a = some o → h.get? a = some o
  | [], e => by cases e
  | b :: l, e => by
    rw [List.filterMap_cons] at e
    cases q : h.get? b with
    | none => rw [q] at e; exact lookup_fm l e
    | some p =>
      rw [q] at e
      simp only [Option.map_some, List.lookup_cons] at e
      by_cases z : a = b
      · subst z
        simp only [beq_self_eq_true] at e
        rw [q]; exact e
      · rw [beq_eq_false_iff_ne.mpr z] at e; exact lookup_fm l e
theorem fragAt_in (h : Heap) : (fragAt h).In h := fun _ _ e => lookup_fm _ e
noncomputable abbrev Seen : Type := List Bool × List (Option (Option Value)) × List (Option Obj) × List (Option (Option Value)) × List (Option Value)
noncomputable def obsK (K : Frag) : Seen := ([dictAttrOk K 145 "_node2info", dictAttrOk K 145 "_ready_nodes", dictAttrOk K 145 "_npassedout", dictAttrOk K 145 "_nfinished", slotAttrOk K 48 "node" 0, slotAttrOk K 48 "npredecessors" 1, slotAttrOk K 48 "successors" 2, makesIn K 48, makesIn K 145, methOk K 145 "_get_nodeinfo" 88, methOk K 145 "_find_cycle" 135, methOk K 145 "prepare" 100, methOk K 145 "get_ready" 107, methOk K 145 "is_active" 114, boundOk K 145 "add" 95, boundOk K 145 "done" 128, keepIn K (.ref 88), keepIn K (.ref 135), keepIn K (.ref 100), keepIn K (.ref 107), keepIn K (.ref 114), keepIn K (.ref 29), keepIn K (.ref 156), keepIn K (.ref 163), keepIn K (.ref 170), keepIn K (.ref 177), keepIn K (.ref 182), keepIn K (.ref 187), keepIn K (.ref 192), keepIn K (.ref 199), keepIn K (.ref 204), keepIn K (.ref 211), keepIn K (.ref 218), keepIn K (.ref 223), keepIn K (.ref 48), keepIn K (.ref 63), keepIn K (.ref 145), codeIn K (ex_pretty_flags).1.code (ex_pretty_flags).1.qualname, codeIn K (ex_ni_init).1.code (ex_ni_init).1.qualname, codeIn K (ex_ts_init).1.code (ex_ts_init).1.qualname, codeIn K (ex_get_info).1.code (ex_get_info).1.qualname, codeIn K (ex_add).1.code (ex_add).1.qualname, codeIn K (ex_prepare).1.code (ex_prepare).1.qualname, codeIn K (ex_get_ready).1.code (ex_get_ready).1.qualname, codeIn K (ex_is_active).1.code (ex_is_active).1.qualname, codeIn K (ex_done).1.code (ex_done).1.qualname, codeIn K (ex_find_cycle).1.code (ex_find_cycle).1.qualname, codeIn K (ex_heappush).1.code (ex_heappush).1.qualname, codeIn K (ex_heappop).1.code (ex_heappop).1.qualname, codeIn K (ex__siftdown).1.code (ex__siftdown).1.qualname, codeIn K (ex__siftup).1.code (ex__siftup).1.qualname, codeIn K (ex__law_ups).1.code (ex__law_ups).1.qualname, codeIn K (ex__law_falls).1.code (ex__law_falls).1.qualname, codeIn K (ex__law_stands).1.code (ex__law_stands).1.qualname, codeIn K (ex__law_word).1.code (ex__law_word).1.qualname, codeIn K (ex__law_words).1.code (ex__law_words).1.qualname, codeIn K (ex__law_told).1.code (ex__law_told).1.qualname, codeIn K (ex__law_least).1.code (ex__law_least).1.qualname, codeIn K (ex__law_played).1.code (ex__law_played).1.qualname, codeIn K (ex_law).1.code (ex_law).1.qualname], [nsIn K mainGlobals "COMPILER_FLAG_NAMES", nsIn K mainGlobals "pretty_flags", nsIn K mainGlobals "heappush", nsIn K mainGlobals "heappop", nsIn K mainGlobals "_siftdown", nsIn K mainGlobals "_siftup", nsIn K mainGlobals "_law_ups", nsIn K mainGlobals "_law_falls", nsIn K mainGlobals "_law_stands", nsIn K mainGlobals "_law_word", nsIn K mainGlobals "_law_words", nsIn K mainGlobals "_law_told", nsIn K mainGlobals "_law_least", nsIn K mainGlobals "_law_played", nsIn K mainGlobals "_NodeInfo", nsIn K mainGlobals "CycleError", nsIn K mainGlobals "TopologicalSorter", nsIn K mainGlobals "_NODE_OUT", nsIn K mainGlobals "_NODE_DONE", nsIn K mainGlobals "law", nsIn K mainGlobals "range", nsIn K mainGlobals "len", nsIn K mainGlobals "hex", nsIn K mainGlobals "sum", nsIn K mainGlobals "min", nsIn K mainGlobals "max", nsIn K mainGlobals "sorted", nsIn K mainGlobals "iter", nsIn K mainGlobals "tuple", nsIn K mainGlobals "list", nsIn K mainGlobals "set", nsIn K mainGlobals "bool", nsIn K mainGlobals "StopIteration"], [K.lookup 29, K.lookup 44, K.lookup 81, K.lookup 88, K.lookup 95, K.lookup 100, K.lookup 107, K.lookup 114, K.lookup 128, K.lookup 135, K.lookup 156, K.lookup 163, K.lookup 170, K.lookup 177, K.lookup 182, K.lookup 187, K.lookup 192, K.lookup 199, K.lookup 204, K.lookup 211, K.lookup 218, K.lookup 223, K.lookup 230, K.lookup 22, K.lookup 74], [findIn K (.ref 48) "__init__", findIn K (.ref 145) "__init__"], [typeIn K (.ref 44), typeIn K (.ref 81)])
noncomputable def valK : Seen := ([true, true, true, true, true, true, true, true, true, true, true, true, true, true, true, true, true, true, true, true, true, true, true, true, true, true, true, true, true, true, true, true, true, true, true, true, true, true, true, true, true, true, true, true, true, true, true, true, true, true, true, true, true, true, true, true, true, true, true, true], [some (some (.ref 22)), some (some (.ref 29)), some (some (.ref 156)), some (some (.ref 163)), some (some (.ref 170)), some (some (.ref 177)), some (some (.ref 182)), some (some (.ref 187)), some (some (.ref 192)), some (some (.ref 199)), some (some (.ref 204)), some (some (.ref 211)), some (some (.ref 218)), some (some (.ref 223)), some (some (.ref 48)), some (some (.ref 63)), some (some (.ref 145)), some (some (.int (-1) 240)), some (some (.int (-2) 243)), some (some (.ref 230)), some none, some none, some none, some none, some none, some none, some none, some none, some none, some none, some none, some none, some none], [some { cls := .type "function", data := .func (ex_pretty_flags).1 }, some { cls := .type "function", data := .func (ex_ni_init).1 }, some { cls := .type "function", data := .func (ex_ts_init).1 }, some { cls := .type "function", data := .func (ex_get_info).1 }, some { cls := .type "function", data := .func (ex_add).1 }, some { cls := .type "function", data := .func (ex_prepare).1 }, some { cls := .type "function", data := .func (ex_get_ready).1 }, some { cls := .type "function", data := .func (ex_is_active).1 }, some { cls := .type "function", data := .func (ex_done).1 }, some { cls := .type "function", data := .func (ex_find_cycle).1 }, some { cls := .type "function", data := .func (ex_heappush).1 }, some { cls := .type "function", data := .func (ex_heappop).1 }, some { cls := .type "function", data := .func (ex__siftdown).1 }, some { cls := .type "function", data := .func (ex__siftup).1 }, some { cls := .type "function", data := .func (ex__law_ups).1 }, some { cls := .type "function", data := .func (ex__law_falls).1 }, some { cls := .type "function", data := .func (ex__law_stands).1 }, some { cls := .type "function", data := .func (ex__law_word).1 }, some { cls := .type "function", data := .func (ex__law_words).1 }, some { cls := .type "function", data := .func (ex__law_told).1 }, some { cls := .type "function", data := .func (ex__law_least).1 }, some { cls := .type "function", data := .func (ex__law_played).1 }, some { cls := .type "function", data := .func (ex_law).1 }, some cfnObj, some dflObj], [some (some (.ref 44)), some (some (.ref 81))], [some (.type "function"), some (.type "function")])
noncomputable def hook : Hook := ⟨Seen, fun s => obsK (fragAt s.heap), fun _ => valK, fun _ h => ∃ K : Frag, K.In h ∧ obsK K = valK, fun _ s e => ⟨_, fragAt_in s.heap, e⟩, fun _ _ _ ⟨K, x, e⟩ k => ⟨K, Frag.In.keeps x k, e⟩⟩
noncomputable abbrev rowW : RowW := (PySem.Challenge.rw_oy0274_01).row.toRowW
noncomputable def view : Program := { PySem.Challenge.pw_oy0274_01 with main := { (PySem.Challenge.pw_oy0274_01).main with body := [stAt 0, stAt 2, stAt 3, stAt 5, stAt 6, stAt 7, stAt 8, stAt 9, stAt 11, stAt 12, stAt 13, stAt 14, stAt 16, stAt 17, stAt 18, stAt 19, stAt 20, stAt 21, stAt 22, stAt 23, stAt 24] } }
noncomputable abbrev looseN : List Str := [Str.ofString "COMPILER_FLAG_NAMES", Str.ofString "_NodeInfo"]
theorem two_rows {α β γ : Type} {o : Option α} {f : α → β} {g : α → γ} {x : β} {y : γ} (h1 : o.map f = some x) (h2 : o.map g = some y) : o.map (fun s => (f s, g s)) = some (x, y) := by
  cases o with
  | none => cases h1
  | some v => exact congrArg some (Prod.ext (Option.some.inj h1) (Option.some.inj h2))
theorem left_false (w : World) : (fencedOpening treeTable PySem.Challenge.pw_oy0274_01 w 3382).map (fun s₀ => (topFrom treeTable PySem.Challenge.pw_oy0274_01 (w.withFollow "special-get-raises" false) 3382 s₀).map (fun s => (openSeen view looseN (importedModules rowW.prog.main.body) (fun s => xlAt view [] s && recOk (RowW.records rowW) s) true s, hook.obs s))) = some (some (openGood view looseN, hook.val (w.withFollow "special-get-raises" false))) := by kernel_rfl
theorem left_true (w : World) : (fencedOpening treeTable PySem.Challenge.pw_oy0274_01 w 3382).map (fun s₀ => (topFrom treeTable PySem.Challenge.pw_oy0274_01 (w.withFollow "special-get-raises" true) 3382 s₀).map (fun s => (openSeen view looseN (importedModules rowW.prog.main.body) (fun s => xlAt view [] s && recOk (RowW.records rowW) s) true s, hook.obs s))) = some (some (openGood view looseN, hook.val (w.withFollow "special-get-raises" true))) := by kernel_rfl
theorem left : LeftO rowW.prog view looseN (fun s => xlAt view [] s && recOk (RowW.records rowW) s) hook.obs hook.val 3382 := LeftO.of_split "special-get-raises" (fun w => two_rows (left_false w) (left_true w))
theorem head {d : DefRec} (hdef : defOf view (PySem.Challenge.rw_oy0274_01).row.name = some (d, [])) (hp : (PySem.Challenge.rw_oy0274_01).row.prog.theDef (PySem.Challenge.rw_oy0274_01).row.name = some (d.params, d.body, d.scope)) (hk : kwWritten? d.params.kwonlyargs d.params.kw_defaults = some []) (walk : WalkO view looseN (XL view []) hook.says rowW d [] fun f vs => call f vs) : PySem.Challenge.rw_oy0274_01.Holds := by
  refine holds_law (by kernel_rfl) fun said => ?_
  refine holds_open (q := view) (loose := looseN) (Xt := fun s => xlAt view [] s && recOk (RowW.records rowW) s) (XP := XL view []) (Yf := hook.obs) (Ya := hook.val) (YP := hook.says) (N := 3382) left hook.of hook.keeps (fun s e => xl_of s (Bool.and_eq_true_iff.mp e).1) XL.keeps hdef hp hk (fun s e => recFacts_of (Bool.and_eq_true_iff.mp e).2) (by rfl) (by first | assumption | decide +kernel) (by decide +kernel) ⟨rfl, rfl, rfl, rfl, rfl, by decide +kernel⟩ ?hw walk
  case hw => w_witness2
set_option genInjectivity false in
structure Gn where
  prog : Program
  w : World
  h₀ : Heap
  os₀ : OsState
  mg : Str → Option Value
  mb : Str → Option Value
  K : Frag
  X : K.In h₀
  e : obsK K = valK
  g : h₀.Ns mainGlobals mg
  b : h₀.Ns builtinsNs mb
  nolimit : h₀.NoLimit
  builtins : ∀ x : Str, x ≠ "__name__" → mb x = bootBuiltins x
  mods : sysModules < h₀.objs.size
noncomputable abbrev Gn.G (g : Gn) : Gnd := ⟨g.prog, g.w, g.h₀, g.os₀, g.K, g.mg, g.mb, g.X, g.g, g.b, g.nolimit, g.builtins, g.mods⟩
theorem st_n2i (g : Gn) : dictAttrOk g.G.K 145 "_node2info" = true := Option.some.inj (congrArg (fun y : Seen => y.1[0]?) g.e)
theorem st_rdy (g : Gn) : dictAttrOk g.G.K 145 "_ready_nodes" = true := Option.some.inj (congrArg (fun y : Seen => y.1[1]?) g.e)
theorem st_npo (g : Gn) : dictAttrOk g.G.K 145 "_npassedout" = true := Option.some.inj (congrArg (fun y : Seen => y.1[2]?) g.e)
theorem st_nfi (g : Gn) : dictAttrOk g.G.K 145 "_nfinished" = true := Option.some.inj (congrArg (fun y : Seen => y.1[3]?) g.e)
theorem st_node (g : Gn) : slotAttrOk g.G.K 48 "node" 0 = true := Option.some.inj (congrArg (fun y : Seen => y.1[4]?) g.e)
theorem st_npred (g : Gn) : slotAttrOk g.G.K 48 "npredecessors" 1 = true := Option.some.inj (congrArg (fun y : Seen => y.1[5]?) g.e)
theorem st_succ (g : Gn) : slotAttrOk g.G.K 48 "successors" 2 = true := Option.some.inj (congrArg (fun y : Seen => y.1[6]?) g.e)
theorem st_make_ni (g : Gn) : makesIn g.G.K 48 = true := Option.some.inj (congrArg (fun y : Seen => y.1[7]?) g.e)
theorem st_make_ts (g : Gn) : makesIn g.G.K 145 = true := Option.some.inj (congrArg (fun y : Seen => y.1[8]?) g.e)
theorem st_m_info (g : Gn) : methOk g.G.K 145 "_get_nodeinfo" 88 = true := Option.some.inj (congrArg (fun y : Seen => y.1[9]?) g.e)
theorem st_m_cyc (g : Gn) : methOk g.G.K 145 "_find_cycle" 135 = true := Option.some.inj (congrArg (fun y : Seen => y.1[10]?) g.e)
theorem st_m_prep (g : Gn) : methOk g.G.K 145 "prepare" 100 = true := Option.some.inj (congrArg (fun y : Seen => y.1[11]?) g.e)
theorem st_m_ready (g : Gn) : methOk g.G.K 145 "get_ready" 107 = true := Option.some.inj (congrArg (fun y : Seen => y.1[12]?) g.e)
theorem st_m_act (g : Gn) : methOk g.G.K 145 "is_active" 114 = true := Option.some.inj (congrArg (fun y : Seen => y.1[13]?) g.e)
theorem st_b_add (g : Gn) : boundOk g.G.K 145 "add" 95 = true := Option.some.inj (congrArg (fun y : Seen => y.1[14]?) g.e)
theorem st_b_done (g : Gn) : boundOk g.G.K 145 "done" 128 = true := Option.some.inj (congrArg (fun y : Seen => y.1[15]?) g.e)
theorem st_k_get_info (g : Gn) : keepIn g.G.K (.ref 88) = true := Option.some.inj (congrArg (fun y : Seen => y.1[16]?) g.e)
theorem st_k_find_cycle (g : Gn) : keepIn g.G.K (.ref 135) = true := Option.some.inj (congrArg (fun y : Seen => y.1[17]?) g.e)
theorem st_k_prepare (g : Gn) : keepIn g.G.K (.ref 100) = true := Option.some.inj (congrArg (fun y : Seen => y.1[18]?) g.e)
theorem st_k_get_ready (g : Gn) : keepIn g.G.K (.ref 107) = true := Option.some.inj (congrArg (fun y : Seen => y.1[19]?) g.e)
theorem st_k_is_active (g : Gn) : keepIn g.G.K (.ref 114) = true := Option.some.inj (congrArg (fun y : Seen => y.1[20]?) g.e)
theorem kk_pretty_flags (g : Gn) : keepIn g.G.K (.ref 29) = true := Option.some.inj (congrArg (fun y : Seen => y.1[21]?) g.e)
theorem kk_heappush (g : Gn) : keepIn g.G.K (.ref 156) = true := Option.some.inj (congrArg (fun y : Seen => y.1[22]?) g.e)
theorem kk_heappop (g : Gn) : keepIn g.G.K (.ref 163) = true := Option.some.inj (congrArg (fun y : Seen => y.1[23]?) g.e)
theorem kk_siftdown (g : Gn) : keepIn g.G.K (.ref 170) = true := Option.some.inj (congrArg (fun y : Seen => y.1[24]?) g.e)
theorem kk_siftup (g : Gn) : keepIn g.G.K (.ref 177) = true := Option.some.inj (congrArg (fun y : Seen => y.1[25]?) g.e)
theorem kk_law_ups (g : Gn) : keepIn g.G.K (.ref 182) = true := Option.some.inj (congrArg (fun y : Seen => y.1[26]?) g.e)
theorem kk_law_falls (g : Gn) : keepIn g.G.K (.ref 187) = true := Option.some.inj (congrArg (fun y : Seen => y.1[27]?) g.e)
theorem kk_law_stands (g : Gn) : keepIn g.G.K (.ref 192) = true := Option.some.inj (congrArg (fun y : Seen => y.1[28]?) g.e)
theorem kk_law_word (g : Gn) : keepIn g.G.K (.ref 199) = true := Option.some.inj (congrArg (fun y : Seen => y.1[29]?) g.e)
theorem kk_law_words (g : Gn) : keepIn g.G.K (.ref 204) = true := Option.some.inj (congrArg (fun y : Seen => y.1[30]?) g.e)
theorem kk_law_told (g : Gn) : keepIn g.G.K (.ref 211) = true := Option.some.inj (congrArg (fun y : Seen => y.1[31]?) g.e)
theorem kk_law_least (g : Gn) : keepIn g.G.K (.ref 218) = true := Option.some.inj (congrArg (fun y : Seen => y.1[32]?) g.e)
theorem kk_law_played (g : Gn) : keepIn g.G.K (.ref 223) = true := Option.some.inj (congrArg (fun y : Seen => y.1[33]?) g.e)
theorem kk_NodeInfo (g : Gn) : keepIn g.G.K (.ref 48) = true := Option.some.inj (congrArg (fun y : Seen => y.1[34]?) g.e)
theorem kk_TopologicalSorter (g : Gn) : keepIn g.G.K (.ref 145) = true := Option.some.inj (congrArg (fun y : Seen => y.1[36]?) g.e)
theorem cd_pretty_flags (g : Gn) : codeIn g.G.K (ex_pretty_flags).1.code (ex_pretty_flags).1.qualname = true := Option.some.inj (congrArg (fun y : Seen => y.1[37]?) g.e)
theorem cd_ni_init (g : Gn) : codeIn g.G.K (ex_ni_init).1.code (ex_ni_init).1.qualname = true := Option.some.inj (congrArg (fun y : Seen => y.1[38]?) g.e)
theorem cd_ts_init (g : Gn) : codeIn g.G.K (ex_ts_init).1.code (ex_ts_init).1.qualname = true := Option.some.inj (congrArg (fun y : Seen => y.1[39]?) g.e)
theorem cd_get_info (g : Gn) : codeIn g.G.K (ex_get_info).1.code (ex_get_info).1.qualname = true := Option.some.inj (congrArg (fun y : Seen => y.1[40]?) g.e)
theorem cd_add (g : Gn) : codeIn g.G.K (ex_add).1.code (ex_add).1.qualname = true := Option.some.inj (congrArg (fun y : Seen => y.1[41]?) g.e)
theorem cd_prepare (g : Gn) : codeIn g.G.K (ex_prepare).1.code (ex_prepare).1.qualname = true := Option.some.inj (congrArg (fun y : Seen => y.1[42]?) g.e)
theorem cd_get_ready (g : Gn) : codeIn g.G.K (ex_get_ready).1.code (ex_get_ready).1.qualname = true := Option.some.inj (congrArg (fun y : Seen => y.1[43]?) g.e)
theorem cd_is_active (g : Gn) : codeIn g.G.K (ex_is_active).1.code (ex_is_active).1.qualname = true := Option.some.inj (congrArg (fun y : Seen => y.1[44]?) g.e)
theorem cd_done (g : Gn) : codeIn g.G.K (ex_done).1.code (ex_done).1.qualname = true := Option.some.inj (congrArg (fun y : Seen => y.1[45]?) g.e)
theorem cd_find_cycle (g : Gn) : codeIn g.G.K (ex_find_cycle).1.code (ex_find_cycle).1.qualname = true := Option.some.inj (congrArg (fun y : Seen => y.1[46]?) g.e)
theorem cd_heappush (g : Gn) : codeIn g.G.K (ex_heappush).1.code (ex_heappush).1.qualname = true := Option.some.inj (congrArg (fun y : Seen => y.1[47]?) g.e)
theorem cd_heappop (g : Gn) : codeIn g.G.K (ex_heappop).1.code (ex_heappop).1.qualname = true := Option.some.inj (congrArg (fun y : Seen => y.1[48]?) g.e)
theorem cd__siftdown (g : Gn) : codeIn g.G.K (ex__siftdown).1.code (ex__siftdown).1.qualname = true := Option.some.inj (congrArg (fun y : Seen => y.1[49]?) g.e)
theorem cd__siftup (g : Gn) : codeIn g.G.K (ex__siftup).1.code (ex__siftup).1.qualname = true := Option.some.inj (congrArg (fun y : Seen => y.1[50]?) g.e)
theorem cd__law_ups (g : Gn) : codeIn g.G.K (ex__law_ups).1.code (ex__law_ups).1.qualname = true := Option.some.inj (congrArg (fun y : Seen => y.1[51]?) g.e)
theorem cd__law_falls (g : Gn) : codeIn g.G.K (ex__law_falls).1.code (ex__law_falls).1.qualname = true := Option.some.inj (congrArg (fun y : Seen => y.1[52]?) g.e)
theorem cd__law_stands (g : Gn) : codeIn g.G.K (ex__law_stands).1.code (ex__law_stands).1.qualname = true := Option.some.inj (congrArg (fun y : Seen => y.1[53]?) g.e)
theorem cd__law_word (g : Gn) : codeIn g.G.K (ex__law_word).1.code (ex__law_word).1.qualname = true := Option.some.inj (congrArg (fun y : Seen => y.1[54]?) g.e)
theorem cd__law_words (g : Gn) : codeIn g.G.K (ex__law_words).1.code (ex__law_words).1.qualname = true := Option.some.inj (congrArg (fun y : Seen => y.1[55]?) g.e)
theorem cd__law_told (g : Gn) : codeIn g.G.K (ex__law_told).1.code (ex__law_told).1.qualname = true := Option.some.inj (congrArg (fun y : Seen => y.1[56]?) g.e)
theorem cd__law_least (g : Gn) : codeIn g.G.K (ex__law_least).1.code (ex__law_least).1.qualname = true := Option.some.inj (congrArg (fun y : Seen => y.1[57]?) g.e)
theorem cd__law_played (g : Gn) : codeIn g.G.K (ex__law_played).1.code (ex__law_played).1.qualname = true := Option.some.inj (congrArg (fun y : Seen => y.1[58]?) g.e)
theorem cd_law (g : Gn) : codeIn g.G.K (ex_law).1.code (ex_law).1.qualname = true := Option.some.inj (congrArg (fun y : Seen => y.1[59]?) g.e)
theorem ns_COMPILER_FLAG_NAMES (g : Gn) : nsIn g.G.K mainGlobals "COMPILER_FLAG_NAMES" = some (some (.ref 22)) := Option.some.inj (congrArg (fun y : Seen => y.2.1[0]?) g.e)
theorem ns_pretty_flags (g : Gn) : nsIn g.G.K mainGlobals "pretty_flags" = some (some (.ref 29)) := Option.some.inj (congrArg (fun y : Seen => y.2.1[1]?) g.e)
theorem ns_heappush (g : Gn) : nsIn g.G.K mainGlobals "heappush" = some (some (.ref 156)) := Option.some.inj (congrArg (fun y : Seen => y.2.1[2]?) g.e)
theorem ns_heappop (g : Gn) : nsIn g.G.K mainGlobals "heappop" = some (some (.ref 163)) := Option.some.inj (congrArg (fun y : Seen => y.2.1[3]?) g.e)
theorem ns_siftdown (g : Gn) : nsIn g.G.K mainGlobals "_siftdown" = some (some (.ref 170)) := Option.some.inj (congrArg (fun y : Seen => y.2.1[4]?) g.e)
theorem ns_siftup (g : Gn) : nsIn g.G.K mainGlobals "_siftup" = some (some (.ref 177)) := Option.some.inj (congrArg (fun y : Seen => y.2.1[5]?) g.e)
theorem ns_law_ups (g : Gn) : nsIn g.G.K mainGlobals "_law_ups" = some (some (.ref 182)) := Option.some.inj (congrArg (fun y : Seen => y.2.1[6]?) g.e)
theorem ns_law_falls (g : Gn) : nsIn g.G.K mainGlobals "_law_falls" = some (some (.ref 187)) := Option.some.inj (congrArg (fun y : Seen => y.2.1[7]?) g.e)
theorem ns_law_stands (g : Gn) : nsIn g.G.K mainGlobals "_law_stands" = some (some (.ref 192)) := Option.some.inj (congrArg (fun y : Seen => y.2.1[8]?) g.e)
theorem ns_law_word (g : Gn) : nsIn g.G.K mainGlobals "_law_word" = some (some (.ref 199)) := Option.some.inj (congrArg (fun y : Seen => y.2.1[9]?) g.e)
theorem ns_law_words (g : Gn) : nsIn g.G.K mainGlobals "_law_words" = some (some (.ref 204)) := Option.some.inj (congrArg (fun y : Seen => y.2.1[10]?) g.e)
theorem ns_law_told (g : Gn) : nsIn g.G.K mainGlobals "_law_told" = some (some (.ref 211)) := Option.some.inj (congrArg (fun y : Seen => y.2.1[11]?) g.e)
theorem ns_law_least (g : Gn) : nsIn g.G.K mainGlobals "_law_least" = some (some (.ref 218)) := Option.some.inj (congrArg (fun y : Seen => y.2.1[12]?) g.e)
theorem ns_law_played (g : Gn) : nsIn g.G.K mainGlobals "_law_played" = some (some (.ref 223)) := Option.some.inj (congrArg (fun y : Seen => y.2.1[13]?) g.e)
theorem ns_NodeInfo (g : Gn) : nsIn g.G.K mainGlobals "_NodeInfo" = some (some (.ref 48)) := Option.some.inj (congrArg (fun y : Seen => y.2.1[14]?) g.e)
theorem ns_TopologicalSorter (g : Gn) : nsIn g.G.K mainGlobals "TopologicalSorter" = some (some (.ref 145)) := Option.some.inj (congrArg (fun y : Seen => y.2.1[16]?) g.e)
theorem ns_NODE_OUT (g : Gn) : nsIn g.G.K mainGlobals "_NODE_OUT" = some (some (.int (-1) 240)) := Option.some.inj (congrArg (fun y : Seen => y.2.1[17]?) g.e)
theorem ns_NODE_DONE (g : Gn) : nsIn g.G.K mainGlobals "_NODE_DONE" = some (some (.int (-2) 243)) := Option.some.inj (congrArg (fun y : Seen => y.2.1[18]?) g.e)
theorem ns_range (g : Gn) : nsIn g.G.K mainGlobals "range" = some none := Option.some.inj (congrArg (fun y : Seen => y.2.1[20]?) g.e)
theorem ns_len (g : Gn) : nsIn g.G.K mainGlobals "len" = some none := Option.some.inj (congrArg (fun y : Seen => y.2.1[21]?) g.e)
theorem ns_hex (g : Gn) : nsIn g.G.K mainGlobals "hex" = some none := Option.some.inj (congrArg (fun y : Seen => y.2.1[22]?) g.e)
theorem ns_sum (g : Gn) : nsIn g.G.K mainGlobals "sum" = some none := Option.some.inj (congrArg (fun y : Seen => y.2.1[23]?) g.e)
theorem ns_iter (g : Gn) : nsIn g.G.K mainGlobals "iter" = some none := Option.some.inj (congrArg (fun y : Seen => y.2.1[27]?) g.e)
theorem ns_tuple (g : Gn) : nsIn g.G.K mainGlobals "tuple" = some none := Option.some.inj (congrArg (fun y : Seen => y.2.1[28]?) g.e)
theorem ns_set (g : Gn) : nsIn g.G.K mainGlobals "set" = some none := Option.some.inj (congrArg (fun y : Seen => y.2.1[30]?) g.e)
theorem ns_bool (g : Gn) : nsIn g.G.K mainGlobals "bool" = some none := Option.some.inj (congrArg (fun y : Seen => y.2.1[31]?) g.e)
theorem ns_StopIteration (g : Gn) : nsIn g.G.K mainGlobals "StopIteration" = some none := Option.some.inj (congrArg (fun y : Seen => y.2.1[32]?) g.e)
theorem lk_pretty_flags (g : Gn) : g.G.K.lookup 29 = some { cls := .type "function", data := .func (ex_pretty_flags).1 } := Option.some.inj (congrArg (fun y : Seen => y.2.2.1[0]?) g.e)
theorem lk_ni_init (g : Gn) : g.G.K.lookup 44 = some { cls := .type "function", data := .func (ex_ni_init).1 } := Option.some.inj (congrArg (fun y : Seen => y.2.2.1[1]?) g.e)
theorem lk_ts_init (g : Gn) : g.G.K.lookup 81 = some { cls := .type "function", data := .func (ex_ts_init).1 } := Option.some.inj (congrArg (fun y : Seen => y.2.2.1[2]?) g.e)
theorem lk_get_info (g : Gn) : g.G.K.lookup 88 = some { cls := .type "function", data := .func (ex_get_info).1 } := Option.some.inj (congrArg (fun y : Seen => y.2.2.1[3]?) g.e)
theorem lk_add (g : Gn) : g.G.K.lookup 95 = some { cls := .type "function", data := .func (ex_add).1 } := Option.some.inj (congrArg (fun y : Seen => y.2.2.1[4]?) g.e)
theorem lk_prepare (g : Gn) : g.G.K.lookup 100 = some { cls := .type "function", data := .func (ex_prepare).1 } := Option.some.inj (congrArg (fun y : Seen => y.2.2.1[5]?) g.e)
theorem lk_get_ready (g : Gn) : g.G.K.lookup 107 = some { cls := .type "function", data := .func (ex_get_ready).1 } := Option.some.inj (congrArg (fun y : Seen => y.2.2.1[6]?) g.e)
theorem lk_is_active (g : Gn) : g.G.K.lookup 114 = some { cls := .type "function", data := .func (ex_is_active).1 } := Option.some.inj (congrArg (fun y : Seen => y.2.2.1[7]?) g.e)
theorem lk_done (g : Gn) : g.G.K.lookup 128 = some { cls := .type "function", data := .func (ex_done).1 } := Option.some.inj (congrArg (fun y : Seen => y.2.2.1[8]?) g.e)
theorem lk_find_cycle (g : Gn) : g.G.K.lookup 135 = some { cls := .type "function", data := .func (ex_find_cycle).1 } := Option.some.inj (congrArg (fun y : Seen => y.2.2.1[9]?) g.e)
theorem lk_heappush (g : Gn) : g.G.K.lookup 156 = some { cls := .type "function", data := .func (ex_heappush).1 } := Option.some.inj (congrArg (fun y : Seen => y.2.2.1[10]?) g.e)
theorem lk_heappop (g : Gn) : g.G.K.lookup 163 = some { cls := .type "function", data := .func (ex_heappop).1 } := Option.some.inj (congrArg (fun y : Seen => y.2.2.1[11]?) g.e)
theorem lk__siftdown (g : Gn) : g.G.K.lookup 170 = some { cls := .type "function", data := .func (ex__siftdown).1 } := Option.some.inj (congrArg (fun y : Seen => y.2.2.1[12]?) g.e)
theorem lk__siftup (g : Gn) : g.G.K.lookup 177 = some { cls := .type "function", data := .func (ex__siftup).1 } := Option.some.inj (congrArg (fun y : Seen => y.2.2.1[13]?) g.e)
theorem lk__law_ups (g : Gn) : g.G.K.lookup 182 = some { cls := .type "function", data := .func (ex__law_ups).1 } := Option.some.inj (congrArg (fun y : Seen => y.2.2.1[14]?) g.e)
theorem lk__law_falls (g : Gn) : g.G.K.lookup 187 = some { cls := .type "function", data := .func (ex__law_falls).1 } := Option.some.inj (congrArg (fun y : Seen => y.2.2.1[15]?) g.e)
theorem lk__law_stands (g : Gn) : g.G.K.lookup 192 = some { cls := .type "function", data := .func (ex__law_stands).1 } := Option.some.inj (congrArg (fun y : Seen => y.2.2.1[16]?) g.e)
theorem lk__law_word (g : Gn) : g.G.K.lookup 199 = some { cls := .type "function", data := .func (ex__law_word).1 } := Option.some.inj (congrArg (fun y : Seen => y.2.2.1[17]?) g.e)
theorem lk__law_words (g : Gn) : g.G.K.lookup 204 = some { cls := .type "function", data := .func (ex__law_words).1 } := Option.some.inj (congrArg (fun y : Seen => y.2.2.1[18]?) g.e)
theorem lk__law_told (g : Gn) : g.G.K.lookup 211 = some { cls := .type "function", data := .func (ex__law_told).1 } := Option.some.inj (congrArg (fun y : Seen => y.2.2.1[19]?) g.e)
theorem lk__law_least (g : Gn) : g.G.K.lookup 218 = some { cls := .type "function", data := .func (ex__law_least).1 } := Option.some.inj (congrArg (fun y : Seen => y.2.2.1[20]?) g.e)
theorem lk__law_played (g : Gn) : g.G.K.lookup 223 = some { cls := .type "function", data := .func (ex__law_played).1 } := Option.some.inj (congrArg (fun y : Seen => y.2.2.1[21]?) g.e)
theorem lk_law (g : Gn) : g.G.K.lookup 230 = some { cls := .type "function", data := .func (ex_law).1 } := Option.some.inj (congrArg (fun y : Seen => y.2.2.1[22]?) g.e)
theorem lk_cfn (g : Gn) : g.G.K.lookup 22 = some cfnObj := Option.some.inj (congrArg (fun y : Seen => y.2.2.1[23]?) g.e)
theorem lk_dfl (g : Gn) : g.G.K.lookup 74 = some dflObj := Option.some.inj (congrArg (fun y : Seen => y.2.2.1[24]?) g.e)
theorem st_init_ni (g : Gn) : findIn g.G.K (.ref 48) "__init__" = some (some (.ref 44)) := Option.some.inj (congrArg (fun y : Seen => y.2.2.2.1[0]?) g.e)
theorem st_init_ts (g : Gn) : findIn g.G.K (.ref 145) "__init__" = some (some (.ref 81)) := Option.some.inj (congrArg (fun y : Seen => y.2.2.2.1[1]?) g.e)
theorem st_fn_ni_init (g : Gn) : typeIn g.G.K (.ref 44) = some (.type "function") := Option.some.inj (congrArg (fun y : Seen => y.2.2.2.2[0]?) g.e)
theorem st_fn_ts_init (g : Gn) : typeIn g.G.K (.ref 81) = some (.type "function") := Option.some.inj (congrArg (fun y : Seen => y.2.2.2.2[1]?) g.e)
section
variable {g : Gn} {A : Around} {F : Fd} {pos : Pos}
theorem gb_range (hl : F.env.kindOf "range" = some .globalImplicit) (hk : F.env.scope.kind = .function) (hg : F.env.globals = mainGlobals) (hb : F.env.builtins = builtinsNs) : RV g.G A F (eval (.Name "range" pos) F.env) (pureM (.type "range")) :=
  D_Builtin (v := .type "range") (ns_range g) (by kernel_rfl) rfl (by decide) hl hk hg hb (by decide)
theorem gb_len (hl : F.env.kindOf "len" = some .globalImplicit) (hk : F.env.scope.kind = .function) (hg : F.env.globals = mainGlobals) (hb : F.env.builtins = builtinsNs) : RV g.G A F (eval (.Name "len" pos) F.env) (pureM (.builtin "len")) :=
  D_Builtin (v := .builtin "len") (ns_len g) (by kernel_rfl) rfl (by decide) hl hk hg hb (by decide)
theorem gb_hex (hl : F.env.kindOf "hex" = some .globalImplicit) (hk : F.env.scope.kind = .function) (hg : F.env.globals = mainGlobals) (hb : F.env.builtins = builtinsNs) : RV g.G A F (eval (.Name "hex" pos) F.env) (pureM (.builtin "hex")) :=
  D_Builtin (v := .builtin "hex") (ns_hex g) (by kernel_rfl) rfl (by decide) hl hk hg hb (by decide)
theorem gb_sum (hl : F.env.kindOf "sum" = some .globalImplicit) (hk : F.env.scope.kind = .function) (hg : F.env.globals = mainGlobals) (hb : F.env.builtins = builtinsNs) : RV g.G A F (eval (.Name "sum" pos) F.env) (pureM (.builtin "sum")) :=
  D_Builtin (v := .builtin "sum") (ns_sum g) (by kernel_rfl) rfl (by decide) hl hk hg hb (by decide)
theorem gb_iter (hl : F.env.kindOf "iter" = some .globalImplicit) (hk : F.env.scope.kind = .function) (hg : F.env.globals = mainGlobals) (hb : F.env.builtins = builtinsNs) : RV g.G A F (eval (.Name "iter" pos) F.env) (pureM (.builtin "iter")) :=
  D_Builtin (v := .builtin "iter") (ns_iter g) (by kernel_rfl) rfl (by decide) hl hk hg hb (by decide)
theorem gb_tuple (hl : F.env.kindOf "tuple" = some .globalImplicit) (hk : F.env.scope.kind = .function) (hg : F.env.globals = mainGlobals) (hb : F.env.builtins = builtinsNs) : RV g.G A F (eval (.Name "tuple" pos) F.env) (pureM (.type "tuple")) :=
  D_Builtin (v := .type "tuple") (ns_tuple g) (by kernel_rfl) rfl (by decide) hl hk hg hb (by decide)
theorem gb_set (hl : F.env.kindOf "set" = some .globalImplicit) (hk : F.env.scope.kind = .function) (hg : F.env.globals = mainGlobals) (hb : F.env.builtins = builtinsNs) : RV g.G A F (eval (.Name "set" pos) F.env) (pureM (.type "set")) :=
  D_Builtin (v := .type "set") (ns_set g) (by kernel_rfl) rfl (by decide) hl hk hg hb (by decide)
theorem gb_bool (hl : F.env.kindOf "bool" = some .globalImplicit) (hk : F.env.scope.kind = .function) (hg : F.env.globals = mainGlobals) (hb : F.env.builtins = builtinsNs) : RV g.G A F (eval (.Name "bool" pos) F.env) (pureM (.type "bool")) :=
  D_Builtin (v := .type "bool") (ns_bool g) (by kernel_rfl) rfl (by decide) hl hk hg hb (by decide)
theorem gb_StopIteration (hl : F.env.kindOf "StopIteration" = some .globalImplicit) (hk : F.env.scope.kind = .function) (hg : F.env.globals = mainGlobals) (hb : F.env.builtins = builtinsNs) : RV g.G A F (eval (.Name "StopIteration" pos) F.env) (pureM (.type "StopIteration")) :=
  D_Builtin (v := .type "StopIteration") (ns_StopIteration g) (by kernel_rfl) rfl (by decide) hl hk hg hb (by decide)
theorem gg_COMPILER_FLAG_NAMES (hl : F.env.kindOf "COMPILER_FLAG_NAMES" = some .globalImplicit) (hk : F.env.scope.kind = .function) (hg : F.env.globals = mainGlobals) : RV g.G A F (eval (.Name "COMPILER_FLAG_NAMES" pos) F.env) (pureM (.ref 22)) :=
  D_Global (ns_COMPILER_FLAG_NAMES g) rfl hl hk hg (by decide)
theorem gg_pretty_flags (hl : F.env.kindOf "pretty_flags" = some .globalImplicit) (hk : F.env.scope.kind = .function) (hg : F.env.globals = mainGlobals) : RV g.G A F (eval (.Name "pretty_flags" pos) F.env) (pureM (.ref 29)) :=
  D_Global (ns_pretty_flags g) rfl hl hk hg (by decide)
theorem gg_heappush (hl : F.env.kindOf "heappush" = some .globalImplicit) (hk : F.env.scope.kind = .function) (hg : F.env.globals = mainGlobals) : RV g.G A F (eval (.Name "heappush" pos) F.env) (pureM (.ref 156)) :=
  D_Global (ns_heappush g) rfl hl hk hg (by decide)
theorem gg_heappop (hl : F.env.kindOf "heappop" = some .globalImplicit) (hk : F.env.scope.kind = .function) (hg : F.env.globals = mainGlobals) : RV g.G A F (eval (.Name "heappop" pos) F.env) (pureM (.ref 163)) :=
  D_Global (ns_heappop g) rfl hl hk hg (by decide)
theorem gg_siftdown (hl : F.env.kindOf "_siftdown" = some .globalImplicit) (hk : F.env.scope.kind = .function) (hg : F.env.globals = mainGlobals) : RV g.G A F (eval (.Name "_siftdown" pos) F.env) (pureM (.ref 170)) :=
  D_Global (ns_siftdown g) rfl hl hk hg (by decide)
theorem gg_siftup (hl : F.env.kindOf "_siftup" = some .globalImplicit) (hk : F.env.scope.kind = .function) (hg : F.env.globals = mainGlobals) : RV g.G A F (eval (.Name "_siftup" pos) F.env) (pureM (.ref 177)) :=
  D_Global (ns_siftup g) rfl hl hk hg (by decide)
theorem gg_law_ups (hl : F.env.kindOf "_law_ups" = some .globalImplicit) (hk : F.env.scope.kind = .function) (hg : F.env.globals = mainGlobals) : RV g.G A F (eval (.Name "_law_ups" pos) F.env) (pureM (.ref 182)) :=
  D_Global (ns_law_ups g) rfl hl hk hg (by decide)
theorem gg_law_falls (hl : F.env.kindOf "_law_falls" = some .globalImplicit) (hk : F.env.scope.kind = .function) (hg : F.env.globals = mainGlobals) : RV g.G A F (eval (.Name "_law_falls" pos) F.env) (pureM (.ref 187)) :=
  D_Global (ns_law_falls g) rfl hl hk hg (by decide)
theorem gg_law_stands (hl : F.env.kindOf "_law_stands" = some .globalImplicit) (hk : F.env.scope.kind = .function) (hg : F.env.globals = mainGlobals) : RV g.G A F (eval (.Name "_law_stands" pos) F.env) (pureM (.ref 192)) :=
  D_Global (ns_law_stands g) rfl hl hk hg (by decide)
theorem gg_law_word (hl : F.env.kindOf "_law_word" = some .globalImplicit) (hk : F.env.scope.kind = .function) (hg : F.env.globals = mainGlobals) : RV g.G A F (eval (.Name "_law_word" pos) F.env) (pureM (.ref 199)) :=
  D_Global (ns_law_word g) rfl hl hk hg (by decide)
theorem gg_law_words (hl : F.env.kindOf "_law_words" = some .globalImplicit) (hk : F.env.scope.kind = .function) (hg : F.env.globals = mainGlobals) : RV g.G A F (eval (.Name "_law_words" pos) F.env) (pureM (.ref 204)) :=
  D_Global (ns_law_words g) rfl hl hk hg (by decide)
theorem gg_law_told (hl : F.env.kindOf "_law_told" = some .globalImplicit) (hk : F.env.scope.kind = .function) (hg : F.env.globals = mainGlobals) : RV g.G A F (eval (.Name "_law_told" pos) F.env) (pureM (.ref 211)) :=
  D_Global (ns_law_told g) rfl hl hk hg (by decide)
theorem gg_law_least (hl : F.env.kindOf "_law_least" = some .globalImplicit) (hk : F.env.scope.kind = .function) (hg : F.env.globals = mainGlobals) : RV g.G A F (eval (.Name "_law_least" pos) F.env) (pureM (.ref 218)) :=
  D_Global (ns_law_least g) rfl hl hk hg (by decide)
theorem gg_law_played (hl : F.env.kindOf "_law_played" = some .globalImplicit) (hk : F.env.scope.kind = .function) (hg : F.env.globals = mainGlobals) : RV g.G A F (eval (.Name "_law_played" pos) F.env) (pureM (.ref 223)) :=
  D_Global (ns_law_played g) rfl hl hk hg (by decide)
theorem gg_NodeInfo (hl : F.env.kindOf "_NodeInfo" = some .globalImplicit) (hk : F.env.scope.kind = .function) (hg : F.env.globals = mainGlobals) : RV g.G A F (eval (.Name "_NodeInfo" pos) F.env) (pureM (.ref 48)) :=
  D_Global (ns_NodeInfo g) rfl hl hk hg (by decide)
theorem gg_TopologicalSorter (hl : F.env.kindOf "TopologicalSorter" = some .globalImplicit) (hk : F.env.scope.kind = .function) (hg : F.env.globals = mainGlobals) : RV g.G A F (eval (.Name "TopologicalSorter" pos) F.env) (pureM (.ref 145)) :=
  D_Global (ns_TopologicalSorter g) rfl hl hk hg (by decide)
theorem gg_NODE_OUT (hl : F.env.kindOf "_NODE_OUT" = some .globalImplicit) (hk : F.env.scope.kind = .function) (hg : F.env.globals = mainGlobals) : RV g.G A F (eval (.Name "_NODE_OUT" pos) F.env) (pureM (.int (-1) 0)) :=
  D_Global (ns_NODE_OUT g) rfl hl hk hg (by decide)
theorem gg_NODE_DONE (hl : F.env.kindOf "_NODE_DONE" = some .globalImplicit) (hk : F.env.scope.kind = .function) (hg : F.env.globals = mainGlobals) : RV g.G A F (eval (.Name "_NODE_DONE" pos) F.env) (pureM (.int (-2) 0)) :=
  D_Global (ns_NODE_DONE g) rfl hl hk hg (by decide)
end
end Mine
end
namespace Mine
noncomputable def S_down : Spec := fun args Q h => Ex3 fun a ns (pos : Nat) => All5 (args = [.ref a, .int 0 0, .int pos 0]) (h a = some (.list (vInts ns))) (pos < ns.length) (ns.length ≤ 1000) (Q .none (h.set a (.list (vInts (sdLoop (ns.getD pos 0) ns pos)))))
theorem ok_siftdown (g : Gn) : CallOK g.G 1 (.ref 170) S_down := by
  refine' callOK_def (n := 0) (BS := bsPlain [Str.ofString "heap", Str.ofString "startpos", Str.ofString "pos"]) (lk__siftdown g) rfl (cd__siftdown g) rfl rfl (bindOK3 fun _ _ _ => rfl) (kind_plain (by rfl)) ?r ?s
  case r =>
    intro A L outer hroom hA
    (repeat' (first | (with_reducible first | exact RS_nil | exact R_Break | exact R_Continue | exact R_Pass | exact R_dead (st := .Raise _ _ _) | exact R_dead (st := .Assert _ _ _) | exact R_dead (st := .For _ (.Call (.Attribute _ "items" _) _ _ _) _ _ _) | exact R_Dict | exact allTrue_and_nil | exact allTrue_or_nil | exact RArg_nil | exact RSp_nil | exact RT_nil rfl) | (with_reducible first | apply RS_one | apply RS_consJ (st := .If _ _ _ _) | apply RS_cons | apply R_Return | apply R_If | apply R_Assign_Comp | apply R_Assign_Name | apply R_Assign_Two | apply R_Assign_Item | apply D_Aug_Name | apply D_Aug_Item | apply R_Del | apply R_While | apply D_For | apply R_TryNext | apply R_Expr | apply R_Const | apply gg_COMPILER_FLAG_NAMES | apply gg_NODE_OUT | apply gg_NODE_DONE | apply gg_pretty_flags | apply gg_heappush | apply gg_heappop | apply gg_siftdown | apply gg_siftup | apply gg_law_ups | apply gg_law_falls | apply gg_law_stands | apply gg_law_word | apply gg_law_words | apply gg_law_told | apply gg_law_least | apply gg_law_played | apply gg_NodeInfo | apply gg_CycleError | apply gg_TopologicalSorter | apply gb_range | apply gb_len | apply gb_hex | apply gb_sum | apply gb_min | apply gb_max | apply gb_sorted | apply gb_iter | apply gb_tuple | apply gb_list | apply gb_set | apply gb_bool | apply gb_StopIteration | apply R_Name | apply D_BinOp | apply D_UnaryOp | apply D_cmp2 | apply R_IfExp | apply D_Bool2 | apply R_SliceFrom | apply R_Sub | apply R_Named | apply R_ListComp | apply R_List | apply D_attr_d (st_n2i _) | apply D_st_d (st_n2i _) | apply D_aug_d (st_n2i _) | apply D_attr_d (st_rdy _) | apply D_st_d (st_rdy _) | apply D_aug_d (st_rdy _) | apply D_attr_d (st_npo _) | apply D_st_d (st_npo _) | apply D_aug_d (st_npo _) | apply D_attr_d (st_nfi _) | apply D_st_d (st_nfi _) | apply D_aug_d (st_nfi _) | apply D_attr_s (st_node _) | apply D_st_s (st_node _) | apply D_aug_s (st_node _) | apply D_attr_s (st_npred _) | apply D_st_s (st_npred _) | apply D_aug_s (st_npred _) | apply D_attr_s (st_succ _) | apply D_st_s (st_succ _) | apply D_aug_s (st_succ _) | apply D_method (hst := st_m_info _) (hkp := st_k_get_info _) | apply D_method (hst := st_m_cyc _) (hkp := st_k_find_cycle _) | apply D_method (hst := st_m_prep _) (hkp := st_k_prepare _) | apply D_method (hst := st_m_ready _) (hkp := st_k_get_ready _) | apply D_method (hst := st_m_act _) (hkp := st_k_is_active _) | apply D_setadd (o := .Name "seen" _) | apply D_methodStar (args := [_, .Starred _ _]) (hst := st_b_add _) | apply D_methodStar (args := [.Starred _ _]) (hst := st_b_done _) | apply D_attr_next | apply D_append | apply D_pop | apply D_clear | apply D_get | apply D_join | apply D_split | apply D_len (func := .Name "len" _) | apply D_hex (func := .Name "hex" _) | apply D_sorted (func := .Name "sorted" _) | apply D_iter (func := .Name "iter" _) | apply D_tuple (func := .Name "tuple" _) | apply D_list (func := .Name "list" _) | apply D_set (func := .Name "set" _) | apply D_bool (func := .Name "bool" _) | apply D_sum (func := .Name "sum" _) | apply D_min (func := .Name "min" _) | apply D_max (func := .Name "max" _) | apply D_call (func := .Name "pretty_flags" _) (hk := kk_pretty_flags _) | apply D_call (func := .Name "heappush" _) (hk := kk_heappush _) | apply D_call (func := .Name "heappop" _) (hk := kk_heappop _) | apply D_call (func := .Name "_siftdown" _) (hk := kk_siftdown _) | apply D_call (func := .Name "_siftup" _) (hk := kk_siftup _) | apply D_call (func := .Name "_law_ups" _) (hk := kk_law_ups _) | apply D_call (func := .Name "_law_falls" _) (hk := kk_law_falls _) | apply D_call (func := .Name "_law_stands" _) (hk := kk_law_stands _) | apply D_call (func := .Name "_law_word" _) (hk := kk_law_word _) | apply D_call (func := .Name "_law_words" _) (hk := kk_law_words _) | apply D_call (func := .Name "_law_told" _) (hk := kk_law_told _) | apply D_call (func := .Name "_law_least" _) (hk := kk_law_least _) | apply D_call (func := .Name "_law_played" _) (hk := kk_law_played _) | apply D_call (func := .Name "_NodeInfo" _) (hk := kk_NodeInfo _) | apply D_call (func := .Name "CycleError" _) (hk := kk_CycleError _) | apply D_call (func := .Name "TopologicalSorter" _) (hk := kk_TopologicalSorter _) | apply DB_cmp2 | apply RB_Not | apply RB_Bool | apply allTrue_and | apply allTrue_or | apply RB_If | apply DB_plain | apply RArg_lone | apply RArg_cons | apply RSp_star | apply RSp_cons | apply D_range1 (fn := .Name "range" _) | apply RI_range3 | apply RI_values | apply RI_val | apply RT_one) | assumption | with_unfolding_all rfl | (with_reducible intro _; with_unfolding_all rfl) | decide | exact Room.handled (by assumption) | intro _))
  case s =>
    rintro args Q h ⟨a, ns, pos, rfl, ha, hp, hl, hq⟩
    refine ⟨rfl, ?_⟩
    simp only [bindsSt_sto, seqM, seqJ, asgM, bindM, pureM, varM, whileM, iteM, exprM, stItemM, retM]
    refine look rfl ?_
    refine look rfl ?_
    refine v_item (xs := vInts ns) ha (at_vInts hp (by omega)) ?_
    dsimp only [sto_put]
    refine ⟨fun n σ => Ex3 fun (p : Nat) (ys : List Int) (h' : H) => All6 (n = p) (σ = sto [("heap", .ref a), ("startpos", .int 0 0), ("pos", .int p 0), ("newitem", .int (ns[pos]) 0)] h') (h' = h.set a (.list (vInts ys))) (p < ys.length) (ys.length = ns.length) (sdLoop ns[pos] ys p = sdLoop ns[pos] ns pos), pos, ?_, ?_⟩
    · refine weak_sto ⟨pos, ns, _, rfl, rfl, rfl, hp, rfl, rfl⟩ ⟨rfl, rfl, rfl, rfl, trivial⟩ ?_
      rw [H.set_same ha]; exact fun _ _ e => e
    · rintro n σ ⟨p, ys, h', hn, rfl, rfl, hpl, hyl, hs⟩
      subst hn
      have hya : (h.set a (.list (vInts ys))) a = some (.list (vInts ys)) := H.set_self ..
      refine look rfl (look rfl (v_gt ?_))
      refine ⟨fun ht => ?_, fun hf => ?_⟩
      · have hp0 : 0 < n := by simpa using ht
        have e1 : ((n : Int) - 1) / 2 ^ Int.toNat 1 = (((n - 1) / 2 : Nat) : Int) := by
          have : ((n : Int) - 1) = ((n - 1 : Nat) : Int) := by omega
          rw [this]; simp
        refine look rfl (v_sub (v_shr (by decide) ?_))
        rw [sto_put, e1]
        have hq2 : (n - 1) / 2 < ys.length := by omega
        refine look rfl (look rfl (v_item hya (at_vInts hq2 (by omega)) ?_))
        dsimp only [sto_put]
        have hgd : ys.getD ((n - 1) / 2) 0 = ys[(n - 1) / 2] := by simp [List.getD, hq2]
        refine ⟨fun σ' => ¬ ns[pos] < ys[(n - 1) / 2] ∧ σ' = sto [("parent", .int ys[(n - 1) / 2] 0), ("parentpos", .int ((n - 1) / 2 : Nat) 0), ("heap", .ref a), ("startpos", .int 0 0), ("pos", .int n 0), ("newitem", .int (ns[pos]) 0)] (h.set a (.list (vInts ys))), ?_, ?_⟩
        · refine look rfl (look rfl (v_lt (v_tru ⟨fun hlt => ?_, fun hlt => ⟨by simpa using hlt, rfl⟩⟩)))
          have hlt : ns[pos] < ys[(n - 1) / 2] := by simpa using hlt
          refine look rfl (look rfl (look rfl (v_setItem hya (setAt_vInts hpl (by omega)) ?_)))
          dsimp only [sto_seth]; rw [H.set_set]
          refine look rfl ?_
          dsimp only [sto_put]
          refine ⟨(n - 1) / 2, by omega, weak_sto ⟨(n - 1) / 2, ys.set n ys[(n - 1) / 2], _, rfl, rfl, rfl, by simpa using hq2, by simpa using hyl, ?_⟩ ⟨rfl, rfl, rfl, rfl, trivial⟩ fun _ _ e => e⟩
          rw [← hs, sdLoop.eq_1 ns[pos] ys n, dif_pos hp0, hgd, if_pos hlt]
        · rintro σ' ⟨hlt, rfl⟩
          refine look rfl (look rfl (look rfl (v_setItem hya (setAt_vInts hpl (by omega)) ?_)))
          dsimp only [sto_seth]; rw [H.set_set]
          refine ⟨_, fun _ _ e => e, ?_⟩
          rw [sdLoop.eq_1 ns[pos] ys n, dif_pos hp0, hgd, if_neg hlt] at hs
          rw [sto_h, hs]
          have : ns.getD pos 0 = ns[pos] := by simp [List.getD, hp]
          rw [this] at hq; exact hq
      · have hp0 : ¬ 0 < n := by simpa using hf
        refine look rfl (look rfl (look rfl (v_setItem hya (setAt_vInts hpl (by omega)) ?_)))
        dsimp only [sto_seth]; rw [H.set_set]
        refine ⟨_, fun _ _ e => e, ?_⟩
        rw [sdLoop.eq_1 ns[pos] ys n, dif_neg hp0] at hs
        rw [sto_h, hs]
        have : ns.getD pos 0 = ns[pos] := by simp [List.getD, hp]
        rw [this] at hq; exact hq
noncomputable def S_up : Spec := fun args Q h => Ex2 fun a ns => All5 (args = [.ref a, .int 0 0]) (h a = some (.list (vInts ns))) (0 < ns.length) (ns.length ≤ 1000) (Q .none (h.set a (.list (vInts (siftUp ns)))))
theorem ok_siftup (g : Gn) : CallOK g.G 2 (.ref 177) S_up := by
  have h170 := ok_siftdown g
  refine' callOK_def (n := 1) (BS := bsPlain [Str.ofString "heap", Str.ofString "pos"]) (lk__siftup g) rfl (cd__siftup g) rfl rfl (bindOK2 fun _ _ => rfl) (kind_plain (by rfl)) ?r ?s
  case r =>
    intro A L outer hroom hA
    (repeat' (first | (with_reducible first | exact RS_nil | exact R_Break | exact R_Continue | exact R_Pass | exact R_dead (st := .Raise _ _ _) | exact R_dead (st := .Assert _ _ _) | exact R_dead (st := .For _ (.Call (.Attribute _ "items" _) _ _ _) _ _ _) | exact R_Dict | exact allTrue_and_nil | exact allTrue_or_nil | exact RArg_nil | exact RSp_nil | exact RT_nil rfl) | (with_reducible first | apply RS_one | apply RS_consJ (st := .If _ _ _ _) | apply RS_cons | apply R_Return | apply R_If | apply R_Assign_Comp | apply R_Assign_Name | apply R_Assign_Two | apply R_Assign_Item | apply D_Aug_Name | apply D_Aug_Item | apply R_Del | apply R_While | apply D_For | apply R_TryNext | apply R_Expr | apply R_Const | apply gg_COMPILER_FLAG_NAMES | apply gg_NODE_OUT | apply gg_NODE_DONE | apply gg_pretty_flags | apply gg_heappush | apply gg_heappop | apply gg_siftdown | apply gg_siftup | apply gg_law_ups | apply gg_law_falls | apply gg_law_stands | apply gg_law_word | apply gg_law_words | apply gg_law_told | apply gg_law_least | apply gg_law_played | apply gg_NodeInfo | apply gg_CycleError | apply gg_TopologicalSorter | apply gb_range | apply gb_len | apply gb_hex | apply gb_sum | apply gb_min | apply gb_max | apply gb_sorted | apply gb_iter | apply gb_tuple | apply gb_list | apply gb_set | apply gb_bool | apply gb_StopIteration | apply R_Name | apply D_BinOp | apply D_UnaryOp | apply D_cmp2 | apply R_IfExp | apply D_Bool2 | apply R_SliceFrom | apply R_Sub | apply R_Named | apply R_ListComp | apply R_List | apply D_attr_d (st_n2i _) | apply D_st_d (st_n2i _) | apply D_aug_d (st_n2i _) | apply D_attr_d (st_rdy _) | apply D_st_d (st_rdy _) | apply D_aug_d (st_rdy _) | apply D_attr_d (st_npo _) | apply D_st_d (st_npo _) | apply D_aug_d (st_npo _) | apply D_attr_d (st_nfi _) | apply D_st_d (st_nfi _) | apply D_aug_d (st_nfi _) | apply D_attr_s (st_node _) | apply D_st_s (st_node _) | apply D_aug_s (st_node _) | apply D_attr_s (st_npred _) | apply D_st_s (st_npred _) | apply D_aug_s (st_npred _) | apply D_attr_s (st_succ _) | apply D_st_s (st_succ _) | apply D_aug_s (st_succ _) | apply D_method (hst := st_m_info _) (hkp := st_k_get_info _) | apply D_method (hst := st_m_cyc _) (hkp := st_k_find_cycle _) | apply D_method (hst := st_m_prep _) (hkp := st_k_prepare _) | apply D_method (hst := st_m_ready _) (hkp := st_k_get_ready _) | apply D_method (hst := st_m_act _) (hkp := st_k_is_active _) | apply D_setadd (o := .Name "seen" _) | apply D_methodStar (args := [_, .Starred _ _]) (hst := st_b_add _) | apply D_methodStar (args := [.Starred _ _]) (hst := st_b_done _) | apply D_attr_next | apply D_append | apply D_pop | apply D_clear | apply D_get | apply D_join | apply D_split | apply D_len (func := .Name "len" _) | apply D_hex (func := .Name "hex" _) | apply D_sorted (func := .Name "sorted" _) | apply D_iter (func := .Name "iter" _) | apply D_tuple (func := .Name "tuple" _) | apply D_list (func := .Name "list" _) | apply D_set (func := .Name "set" _) | apply D_bool (func := .Name "bool" _) | apply D_sum (func := .Name "sum" _) | apply D_min (func := .Name "min" _) | apply D_max (func := .Name "max" _) | apply D_call (func := .Name "pretty_flags" _) (hk := kk_pretty_flags _) | apply D_call (func := .Name "heappush" _) (hk := kk_heappush _) | apply D_call (func := .Name "heappop" _) (hk := kk_heappop _) | apply D_call (func := .Name "_siftdown" _) (hk := kk_siftdown _) | apply D_call (func := .Name "_siftup" _) (hk := kk_siftup _) | apply D_call (func := .Name "_law_ups" _) (hk := kk_law_ups _) | apply D_call (func := .Name "_law_falls" _) (hk := kk_law_falls _) | apply D_call (func := .Name "_law_stands" _) (hk := kk_law_stands _) | apply D_call (func := .Name "_law_word" _) (hk := kk_law_word _) | apply D_call (func := .Name "_law_words" _) (hk := kk_law_words _) | apply D_call (func := .Name "_law_told" _) (hk := kk_law_told _) | apply D_call (func := .Name "_law_least" _) (hk := kk_law_least _) | apply D_call (func := .Name "_law_played" _) (hk := kk_law_played _) | apply D_call (func := .Name "_NodeInfo" _) (hk := kk_NodeInfo _) | apply D_call (func := .Name "CycleError" _) (hk := kk_CycleError _) | apply D_call (func := .Name "TopologicalSorter" _) (hk := kk_TopologicalSorter _) | apply DB_cmp2 | apply RB_Not | apply RB_Bool | apply allTrue_and | apply allTrue_or | apply RB_If | apply DB_plain | apply RArg_lone | apply RArg_cons | apply RSp_star | apply RSp_cons | apply D_range1 (fn := .Name "range" _) | apply RI_range3 | apply RI_values | apply RI_val | apply RT_one) | assumption | with_unfolding_all rfl | (with_reducible intro _; with_unfolding_all rfl) | decide | exact Room.handled (by assumption) | intro _))
  case s =>
    rintro args Q h ⟨a, ns, rfl, ha, hp, hl, hq⟩
    refine ⟨rfl, ?_⟩
    simp only [bindsSt_sto, seqM, seqJ, asgM, bindM, pureM, varM, whileM, iteM, exprM, stItemM, retM, consM, andB, callM]
    refine look rfl (v_len (xs := vInts ns) ha (by rw [vInts_length]; omega) ?_)
    (repeat (first | refine look rfl ?_ | refine v_tru ?_ | refine v_add ?_ | refine v_sub ?_ | refine v_lt ?_ | refine v_le ?_ | refine v_gt ?_ | refine v_ge ?_ | refine v_eq ?_ | refine v_ne ?_ | refine v_and ?_ | refine v_or ?_ | refine v_xor ?_ | refine v_aAdd ?_ | refine v_aSub ?_ | refine v_aOr ?_ | refine v_aXor ?_ | refine v_shr (by decide) ?_ | refine v_mul (by decide) ?_ | simp only [sto_put, sto_seth, H.set_set, sto_h]))
    refine v_item (xs := vInts ns) (k := ((0 : Nat) : Int)) ha (at_vInts hp (by omega)) ?_
    (repeat (first | refine look rfl ?_ | refine v_tru ?_ | refine v_add ?_ | refine v_sub ?_ | refine v_lt ?_ | refine v_le ?_ | refine v_gt ?_ | refine v_ge ?_ | refine v_eq ?_ | refine v_ne ?_ | refine v_and ?_ | refine v_or ?_ | refine v_xor ?_ | refine v_aAdd ?_ | refine v_aSub ?_ | refine v_aOr ?_ | refine v_aXor ?_ | refine v_shr (by decide) ?_ | refine v_mul (by decide) ?_ | simp only [sto_put, sto_seth, H.set_set, sto_h]))
    refine ⟨fun n σ => Ex3 fun (p : Nat) (ys : List Int) (h' : H) => All6 (n + p = ns.length) (σ = sto [("heap", .ref a), ("startpos", .int 0 0), ("endpos", .int ns.length 0), ("pos", .int p 0), ("childpos", .int (2 * p + 1 : Nat) 0), ("newitem", .int (ns[0]) 0)] h') (h' = h.set a (.list (vInts ys))) (p < ys.length) (ys.length = ns.length) (suLoop ys p = suLoop ns 0), ns.length, ?_, ?_⟩
    · refine weak_sto ⟨0, ns, _, by omega, rfl, rfl, hp, rfl, rfl⟩ ⟨rfl, rfl, by rw [vInts_length]; rfl, rfl, rfl, rfl, trivial⟩ ?_
      rw [H.set_same ha]; exact fun _ _ e => e
    · rintro n σ ⟨p, ys, h', hn, rfl, rfl, hpl, hyl, hs⟩
      have hya : (h.set a (.list (vInts ys))) a = some (.list (vInts ys)) := H.set_self ..
      (repeat (first | refine look rfl ?_ | refine v_tru ?_ | refine v_add ?_ | refine v_sub ?_ | refine v_lt ?_ | refine v_le ?_ | refine v_gt ?_ | refine v_ge ?_ | refine v_eq ?_ | refine v_ne ?_ | refine v_and ?_ | refine v_or ?_ | refine v_xor ?_ | refine v_aAdd ?_ | refine v_aSub ?_ | refine v_aOr ?_ | refine v_aXor ?_ | refine v_shr (by decide) ?_ | refine v_mul (by decide) ?_ | simp only [sto_put, sto_seth, H.set_set, sto_h]))
      refine ⟨fun ht => ?_, fun hf => ?_⟩
      · have ht : 2 * p + 1 < ns.length := by have := of_decide_eq_true ht; omega
        (repeat (first | refine look rfl ?_ | refine v_tru ?_ | refine v_add ?_ | refine v_sub ?_ | refine v_lt ?_ | refine v_le ?_ | refine v_gt ?_ | refine v_ge ?_ | refine v_eq ?_ | refine v_ne ?_ | refine v_and ?_ | refine v_or ?_ | refine v_xor ?_ | refine v_aAdd ?_ | refine v_aSub ?_ | refine v_aOr ?_ | refine v_aXor ?_ | refine v_shr (by decide) ?_ | refine v_mul (by decide) ?_ | simp only [sto_put, sto_seth, H.set_set, sto_h]))
        have e1 : (((2 * p + 1 : Nat) : Int) + 1) = ((2 * p + 2 : Nat) : Int) := by omega
        have hc1 : 2 * p + 1 < ys.length := by omega
        refine ⟨fun σ' => Ex2 fun (c : Nat) (l : List (Str × Value)) => All10 (c < ys.length) (p < c) (c = (if 2 * p + 2 < ys.length ∧ ¬ ys.getD (2 * p + 1) 0 < ys.getD (2 * p + 2) 0 then 2 * p + 2 else 2 * p + 1)) (σ' = sto l (h.set a (.list (vInts ys)))) (nm l "heap" = some (.ref a)) (nm l "startpos" = some (.int 0 0)) (nm l "endpos" = some (.int ns.length 0)) (nm l "pos" = some (.int p 0)) (nm l "childpos" = some (.int c 0)) (nm l "newitem" = some (.int ns[0] 0)), ?_, ?_⟩
        · rw [e1]
          (repeat (first | refine look rfl ?_ | refine v_tru ?_ | refine v_add ?_ | refine v_sub ?_ | refine v_lt ?_ | refine v_le ?_ | refine v_gt ?_ | refine v_ge ?_ | refine v_eq ?_ | refine v_ne ?_ | refine v_and ?_ | refine v_or ?_ | refine v_xor ?_ | refine v_aAdd ?_ | refine v_aSub ?_ | refine v_aOr ?_ | refine v_aXor ?_ | refine v_shr (by decide) ?_ | refine v_mul (by decide) ?_ | simp only [sto_put, sto_seth, H.set_set, sto_h]))
          refine ⟨fun hr => ?_, fun hr => ⟨(fun q => by cases q), fun _ => ?_⟩⟩
          · have hr : 2 * p + 2 < ys.length := by have := of_decide_eq_true hr; omega
            refine look rfl (look rfl (v_item hya (at_vInts hc1 (by omega)) ?_))
            refine look rfl (look rfl (v_item hya (at_vInts hr (by omega)) ?_))
            have g1 : ys.getD (2 * p + 1) 0 = ys[2 * p + 1] := by simp [List.getD, hc1]
            have g2 : ys.getD (2 * p + 2) 0 = ys[2 * p + 2] := by simp [List.getD, hr]
            (repeat (first | refine look rfl ?_ | refine v_tru ?_ | refine v_add ?_ | refine v_sub ?_ | refine v_lt ?_ | refine v_le ?_ | refine v_gt ?_ | refine v_ge ?_ | refine v_eq ?_ | refine v_ne ?_ | refine v_and ?_ | refine v_or ?_ | refine v_xor ?_ | refine v_aAdd ?_ | refine v_aSub ?_ | refine v_aOr ?_ | refine v_aXor ?_ | refine v_shr (by decide) ?_ | refine v_mul (by decide) ?_ | simp only [sto_put, sto_seth, H.set_set, sto_h]))
            refine ⟨fun hb => ⟨fun _ => look rfl ?_, (fun q => by cases q)⟩, fun hb => ⟨(fun q => by cases q), fun _ => ?_⟩⟩
            · have hb : ¬ ys[2 * p + 1] < ys[2 * p + 2] := by simpa using hb
              exact ⟨2 * p + 2, _, hr, by omega, by rw [if_pos ⟨hr, by rw [g1, g2]; exact hb⟩], rfl, rfl, rfl, rfl, rfl, rfl, rfl⟩
            · have hb : ys[2 * p + 1] < ys[2 * p + 2] := by simpa using hb
              exact ⟨2 * p + 1, _, hc1, by omega, by rw [if_neg (by rw [g1, g2]; exact fun q => q.2 hb)], rfl, rfl, rfl, rfl, rfl, rfl, rfl⟩
          · have hr : ¬ 2 * p + 2 < ys.length := by have := of_decide_eq_false hr; omega
            exact ⟨2 * p + 1, _, hc1, by omega, by rw [if_neg (fun q => hr q.1)], rfl, rfl, rfl, rfl, rfl, rfl, rfl⟩
        · rintro σ' ⟨c, l, hcl, hpc, hce, rfl, l1, l2, l3, l4, l5, l6⟩
          refine look l1 (look l5 (v_item hya (at_vInts hcl (by omega)) ?_))
          refine look l1 (look l4 (v_setItem hya (setAt_vInts hpl (by omega)) ?_))
          dsimp only [sto_seth]; rw [H.set_set]
          refine look l5 ?_
          dsimp only [sto_put]
          refine look rfl (v_mul (by decide) (v_add ?_))
          dsimp only [sto_put]
          refine ⟨n - (c - p), by omega, weak_sto ⟨c, ys.set p ys[c], _, by omega, rfl, rfl, by simpa using hcl, by simpa using hyl, ?_⟩ ⟨l1, l2, l3, rfl, by simp; rfl, l6, trivial⟩ fun _ _ e => e⟩
          rw [← hs, suLoop.eq_1 ys p, dif_pos hc1]
          simp only [← hce]
          simp [List.getD, hcl]
      · have hf : ¬ 2 * p + 1 < ys.length := by have := of_decide_eq_false hf; omega
        rw [suLoop.eq_1 ys p, dif_neg hf] at hs
        refine look rfl (look rfl (look rfl (v_setItem hya (setAt_vInts hpl (by omega)) ?_)))
        dsimp only [sto_seth]; rw [H.set_set]
        refine look rfl (look rfl (look rfl ?_))
        refine ⟨a, ys.set p ns[0], p, rfl, H.set_self .., by simpa using hpl, by rw [List.length_set]; omega, _, fun _ _ e => e, ?_⟩
        have e0 : (ys.set p ns[0]).getD p 0 = ns[0] := by simp [List.getD, hpl]
        have e2 : ns.getD 0 0 = ns[0] := by simp [List.getD, hp]
        rw [sto_h, H.set_set, e0]
        unfold siftUp at hq
        rw [← hs, e2] at hq
        exact hq
noncomputable def S_push : Spec := fun args Q h => Ex3 fun a ns x => All4 (args = [.ref a, .int x 0]) (h a = some (.list (vInts ns))) (ns.length < 1000) (Q .none (h.set a (.list (vInts (sdLoop x (ns ++ [x]) ns.length)))))
theorem ok_push (g : Gn) : CallOK g.G 2 (.ref 156) S_push := by
  have h170 := ok_siftdown g
  refine' callOK_def (n := 1) (BS := bsPlain [Str.ofString "heap", Str.ofString "item"]) (lk_heappush g) rfl (cd_heappush g) rfl rfl (bindOK2 fun _ _ => rfl) (kind_plain (by rfl)) ?r ?s
  case r =>
    intro A L outer hroom hA
    (repeat' (first | (with_reducible first | exact RS_nil | exact R_Break | exact R_Continue | exact R_Pass | exact R_dead (st := .Raise _ _ _) | exact R_dead (st := .Assert _ _ _) | exact R_dead (st := .For _ (.Call (.Attribute _ "items" _) _ _ _) _ _ _) | exact R_Dict | exact allTrue_and_nil | exact allTrue_or_nil | exact RArg_nil | exact RSp_nil | exact RT_nil rfl) | (with_reducible first | apply RS_one | apply RS_consJ (st := .If _ _ _ _) | apply RS_cons | apply R_Return | apply R_If | apply R_Assign_Comp | apply R_Assign_Name | apply R_Assign_Two | apply R_Assign_Item | apply D_Aug_Name | apply D_Aug_Item | apply R_Del | apply R_While | apply D_For | apply R_TryNext | apply R_Expr | apply R_Const | apply gg_COMPILER_FLAG_NAMES | apply gg_NODE_OUT | apply gg_NODE_DONE | apply gg_pretty_flags | apply gg_heappush | apply gg_heappop | apply gg_siftdown | apply gg_siftup | apply gg_law_ups | apply gg_law_falls | apply gg_law_stands | apply gg_law_word | apply gg_law_words | apply gg_law_told | apply gg_law_least | apply gg_law_played | apply gg_NodeInfo | apply gg_CycleError | apply gg_TopologicalSorter | apply gb_range | apply gb_len | apply gb_hex | apply gb_sum | apply gb_min | apply gb_max | apply gb_sorted | apply gb_iter | apply gb_tuple | apply gb_list | apply gb_set | apply gb_bool | apply gb_StopIteration | apply R_Name | apply D_BinOp | apply D_UnaryOp | apply D_cmp2 | apply R_IfExp | apply D_Bool2 | apply R_SliceFrom | apply R_Sub | apply R_Named | apply R_ListComp | apply R_List | apply D_attr_d (st_n2i _) | apply D_st_d (st_n2i _) | apply D_aug_d (st_n2i _) | apply D_attr_d (st_rdy _) | apply D_st_d (st_rdy _) | apply D_aug_d (st_rdy _) | apply D_attr_d (st_npo _) | apply D_st_d (st_npo _) | apply D_aug_d (st_npo _) | apply D_attr_d (st_nfi _) | apply D_st_d (st_nfi _) | apply D_aug_d (st_nfi _) | apply D_attr_s (st_node _) | apply D_st_s (st_node _) | apply D_aug_s (st_node _) | apply D_attr_s (st_npred _) | apply D_st_s (st_npred _) | apply D_aug_s (st_npred _) | apply D_attr_s (st_succ _) | apply D_st_s (st_succ _) | apply D_aug_s (st_succ _) | apply D_method (hst := st_m_info _) (hkp := st_k_get_info _) | apply D_method (hst := st_m_cyc _) (hkp := st_k_find_cycle _) | apply D_method (hst := st_m_prep _) (hkp := st_k_prepare _) | apply D_method (hst := st_m_ready _) (hkp := st_k_get_ready _) | apply D_method (hst := st_m_act _) (hkp := st_k_is_active _) | apply D_setadd (o := .Name "seen" _) | apply D_methodStar (args := [_, .Starred _ _]) (hst := st_b_add _) | apply D_methodStar (args := [.Starred _ _]) (hst := st_b_done _) | apply D_attr_next | apply D_append | apply D_pop | apply D_clear | apply D_get | apply D_join | apply D_split | apply D_len (func := .Name "len" _) | apply D_hex (func := .Name "hex" _) | apply D_sorted (func := .Name "sorted" _) | apply D_iter (func := .Name "iter" _) | apply D_tuple (func := .Name "tuple" _) | apply D_list (func := .Name "list" _) | apply D_set (func := .Name "set" _) | apply D_bool (func := .Name "bool" _) | apply D_sum (func := .Name "sum" _) | apply D_min (func := .Name "min" _) | apply D_max (func := .Name "max" _) | apply D_call (func := .Name "pretty_flags" _) (hk := kk_pretty_flags _) | apply D_call (func := .Name "heappush" _) (hk := kk_heappush _) | apply D_call (func := .Name "heappop" _) (hk := kk_heappop _) | apply D_call (func := .Name "_siftdown" _) (hk := kk_siftdown _) | apply D_call (func := .Name "_siftup" _) (hk := kk_siftup _) | apply D_call (func := .Name "_law_ups" _) (hk := kk_law_ups _) | apply D_call (func := .Name "_law_falls" _) (hk := kk_law_falls _) | apply D_call (func := .Name "_law_stands" _) (hk := kk_law_stands _) | apply D_call (func := .Name "_law_word" _) (hk := kk_law_word _) | apply D_call (func := .Name "_law_words" _) (hk := kk_law_words _) | apply D_call (func := .Name "_law_told" _) (hk := kk_law_told _) | apply D_call (func := .Name "_law_least" _) (hk := kk_law_least _) | apply D_call (func := .Name "_law_played" _) (hk := kk_law_played _) | apply D_call (func := .Name "_NodeInfo" _) (hk := kk_NodeInfo _) | apply D_call (func := .Name "CycleError" _) (hk := kk_CycleError _) | apply D_call (func := .Name "TopologicalSorter" _) (hk := kk_TopologicalSorter _) | apply DB_cmp2 | apply RB_Not | apply RB_Bool | apply allTrue_and | apply allTrue_or | apply RB_If | apply DB_plain | apply RArg_lone | apply RArg_cons | apply RSp_star | apply RSp_cons | apply D_range1 (fn := .Name "range" _) | apply RI_range3 | apply RI_values | apply RI_val | apply RT_one) | assumption | with_unfolding_all rfl | (with_reducible intro _; with_unfolding_all rfl) | decide | exact Room.handled (by assumption) | intro _))
  case s =>
    rintro args Q h ⟨a, ns, x, rfl, ha, hl, hq⟩
    refine ⟨rfl, ?_⟩
    simp only [bindsSt_sto, seqM, asgM, bindM, pureM, varM, exprM, retM, consM, callM, methM]
    (repeat (first | refine look rfl ?_ | refine v_tru ?_ | refine v_add ?_ | refine v_sub ?_ | refine v_lt ?_ | refine v_le ?_ | refine v_gt ?_ | refine v_ge ?_ | refine v_eq ?_ | refine v_ne ?_ | refine v_and ?_ | refine v_or ?_ | refine v_xor ?_ | refine v_aAdd ?_ | refine v_aSub ?_ | refine v_aOr ?_ | refine v_aXor ?_ | refine v_shr (by decide) ?_ | refine v_mul (by decide) ?_ | simp only [sto_put, sto_seth, H.set_set, sto_h]))
    refine ⟨by simp [isListP, sto_h, ha], ?_⟩
    (repeat (first | refine look rfl ?_ | refine v_tru ?_ | refine v_add ?_ | refine v_sub ?_ | refine v_lt ?_ | refine v_le ?_ | refine v_gt ?_ | refine v_ge ?_ | refine v_eq ?_ | refine v_ne ?_ | refine v_and ?_ | refine v_or ?_ | refine v_xor ?_ | refine v_aAdd ?_ | refine v_aSub ?_ | refine v_aOr ?_ | refine v_aXor ?_ | refine v_shr (by decide) ?_ | refine v_mul (by decide) ?_ | simp only [sto_put, sto_seth, H.set_set, sto_h]))
    refine v_append (xs := vInts ns) ha (by rw [vInts_length]; omega) ?_
    rw [vInts_snoc, sto_seth]
    have hya : (h.set a (.list (vInts (ns ++ [x])))) a = some (.list (vInts (ns ++ [x]))) := H.set_self ..
    refine look rfl (look rfl (v_len hya (by rw [vInts_length, List.length_append]; simp; omega) (v_sub ?_)))
    have e1 : (((vInts (ns ++ [x])).length : Int) - 1) = (ns.length : Int) := by rw [vInts_length]; simp
    rw [e1]
    refine ⟨a, ns ++ [x], ns.length, rfl, hya, by simp, by simp; omega, _, fun _ _ e => e, ?_⟩
    rw [sto_h, H.set_set]
    have e2 : (ns ++ [x]).getD ns.length 0 = x := by simp [List.getD]
    rw [e2]; exact hq
noncomputable def S_pop : Spec := fun args Q h => Ex2 fun a ns => All5 (args = [.ref a]) (h a = some (.list (vInts ns))) (0 < ns.length) (ns.length ≤ 1000) (Q (.int (ns.getD 0 0) 0) (h.set a (.list (vInts (heapPop ns)))))
theorem ok_pop (g : Gn) : CallOK g.G 3 (.ref 163) S_pop := by
  have h177 := ok_siftup g
  refine' callOK_def (n := 2) (BS := bsPlain [Str.ofString "heap"]) (lk_heappop g) rfl (cd_heappop g) rfl rfl (bindOK1 fun _ => rfl) (kind_plain (by rfl)) ?r ?s
  case r =>
    intro A L outer hroom hA
    (repeat' (first | (with_reducible first | exact RS_nil | exact R_Break | exact R_Continue | exact R_Pass | exact R_dead (st := .Raise _ _ _) | exact R_dead (st := .Assert _ _ _) | exact R_dead (st := .For _ (.Call (.Attribute _ "items" _) _ _ _) _ _ _) | exact R_Dict | exact allTrue_and_nil | exact allTrue_or_nil | exact RArg_nil | exact RSp_nil | exact RT_nil rfl) | (with_reducible first | apply RS_one | apply RS_consJ (st := .If _ _ _ _) | apply RS_cons | apply R_Return | apply R_If | apply R_Assign_Comp | apply R_Assign_Name | apply R_Assign_Two | apply R_Assign_Item | apply D_Aug_Name | apply D_Aug_Item | apply R_Del | apply R_While | apply D_For | apply R_TryNext | apply R_Expr | apply R_Const | apply gg_COMPILER_FLAG_NAMES | apply gg_NODE_OUT | apply gg_NODE_DONE | apply gg_pretty_flags | apply gg_heappush | apply gg_heappop | apply gg_siftdown | apply gg_siftup | apply gg_law_ups | apply gg_law_falls | apply gg_law_stands | apply gg_law_word | apply gg_law_words | apply gg_law_told | apply gg_law_least | apply gg_law_played | apply gg_NodeInfo | apply gg_CycleError | apply gg_TopologicalSorter | apply gb_range | apply gb_len | apply gb_hex | apply gb_sum | apply gb_min | apply gb_max | apply gb_sorted | apply gb_iter | apply gb_tuple | apply gb_list | apply gb_set | apply gb_bool | apply gb_StopIteration | apply R_Name | apply D_BinOp | apply D_UnaryOp | apply D_cmp2 | apply R_IfExp | apply D_Bool2 | apply R_SliceFrom | apply R_Sub | apply R_Named | apply R_ListComp | apply R_List | apply D_attr_d (st_n2i _) | apply D_st_d (st_n2i _) | apply D_aug_d (st_n2i _) | apply D_attr_d (st_rdy _) | apply D_st_d (st_rdy _) | apply D_aug_d (st_rdy _) | apply D_attr_d (st_npo _) | apply D_st_d (st_npo _) | apply D_aug_d (st_npo _) | apply D_attr_d (st_nfi _) | apply D_st_d (st_nfi _) | apply D_aug_d (st_nfi _) | apply D_attr_s (st_node _) | apply D_st_s (st_node _) | apply D_aug_s (st_node _) | apply D_attr_s (st_npred _) | apply D_st_s (st_npred _) | apply D_aug_s (st_npred _) | apply D_attr_s (st_succ _) | apply D_st_s (st_succ _) | apply D_aug_s (st_succ _) | apply D_method (hst := st_m_info _) (hkp := st_k_get_info _) | apply D_method (hst := st_m_cyc _) (hkp := st_k_find_cycle _) | apply D_method (hst := st_m_prep _) (hkp := st_k_prepare _) | apply D_method (hst := st_m_ready _) (hkp := st_k_get_ready _) | apply D_method (hst := st_m_act _) (hkp := st_k_is_active _) | apply D_setadd (o := .Name "seen" _) | apply D_methodStar (args := [_, .Starred _ _]) (hst := st_b_add _) | apply D_methodStar (args := [.Starred _ _]) (hst := st_b_done _) | apply D_attr_next | apply D_append | apply D_pop | apply D_clear | apply D_get | apply D_join | apply D_split | apply D_len (func := .Name "len" _) | apply D_hex (func := .Name "hex" _) | apply D_sorted (func := .Name "sorted" _) | apply D_iter (func := .Name "iter" _) | apply D_tuple (func := .Name "tuple" _) | apply D_list (func := .Name "list" _) | apply D_set (func := .Name "set" _) | apply D_bool (func := .Name "bool" _) | apply D_sum (func := .Name "sum" _) | apply D_min (func := .Name "min" _) | apply D_max (func := .Name "max" _) | apply D_call (func := .Name "pretty_flags" _) (hk := kk_pretty_flags _) | apply D_call (func := .Name "heappush" _) (hk := kk_heappush _) | apply D_call (func := .Name "heappop" _) (hk := kk_heappop _) | apply D_call (func := .Name "_siftdown" _) (hk := kk_siftdown _) | apply D_call (func := .Name "_siftup" _) (hk := kk_siftup _) | apply D_call (func := .Name "_law_ups" _) (hk := kk_law_ups _) | apply D_call (func := .Name "_law_falls" _) (hk := kk_law_falls _) | apply D_call (func := .Name "_law_stands" _) (hk := kk_law_stands _) | apply D_call (func := .Name "_law_word" _) (hk := kk_law_word _) | apply D_call (func := .Name "_law_words" _) (hk := kk_law_words _) | apply D_call (func := .Name "_law_told" _) (hk := kk_law_told _) | apply D_call (func := .Name "_law_least" _) (hk := kk_law_least _) | apply D_call (func := .Name "_law_played" _) (hk := kk_law_played _) | apply D_call (func := .Name "_NodeInfo" _) (hk := kk_NodeInfo _) | apply D_call (func := .Name "CycleError" _) (hk := kk_CycleError _) | apply D_call (func := .Name "TopologicalSorter" _) (hk := kk_TopologicalSorter _) | apply DB_cmp2 | apply RB_Not | apply RB_Bool | apply allTrue_and | apply allTrue_or | apply RB_If | apply DB_plain | apply RArg_lone | apply RArg_cons | apply RSp_star | apply RSp_cons | apply D_range1 (fn := .Name "range" _) | apply RI_range3 | apply RI_values | apply RI_val | apply RT_one) | assumption | with_unfolding_all rfl | (with_reducible intro _; with_unfolding_all rfl) | decide | exact Room.handled (by assumption) | intro _))
  case s =>
    rintro args Q h ⟨a, ns, rfl, ha, hp, hl, hq⟩
    refine ⟨rfl, ?_⟩
    simp only [bindsSt_sto, seqM, seqJ, asgM, bindM, pureM, varM, iteM, exprM, stItemM, retM, consM, callM, methM]
    (repeat (first | refine look rfl ?_ | refine v_tru ?_ | refine v_add ?_ | refine v_sub ?_ | refine v_lt ?_ | refine v_le ?_ | refine v_gt ?_ | refine v_ge ?_ | refine v_eq ?_ | refine v_ne ?_ | refine v_and ?_ | refine v_or ?_ | refine v_xor ?_ | refine v_aAdd ?_ | refine v_aSub ?_ | refine v_aOr ?_ | refine v_aXor ?_ | refine v_shr (by decide) ?_ | refine v_mul (by decide) ?_ | simp only [sto_put, sto_seth, H.set_set, sto_h]))
    refine ⟨by simp [isListP, sto_h, ha], ?_⟩
    (repeat (first | refine look rfl ?_ | refine v_tru ?_ | refine v_add ?_ | refine v_sub ?_ | refine v_lt ?_ | refine v_le ?_ | refine v_gt ?_ | refine v_ge ?_ | refine v_eq ?_ | refine v_ne ?_ | refine v_and ?_ | refine v_or ?_ | refine v_xor ?_ | refine v_aAdd ?_ | refine v_aSub ?_ | refine v_aOr ?_ | refine v_aXor ?_ | refine v_shr (by decide) ?_ | refine v_mul (by decide) ?_ | simp only [sto_put, sto_seth, H.set_set, sto_h]))
    refine v_pop (xs := vInts ns) ha (by rw [vInts_length]; omega) (vInts_last hp) ?_
    rw [vInts_dropLast, sto_seth, sto_put]
    have hya : (h.set a (.list (vInts ns.dropLast))) a = some (.list (vInts ns.dropLast)) := H.set_self ..
    have hdl : ns.dropLast.length = ns.length - 1 := by simp
    refine ⟨fun σ' => ns.length = 1 ∧ σ' = sto [("lastelt", .int (ns.getLastD 0) 0), ("heap", .ref a)] (h.set a (.list (vInts ns.dropLast))), ?_, ?_⟩
    · refine look rfl (v_truList hya (by rw [vInts_length, hdl]; omega) ⟨fun hne => ?_, fun he => ⟨?_, rfl⟩⟩)
      · have hlen : 1 < ns.length := by
          rw [vInts_length, hdl] at hne
          have : ns.length - 1 ≠ 0 := by simpa using hne
          omega
        have h0 : 0 < ns.dropLast.length := by omega
        refine look rfl (v_item (k := ((0 : Nat) : Int)) hya (at_vInts h0 (by omega)) ?_)
        dsimp only [sto_put]
        refine look rfl (look rfl (v_setItem (k := ((0 : Nat) : Int)) hya (setAt_vInts h0 (by omega)) ?_))
        dsimp only [sto_seth]; rw [H.set_set]
        refine look rfl ⟨a, ns.dropLast.set 0 (ns.getLastD 0), rfl, H.set_self .., by simpa using h0, by rw [List.length_set, hdl]; omega, look rfl ⟨_, fun _ _ e => e, ?_⟩⟩
        rw [sto_h, H.set_set]
        unfold heapPop at hq
        rw [if_neg (by omega)] at hq
        have e0 : ns.getD 0 0 = ns.dropLast[0] := by simp [List.getD, hp]
        rw [e0] at hq
        exact hq
      · rw [vInts_length, hdl] at he
        have : ns.length - 1 = 0 := by simpa using he
        omega
    · rintro σ' ⟨h1, rfl⟩
      refine look rfl ⟨_, fun _ _ e => e, ?_⟩
      obtain ⟨x, rfl⟩ : ∃ x, ns = [x] := List.length_eq_one_iff.mp h1
      exact hq
theorem bind_init (g : Gn) : BindOK g.G ex_ts_init.1 (fun args Q h => ∃ a, args = [a] ∧ Q [(Str.ofString "self", a), (Str.ofString "graph", .none)] h) := by
  rintro A vs keep h s Q E R ⟨a, e, hq⟩
  obtain ⟨u, rfl, rfl⟩ := map_one e
  have ho : s.heap.get? 74 = some dflObj := R.X _ _ (lk_dfl g)
  show wpAny _ _ (seqItems? (.ref 74) >>= _) _ _ _
  refine wpAny_bind (wpAny_seqItems ho rfl ?_)
  refine wpAny_of_eq (a := [(Str.ofString "self", u), (Str.ofString "graph", Value.none)]) (by rfl) ?_
  exact ⟨h, R, fun _ _ e => e, hq⟩
noncomputable def S_tinit : Spec := fun args Q h => Ex2 fun x dx => All4 (args = [.ref x]) (h x = some (.inst 145 dx [])) (h dx = some (.nd [])) (∀ D ep, D ≠ x → D ≠ dx → h D = none → Q .none (H.set (H.set h D (.sd [] ep)) dx (.nd (tsNd D .none 0 0))))
theorem ok_tinit (g : Gn) : CallOK g.G 1 (.ref 81) S_tinit := by
  refine' callOK_def (n := 0) (BS := fun args Q h => ∃ a, args = [a] ∧ Q [(Str.ofString "self", a), (Str.ofString "graph", .none)] h) (lk_ts_init g) rfl (cd_ts_init g) rfl ?sc ?b ?k ?r ?s
  case sc => rfl
  case b => exact bind_init g
  case k =>
    rintro args Q h ⟨a, e, hq⟩
    exact ⟨a, e, rfl, hq⟩
  case r =>
    intro A L outer hroom hA
    (repeat' (first | (with_reducible first | exact RS_nil | exact R_Break | exact R_Continue | exact R_Pass | exact R_dead (st := .Raise _ _ _) | exact R_dead (st := .Assert _ _ _) | exact R_dead (st := .For _ (.Call (.Attribute _ "items" _) _ _ _) _ _ _) | exact R_Dict | exact allTrue_and_nil | exact allTrue_or_nil | exact RArg_nil | exact RSp_nil | exact RT_nil rfl) | (with_reducible first | apply RS_one | apply RS_consJ (st := .If _ _ _ _) | apply RS_cons | apply R_Return | apply R_If | apply R_Assign_Comp | apply R_Assign_Name | apply R_Assign_Two | apply R_Assign_Item | apply D_Aug_Name | apply D_Aug_Item | apply R_Del | apply R_While | apply D_For | apply R_TryNext | apply R_Expr | apply R_Const | apply gg_COMPILER_FLAG_NAMES | apply gg_NODE_OUT | apply gg_NODE_DONE | apply gg_pretty_flags | apply gg_heappush | apply gg_heappop | apply gg_siftdown | apply gg_siftup | apply gg_law_ups | apply gg_law_falls | apply gg_law_stands | apply gg_law_word | apply gg_law_words | apply gg_law_told | apply gg_law_least | apply gg_law_played | apply gg_NodeInfo | apply gg_CycleError | apply gg_TopologicalSorter | apply gb_range | apply gb_len | apply gb_hex | apply gb_sum | apply gb_min | apply gb_max | apply gb_sorted | apply gb_iter | apply gb_tuple | apply gb_list | apply gb_set | apply gb_bool | apply gb_StopIteration | apply R_Name | apply D_BinOp | apply D_UnaryOp | apply D_cmp2 | apply R_IfExp | apply D_Bool2 | apply R_SliceFrom | apply R_Sub | apply R_Named | apply R_ListComp | apply R_List | apply D_attr_d (st_n2i _) | apply D_st_d (st_n2i _) | apply D_aug_d (st_n2i _) | apply D_attr_d (st_rdy _) | apply D_st_d (st_rdy _) | apply D_aug_d (st_rdy _) | apply D_attr_d (st_npo _) | apply D_st_d (st_npo _) | apply D_aug_d (st_npo _) | apply D_attr_d (st_nfi _) | apply D_st_d (st_nfi _) | apply D_aug_d (st_nfi _) | apply D_attr_s (st_node _) | apply D_st_s (st_node _) | apply D_aug_s (st_node _) | apply D_attr_s (st_npred _) | apply D_st_s (st_npred _) | apply D_aug_s (st_npred _) | apply D_attr_s (st_succ _) | apply D_st_s (st_succ _) | apply D_aug_s (st_succ _) | apply D_method (hst := st_m_info _) (hkp := st_k_get_info _) | apply D_method (hst := st_m_cyc _) (hkp := st_k_find_cycle _) | apply D_method (hst := st_m_prep _) (hkp := st_k_prepare _) | apply D_method (hst := st_m_ready _) (hkp := st_k_get_ready _) | apply D_method (hst := st_m_act _) (hkp := st_k_is_active _) | apply D_setadd (o := .Name "seen" _) | apply D_methodStar (args := [_, .Starred _ _]) (hst := st_b_add _) | apply D_methodStar (args := [.Starred _ _]) (hst := st_b_done _) | apply D_attr_next | apply D_append | apply D_pop | apply D_clear | apply D_get | apply D_join | apply D_split | apply D_len (func := .Name "len" _) | apply D_hex (func := .Name "hex" _) | apply D_sorted (func := .Name "sorted" _) | apply D_iter (func := .Name "iter" _) | apply D_tuple (func := .Name "tuple" _) | apply D_list (func := .Name "list" _) | apply D_set (func := .Name "set" _) | apply D_bool (func := .Name "bool" _) | apply D_sum (func := .Name "sum" _) | apply D_min (func := .Name "min" _) | apply D_max (func := .Name "max" _) | apply D_call (func := .Name "pretty_flags" _) (hk := kk_pretty_flags _) | apply D_call (func := .Name "heappush" _) (hk := kk_heappush _) | apply D_call (func := .Name "heappop" _) (hk := kk_heappop _) | apply D_call (func := .Name "_siftdown" _) (hk := kk_siftdown _) | apply D_call (func := .Name "_siftup" _) (hk := kk_siftup _) | apply D_call (func := .Name "_law_ups" _) (hk := kk_law_ups _) | apply D_call (func := .Name "_law_falls" _) (hk := kk_law_falls _) | apply D_call (func := .Name "_law_stands" _) (hk := kk_law_stands _) | apply D_call (func := .Name "_law_word" _) (hk := kk_law_word _) | apply D_call (func := .Name "_law_words" _) (hk := kk_law_words _) | apply D_call (func := .Name "_law_told" _) (hk := kk_law_told _) | apply D_call (func := .Name "_law_least" _) (hk := kk_law_least _) | apply D_call (func := .Name "_law_played" _) (hk := kk_law_played _) | apply D_call (func := .Name "_NodeInfo" _) (hk := kk_NodeInfo _) | apply D_call (func := .Name "CycleError" _) (hk := kk_CycleError _) | apply D_call (func := .Name "TopologicalSorter" _) (hk := kk_TopologicalSorter _) | apply DB_cmp2 | apply RB_Not | apply RB_Bool | apply allTrue_and | apply allTrue_or | apply RB_If | apply DB_plain | apply RArg_lone | apply RArg_cons | apply RSp_star | apply RSp_cons | apply D_range1 (fn := .Name "range" _) | apply RI_range3 | apply RI_values | apply RI_val | apply RT_one) | assumption | with_unfolding_all rfl | (with_reducible intro _; with_unfolding_all rfl) | decide | exact Room.handled (by assumption) | intro _))
  case s =>
    rintro args Q h ⟨x, dx, rfl, hx, hdx, hq⟩
    refine ⟨_, rfl, ?_⟩
    simp only [bindsSt_sto, seqM, asgM, bindM, pureM, varM, exprM, retM, stAttrM, dictM, iteM, failM]
    have hne : x ≠ dx := fun e => by rw [e, hdx] at hx; cases hx
    refine .inl fun ep D hD => ?_
    rw [sto_h] at hD
    have hDx : D ≠ x := fun e => by rw [e, hx] at hD; cases hD
    have hDd : D ≠ dx := fun e => by rw [e, hdx] at hD; cases hD
    dsimp only [sto_seth]
    have k : ∀ fs, (H.set (H.set h D (.sd [] ep)) dx (.nd fs)) x = some (.inst 145 dx []) := fun fs => (H.set_ne _ _ hne).trans ((H.set_ne _ _ hDx.symm).trans hx)
    refine look rfl (v_dset (fs := []) ((H.set_ne _ _ hDx.symm).trans hx) ((H.set_ne _ _ hDd.symm).trans hdx) (by decide) ?_)
    dsimp only [sto_seth]
    refine look rfl (v_dset (k _) (H.set_self ..) (Nat.le_trans (Nat.le_of_eq (show _ = 1 from rfl)) (by decide)) ?_)
    dsimp only [sto_seth]; rw [H.set_set]
    refine look rfl (v_dset (k _) (H.set_self ..) (Nat.le_trans (Nat.le_of_eq (show _ = 2 from rfl)) (by decide)) ?_)
    dsimp only [sto_seth]; rw [H.set_set]
    refine look rfl (v_dset (k _) (H.set_self ..) (Nat.le_trans (Nat.le_of_eq (show _ = 3 from rfl)) (by decide)) ?_)
    dsimp only [sto_seth]; rw [H.set_set]
    refine look rfl ?_
    show _ ∧ _
    refine ⟨(fun q => by cases q), fun _ => ⟨_, fun _ _ e => e, hq D ep hDx hDd hD⟩⟩
noncomputable def S_ninit : Spec := fun args Q h => Ex3 fun x dx v => All4 (args = [.ref x, v]) (h x = some (.inst 48 dx [])) (h dx = some (.nd [])) (∀ D, D ≠ x → D ≠ dx → h D = none → Q .none (H.set (H.set h D (.list [])) x (.inst 48 dx [some v, some (.int 0 0), some (.ref D)])))
theorem ok_ninit (g : Gn) : CallOK g.G 1 (.ref 44) S_ninit := by
  refine' callOK_def (n := 0) (BS := bsPlain [Str.ofString "self", Str.ofString "node"]) (lk_ni_init g) rfl (cd_ni_init g) rfl rfl (bindOK2 fun _ _ => rfl) (kind_plain (by rfl)) ?r ?s
  case r =>
    intro A L outer hroom hA
    (repeat' (first | (with_reducible first | exact RS_nil | exact R_Break | exact R_Continue | exact R_Pass | exact R_dead (st := .Raise _ _ _) | exact R_dead (st := .Assert _ _ _) | exact R_dead (st := .For _ (.Call (.Attribute _ "items" _) _ _ _) _ _ _) | exact R_Dict | exact allTrue_and_nil | exact allTrue_or_nil | exact RArg_nil | exact RSp_nil | exact RT_nil rfl) | (with_reducible first | apply RS_one | apply RS_consJ (st := .If _ _ _ _) | apply RS_cons | apply R_Return | apply R_If | apply R_Assign_Comp | apply R_Assign_Name | apply R_Assign_Two | apply R_Assign_Item | apply D_Aug_Name | apply D_Aug_Item | apply R_Del | apply R_While | apply D_For | apply R_TryNext | apply R_Expr | apply R_Const | apply gg_COMPILER_FLAG_NAMES | apply gg_NODE_OUT | apply gg_NODE_DONE | apply gg_pretty_flags | apply gg_heappush | apply gg_heappop | apply gg_siftdown | apply gg_siftup | apply gg_law_ups | apply gg_law_falls | apply gg_law_stands | apply gg_law_word | apply gg_law_words | apply gg_law_told | apply gg_law_least | apply gg_law_played | apply gg_NodeInfo | apply gg_CycleError | apply gg_TopologicalSorter | apply gb_range | apply gb_len | apply gb_hex | apply gb_sum | apply gb_min | apply gb_max | apply gb_sorted | apply gb_iter | apply gb_tuple | apply gb_list | apply gb_set | apply gb_bool | apply gb_StopIteration | apply R_Name | apply D_BinOp | apply D_UnaryOp | apply D_cmp2 | apply R_IfExp | apply D_Bool2 | apply R_SliceFrom | apply R_Sub | apply R_Named | apply R_ListComp | apply R_List | apply D_attr_d (st_n2i _) | apply D_st_d (st_n2i _) | apply D_aug_d (st_n2i _) | apply D_attr_d (st_rdy _) | apply D_st_d (st_rdy _) | apply D_aug_d (st_rdy _) | apply D_attr_d (st_npo _) | apply D_st_d (st_npo _) | apply D_aug_d (st_npo _) | apply D_attr_d (st_nfi _) | apply D_st_d (st_nfi _) | apply D_aug_d (st_nfi _) | apply D_attr_s (st_node _) | apply D_st_s (st_node _) | apply D_aug_s (st_node _) | apply D_attr_s (st_npred _) | apply D_st_s (st_npred _) | apply D_aug_s (st_npred _) | apply D_attr_s (st_succ _) | apply D_st_s (st_succ _) | apply D_aug_s (st_succ _) | apply D_method (hst := st_m_info _) (hkp := st_k_get_info _) | apply D_method (hst := st_m_cyc _) (hkp := st_k_find_cycle _) | apply D_method (hst := st_m_prep _) (hkp := st_k_prepare _) | apply D_method (hst := st_m_ready _) (hkp := st_k_get_ready _) | apply D_method (hst := st_m_act _) (hkp := st_k_is_active _) | apply D_setadd (o := .Name "seen" _) | apply D_methodStar (args := [_, .Starred _ _]) (hst := st_b_add _) | apply D_methodStar (args := [.Starred _ _]) (hst := st_b_done _) | apply D_attr_next | apply D_append | apply D_pop | apply D_clear | apply D_get | apply D_join | apply D_split | apply D_len (func := .Name "len" _) | apply D_hex (func := .Name "hex" _) | apply D_sorted (func := .Name "sorted" _) | apply D_iter (func := .Name "iter" _) | apply D_tuple (func := .Name "tuple" _) | apply D_list (func := .Name "list" _) | apply D_set (func := .Name "set" _) | apply D_bool (func := .Name "bool" _) | apply D_sum (func := .Name "sum" _) | apply D_min (func := .Name "min" _) | apply D_max (func := .Name "max" _) | apply D_call (func := .Name "pretty_flags" _) (hk := kk_pretty_flags _) | apply D_call (func := .Name "heappush" _) (hk := kk_heappush _) | apply D_call (func := .Name "heappop" _) (hk := kk_heappop _) | apply D_call (func := .Name "_siftdown" _) (hk := kk_siftdown _) | apply D_call (func := .Name "_siftup" _) (hk := kk_siftup _) | apply D_call (func := .Name "_law_ups" _) (hk := kk_law_ups _) | apply D_call (func := .Name "_law_falls" _) (hk := kk_law_falls _) | apply D_call (func := .Name "_law_stands" _) (hk := kk_law_stands _) | apply D_call (func := .Name "_law_word" _) (hk := kk_law_word _) | apply D_call (func := .Name "_law_words" _) (hk := kk_law_words _) | apply D_call (func := .Name "_law_told" _) (hk := kk_law_told _) | apply D_call (func := .Name "_law_least" _) (hk := kk_law_least _) | apply D_call (func := .Name "_law_played" _) (hk := kk_law_played _) | apply D_call (func := .Name "_NodeInfo" _) (hk := kk_NodeInfo _) | apply D_call (func := .Name "CycleError" _) (hk := kk_CycleError _) | apply D_call (func := .Name "TopologicalSorter" _) (hk := kk_TopologicalSorter _) | apply DB_cmp2 | apply RB_Not | apply RB_Bool | apply allTrue_and | apply allTrue_or | apply RB_If | apply DB_plain | apply RArg_lone | apply RArg_cons | apply RSp_star | apply RSp_cons | apply D_range1 (fn := .Name "range" _) | apply RI_range3 | apply RI_values | apply RI_val | apply RT_one) | assumption | with_unfolding_all rfl | (with_reducible intro _; with_unfolding_all rfl) | decide | exact Room.handled (by assumption) | intro _))
  case s =>
    rintro args Q h ⟨x, dx, v, rfl, hx, hdx, hq⟩
    refine ⟨rfl, ?_⟩
    simp only [bindsSt_sto, seqM, asgM, bindM, pureM, varM, exprM, retM, stAttrM, listM]
    (repeat (first | refine look rfl ?_ | refine v_tru ?_ | refine v_add ?_ | refine v_sub ?_ | refine v_lt ?_ | refine v_le ?_ | refine v_gt ?_ | refine v_ge ?_ | refine v_eq ?_ | refine v_ne ?_ | refine v_and ?_ | refine v_or ?_ | refine v_xor ?_ | refine v_aAdd ?_ | refine v_aSub ?_ | refine v_aOr ?_ | refine v_aXor ?_ | refine v_shr (by decide) ?_ | refine v_mul (by decide) ?_ | simp only [sto_put, sto_seth, H.set_set, sto_h]))
    have hne : dx ≠ x := fun e => by rw [e, hx] at hdx; cases hdx
    refine v_sset (sl := []) hx hdx ?_
    dsimp only [sto_seth]
    refine look rfl (v_sset (sl := [some v]) (H.set_self ..) ((H.set_ne _ _ hne).trans hdx) ?_)
    dsimp only [sto_seth]; rw [H.set_set]
    refine ⟨by decide, fun D hD => ?_⟩
    rw [sto_h] at hD
    have hDx : D ≠ x := fun e => by rw [e, H.set_self] at hD; cases hD
    have hDd : D ≠ dx := fun e => by rw [e, H.set_ne _ _ hne, hdx] at hD; cases hD
    rw [H.set_ne _ _ hDx] at hD
    dsimp only [sto_seth]
    refine look rfl (v_sset (dx := dx) (fs := []) (sl := [some v, some (.int 0 0)]) ((H.set_ne _ _ hDx.symm).trans (H.set_self ..)) ((H.set_ne _ _ hDd.symm).trans ((H.set_ne _ _ hne).trans hdx)) ⟨_, fun _ _ e => e, ?_⟩)
    have := hq D hDx hDd hD
    rw [sto_seth, sto_h, H.set_comm _ _ _ hDx.symm, H.set_set]
    exact this
noncomputable def S_isact : Spec := fun args Q h => Ex7 fun x dx D r npo nfi xs => All6 (args = [.ref x]) (h x = some (.inst 145 dx [])) (h dx = some (.nd (tsNd D (.ref r) npo nfi))) (h r = some (.list xs)) (xs.length ≤ 1000000) (Q (.bool (decide (nfi < npo) || xs.length != 0)) h)
theorem ok_isact (g : Gn) : CallOK g.G 1 (.ref 114) S_isact := by
  refine' callOK_def (n := 0) (BS := bsPlain [Str.ofString "self"]) (lk_is_active g) rfl (cd_is_active g) rfl rfl (bindOK1 fun _ => rfl) (kind_plain (by rfl)) ?r ?s
  case r =>
    intro A L outer hroom hA
    (repeat' (first | (with_reducible first | exact RS_nil | exact R_Break | exact R_Continue | exact R_Pass | exact R_dead (st := .Raise _ _ _) | exact R_dead (st := .Assert _ _ _) | exact R_dead (st := .For _ (.Call (.Attribute _ "items" _) _ _ _) _ _ _) | exact R_Dict | exact allTrue_and_nil | exact allTrue_or_nil | exact RArg_nil | exact RSp_nil | exact RT_nil rfl) | (with_reducible first | apply RS_one | apply RS_consJ (st := .If _ _ _ _) | apply RS_cons | apply R_Return | apply R_If | apply R_Assign_Comp | apply R_Assign_Name | apply R_Assign_Two | apply R_Assign_Item | apply D_Aug_Name | apply D_Aug_Item | apply R_Del | apply R_While | apply D_For | apply R_TryNext | apply R_Expr | apply R_Const | apply gg_COMPILER_FLAG_NAMES | apply gg_NODE_OUT | apply gg_NODE_DONE | apply gg_pretty_flags | apply gg_heappush | apply gg_heappop | apply gg_siftdown | apply gg_siftup | apply gg_law_ups | apply gg_law_falls | apply gg_law_stands | apply gg_law_word | apply gg_law_words | apply gg_law_told | apply gg_law_least | apply gg_law_played | apply gg_NodeInfo | apply gg_CycleError | apply gg_TopologicalSorter | apply gb_range | apply gb_len | apply gb_hex | apply gb_sum | apply gb_min | apply gb_max | apply gb_sorted | apply gb_iter | apply gb_tuple | apply gb_list | apply gb_set | apply gb_bool | apply gb_StopIteration | apply R_Name | apply D_BinOp | apply D_UnaryOp | apply D_cmp2 | apply R_IfExp | apply D_Bool2 | apply R_SliceFrom | apply R_Sub | apply R_Named | apply R_ListComp | apply R_List | apply D_attr_d (st_n2i _) | apply D_st_d (st_n2i _) | apply D_aug_d (st_n2i _) | apply D_attr_d (st_rdy _) | apply D_st_d (st_rdy _) | apply D_aug_d (st_rdy _) | apply D_attr_d (st_npo _) | apply D_st_d (st_npo _) | apply D_aug_d (st_npo _) | apply D_attr_d (st_nfi _) | apply D_st_d (st_nfi _) | apply D_aug_d (st_nfi _) | apply D_attr_s (st_node _) | apply D_st_s (st_node _) | apply D_aug_s (st_node _) | apply D_attr_s (st_npred _) | apply D_st_s (st_npred _) | apply D_aug_s (st_npred _) | apply D_attr_s (st_succ _) | apply D_st_s (st_succ _) | apply D_aug_s (st_succ _) | apply D_method (hst := st_m_info _) (hkp := st_k_get_info _) | apply D_method (hst := st_m_cyc _) (hkp := st_k_find_cycle _) | apply D_method (hst := st_m_prep _) (hkp := st_k_prepare _) | apply D_method (hst := st_m_ready _) (hkp := st_k_get_ready _) | apply D_method (hst := st_m_act _) (hkp := st_k_is_active _) | apply D_setadd (o := .Name "seen" _) | apply D_methodStar (args := [_, .Starred _ _]) (hst := st_b_add _) | apply D_methodStar (args := [.Starred _ _]) (hst := st_b_done _) | apply D_attr_next | apply D_append | apply D_pop | apply D_clear | apply D_get | apply D_join | apply D_split | apply D_len (func := .Name "len" _) | apply D_hex (func := .Name "hex" _) | apply D_sorted (func := .Name "sorted" _) | apply D_iter (func := .Name "iter" _) | apply D_tuple (func := .Name "tuple" _) | apply D_list (func := .Name "list" _) | apply D_set (func := .Name "set" _) | apply D_bool (func := .Name "bool" _) | apply D_sum (func := .Name "sum" _) | apply D_min (func := .Name "min" _) | apply D_max (func := .Name "max" _) | apply D_call (func := .Name "pretty_flags" _) (hk := kk_pretty_flags _) | apply D_call (func := .Name "heappush" _) (hk := kk_heappush _) | apply D_call (func := .Name "heappop" _) (hk := kk_heappop _) | apply D_call (func := .Name "_siftdown" _) (hk := kk_siftdown _) | apply D_call (func := .Name "_siftup" _) (hk := kk_siftup _) | apply D_call (func := .Name "_law_ups" _) (hk := kk_law_ups _) | apply D_call (func := .Name "_law_falls" _) (hk := kk_law_falls _) | apply D_call (func := .Name "_law_stands" _) (hk := kk_law_stands _) | apply D_call (func := .Name "_law_word" _) (hk := kk_law_word _) | apply D_call (func := .Name "_law_words" _) (hk := kk_law_words _) | apply D_call (func := .Name "_law_told" _) (hk := kk_law_told _) | apply D_call (func := .Name "_law_least" _) (hk := kk_law_least _) | apply D_call (func := .Name "_law_played" _) (hk := kk_law_played _) | apply D_call (func := .Name "_NodeInfo" _) (hk := kk_NodeInfo _) | apply D_call (func := .Name "CycleError" _) (hk := kk_CycleError _) | apply D_call (func := .Name "TopologicalSorter" _) (hk := kk_TopologicalSorter _) | apply DB_cmp2 | apply RB_Not | apply RB_Bool | apply allTrue_and | apply allTrue_or | apply RB_If | apply DB_plain | apply RArg_lone | apply RArg_cons | apply RSp_star | apply RSp_cons | apply D_range1 (fn := .Name "range" _) | apply RI_range3 | apply RI_values | apply RI_val | apply RT_one) | assumption | with_unfolding_all rfl | (with_reducible intro _; with_unfolding_all rfl) | decide | exact Room.handled (by assumption) | intro _))
  case s =>
    rintro args Q h ⟨x, dx, D, r, npo, nfi, xs, rfl, hx, hdx, hr, hl, hq⟩
    refine ⟨rfl, ?_⟩
    simp only [bindsSt_sto, seqM, seqJ, asgM, bindM, pureM, varM, exprM, retM, stAttrM, iteM, failM, boolM]
    refine ⟨fun σ' => σ' = sto [("self", .ref x)] h, ?_, ?_⟩
    · refine look rfl (v_dattr hx hdx (by rfl) rfl ?_)
      exact ⟨(fun q => by cases q), fun _ => rfl⟩
    · rintro σ' rfl
      refine look rfl (v_dattr hx hdx (by rfl) rfl ?_)
      refine look rfl (v_dattr hx hdx (by rfl) rfl (v_lt (v_tru ⟨fun ht => ?_, fun hf => ?_⟩)))
      · refine ⟨h, fun _ _ e => e, ?_⟩
        have ht : decide (nfi < npo) = true := ht
        rw [ht, Bool.true_or] at hq
        show Q (.bool (decide (nfi < npo))) h
        rw [ht]; exact hq
      · have hf : decide (nfi < npo) = false := hf
        rw [hf, Bool.false_or] at hq
        refine look rfl (v_dattr hx hdx (by rfl) rfl ?_)
        simp only [pureM]
        unfold boolOfM
        have hr' : (sto [("self", .ref x)] h).h r = some (.list xs) := hr
        simp only [hr']
        exact ⟨hl, h, fun _ _ e => e, hq⟩
noncomputable def S_info : Spec := fun args Q h => Ex4 fun x v L T => All5 (args = [.ref x, .str v 0]) (SA 145 48 h x L T) (T.names.length ≤ 1000) (T.blank) (∀ h' L', SA 145 48 h' x L' (infoT T v) → Frame h h' (L.fp x T) (L'.fp x (infoT T v)) → Q (.ref (L'.na v)) h')
theorem ok_info (g : Gn) : CallOK g.G 3 (.ref 88) S_info := by
  have h48 : CallOK g.G 2 (.ref 48) _ := callOK_class (st_make_ni g) (st_init_ni g) (st_fn_ni_init g) (ok_ninit g)
  refine' callOK_def (n := 2) (BS := bsPlain [Str.ofString "self", Str.ofString "node"]) (lk_get_info g) rfl (cd_get_info g) rfl rfl (bindOK2 fun _ _ => rfl) (kind_plain (by rfl)) ?r ?s
  case r =>
    intro A L outer hroom hA
    (repeat' (first | (with_reducible first | exact RS_nil | exact R_Break | exact R_Continue | exact R_Pass | exact R_dead (st := .Raise _ _ _) | exact R_dead (st := .Assert _ _ _) | exact R_dead (st := .For _ (.Call (.Attribute _ "items" _) _ _ _) _ _ _) | exact R_Dict | exact allTrue_and_nil | exact allTrue_or_nil | exact RArg_nil | exact RSp_nil | exact RT_nil rfl) | (with_reducible first | apply RS_one | apply RS_consJ (st := .If _ _ _ _) | apply RS_cons | apply R_Return | apply R_If | apply R_Assign_Comp | apply R_Assign_Name | apply R_Assign_Two | apply R_Assign_Item | apply D_Aug_Name | apply D_Aug_Item | apply R_Del | apply R_While | apply D_For | apply R_TryNext | apply R_Expr | apply R_Const | apply gg_COMPILER_FLAG_NAMES | apply gg_NODE_OUT | apply gg_NODE_DONE | apply gg_pretty_flags | apply gg_heappush | apply gg_heappop | apply gg_siftdown | apply gg_siftup | apply gg_law_ups | apply gg_law_falls | apply gg_law_stands | apply gg_law_word | apply gg_law_words | apply gg_law_told | apply gg_law_least | apply gg_law_played | apply gg_NodeInfo | apply gg_CycleError | apply gg_TopologicalSorter | apply gb_range | apply gb_len | apply gb_hex | apply gb_sum | apply gb_min | apply gb_max | apply gb_sorted | apply gb_iter | apply gb_tuple | apply gb_list | apply gb_set | apply gb_bool | apply gb_StopIteration | apply R_Name | apply D_BinOp | apply D_UnaryOp | apply D_cmp2 | apply R_IfExp | apply D_Bool2 | apply R_SliceFrom | apply R_Sub | apply R_Named | apply R_ListComp | apply R_List | apply D_attr_d (st_n2i _) | apply D_st_d (st_n2i _) | apply D_aug_d (st_n2i _) | apply D_attr_d (st_rdy _) | apply D_st_d (st_rdy _) | apply D_aug_d (st_rdy _) | apply D_attr_d (st_npo _) | apply D_st_d (st_npo _) | apply D_aug_d (st_npo _) | apply D_attr_d (st_nfi _) | apply D_st_d (st_nfi _) | apply D_aug_d (st_nfi _) | apply D_attr_s (st_node _) | apply D_st_s (st_node _) | apply D_aug_s (st_node _) | apply D_attr_s (st_npred _) | apply D_st_s (st_npred _) | apply D_aug_s (st_npred _) | apply D_attr_s (st_succ _) | apply D_st_s (st_succ _) | apply D_aug_s (st_succ _) | apply D_method (hst := st_m_info _) (hkp := st_k_get_info _) | apply D_method (hst := st_m_cyc _) (hkp := st_k_find_cycle _) | apply D_method (hst := st_m_prep _) (hkp := st_k_prepare _) | apply D_method (hst := st_m_ready _) (hkp := st_k_get_ready _) | apply D_method (hst := st_m_act _) (hkp := st_k_is_active _) | apply D_setadd (o := .Name "seen" _) | apply D_methodStar (args := [_, .Starred _ _]) (hst := st_b_add _) | apply D_methodStar (args := [.Starred _ _]) (hst := st_b_done _) | apply D_attr_next | apply D_append | apply D_pop | apply D_clear | apply D_get | apply D_join | apply D_split | apply D_len (func := .Name "len" _) | apply D_hex (func := .Name "hex" _) | apply D_sorted (func := .Name "sorted" _) | apply D_iter (func := .Name "iter" _) | apply D_tuple (func := .Name "tuple" _) | apply D_list (func := .Name "list" _) | apply D_set (func := .Name "set" _) | apply D_bool (func := .Name "bool" _) | apply D_sum (func := .Name "sum" _) | apply D_min (func := .Name "min" _) | apply D_max (func := .Name "max" _) | apply D_call (func := .Name "pretty_flags" _) (hk := kk_pretty_flags _) | apply D_call (func := .Name "heappush" _) (hk := kk_heappush _) | apply D_call (func := .Name "heappop" _) (hk := kk_heappop _) | apply D_call (func := .Name "_siftdown" _) (hk := kk_siftdown _) | apply D_call (func := .Name "_siftup" _) (hk := kk_siftup _) | apply D_call (func := .Name "_law_ups" _) (hk := kk_law_ups _) | apply D_call (func := .Name "_law_falls" _) (hk := kk_law_falls _) | apply D_call (func := .Name "_law_stands" _) (hk := kk_law_stands _) | apply D_call (func := .Name "_law_word" _) (hk := kk_law_word _) | apply D_call (func := .Name "_law_words" _) (hk := kk_law_words _) | apply D_call (func := .Name "_law_told" _) (hk := kk_law_told _) | apply D_call (func := .Name "_law_least" _) (hk := kk_law_least _) | apply D_call (func := .Name "_law_played" _) (hk := kk_law_played _) | apply D_call (func := .Name "_NodeInfo" _) (hk := kk_NodeInfo _) | apply D_call (func := .Name "CycleError" _) (hk := kk_CycleError _) | apply D_call (func := .Name "TopologicalSorter" _) (hk := kk_TopologicalSorter _) | apply DB_cmp2 | apply RB_Not | apply RB_Bool | apply allTrue_and | apply allTrue_or | apply RB_If | apply DB_plain | apply RArg_lone | apply RArg_cons | apply RSp_star | apply RSp_cons | apply D_range1 (fn := .Name "range" _) | apply RI_range3 | apply RI_values | apply RI_val | apply RT_one) | assumption | with_unfolding_all rfl | (with_reducible intro _; with_unfolding_all rfl) | decide | exact Room.handled (by assumption) | intro _))
  case s =>
    rintro args Q h ⟨x, v, L, T, rfl, S, hlen, hbl, hq⟩
    refine ⟨rfl, ?_⟩
    simp only [bindsSt_sto, seqM, seqJ, asgM, augM, augItemM, augAttrM, bindM, pureM, varM, exprM, retM, stAttrM, stItemM, iteM, failM, boolM, andB, orB, stTwoM, methM, consM, starM, callM, initS, whileM, forM, compM, putM, delM, testM, newM, listM]
    refine ⟨fun σ' => Ex3 fun l h' L' => All4 (σ' = sto l h') (nm l "result" = some (.ref (L'.na v))) (SA 145 48 h' x L' (infoT T v)) (Frame h h' (L.fp x T) (L'.fp x (infoT T v))), ?_, ?_⟩
    · refine look rfl (sa_n2i S ⟨sa_isD S, look rfl (sa_get S ?_)⟩)
      by_cases hv : v ∈ T.names
      · rw [if_pos hv, sto_put]
        show _ ∧ _
        have e : infoT T v = T := by unfold infoT; rw [if_pos hv]
        refine ⟨(fun q => by cases q), fun _ => ⟨_, h, L, rfl, rfl, by rw [e]; exact S, by rw [e]; exact Frame.refl _ _⟩⟩
      · rw [if_neg hv, sto_put]
        show _ ∧ _
        refine ⟨fun _ => look rfl fun n d hn hd hnd => ?_, (fun q => by cases q)⟩
        rw [sto_h] at hn hd ⊢
        refine ⟨n, d, .str v 0, rfl, H.set_self .., (H.set_ne _ _ hnd).trans (H.set_self ..), fun s hsn hsd hs => ⟨rfl, look rfl ?_⟩⟩
        rw [H.set_ne _ _ hsn, H.set_ne _ _ hsd] at hs
        rw [sto_mk]
        generalize hh2 : H.set (H.set (H.set (H.set h d _) n _) s _) n _ = h2
        have k : ∀ a, a ≠ n → a ≠ d → a ≠ s → h2 a = h a := fun a e1 e2 e3 => by
          rw [← hh2, H.set_ne _ _ e1, H.set_ne _ _ e3, H.set_ne _ _ e1, H.set_ne _ _ e2]
        have k' : ∀ a o, h a = some o → h2 a = some o := fun a o e => (k a (fun q => by rw [q, hn] at e; cases e) (fun q => by rw [q, hd] at e; cases e) (fun q => by rw [q, hs] at e; cases e)).trans e
        have kn : h2 n = some (.inst 48 d (niSl (.str v 0) 0 s)) := by rw [← hh2, H.set_self]
        have kd : h2 d = some (.nd []) := by rw [← hh2, H.set_ne _ _ hnd, H.set_ne _ _ hsd.symm, H.set_ne _ _ hnd, H.set_self]
        have ks : h2 s = some (.list []) := by rw [← hh2, H.set_ne _ _ hsn, H.set_self]
        refine v_dattr (k' _ _ S.hx) (k' _ _ S.hdx) (by rfl) rfl (look rfl (v_setS (k' _ _ S.hD) (by rw [List.length_map]; omega) fun ep => ?_))
        rw [stored_map _ hv, sto_seth, sto_put]
        have nD : ∀ a o, h2 a = some o → (∀ kvs ep, o ≠ .sd kvs ep) → a ≠ L.D := fun a o e z q => by rw [q, k' _ _ S.hD] at e; exact z _ _ (Option.some.inj e).symm
        refine ⟨_, _, { L with ep := ep, na := upd L.na v n, da := upd L.da v d, sa := upd L.sa v s }, rfl, ?_, S.addNode hv hbl hn hd hs ((H.set_ne _ _ (nD _ _ kn (by intros; intro q; cases q))).trans kn) ((H.set_ne _ _ (nD _ _ kd (by intros; intro q; cases q))).trans kd) ((H.set_ne _ _ (nD _ _ ks (by intros; intro q; cases q))).trans ks) (H.set_self ..) (fun a e1 e2 e3 e4 => (H.set_ne _ _ e4).trans (k a e1 e2 e3)), SA.addNode_frame hv hn hd hs (fun a e1 e2 e3 e4 => (H.set_ne _ _ e4).trans (k a e1 e2 e3))⟩
        simp only [upd_self]; rfl
    · rintro σ' ⟨l, h', L', rfl, e, S', F'⟩
      exact look e ⟨h', fun _ _ e => e, hq h' L' S' F'⟩
noncomputable def S_add : Spec := fun args Q h => Ex5 fun x v L T ps => All7 (args = .ref x :: .str v 0 :: strVs ps) (SA 145 48 h x L T) (T.names.length + ps.length < 1000) (T.blank) (T.ready = none) ((∀ w, (T.succ w).length + ps.length ≤ 10000)) (∀ h' L', SA 145 48 h' x L' (addT T v ps) → Frame h h' (L.fp x T) (L'.fp x (addT T v ps)) → Q .none h')
theorem ok_add (g : Gn) : CallOK g.G 4 (.ref 95) S_add := by
  have h88 := ok_info g
  refine' callOK_def (n := 3) (BS := bsVar [Str.ofString "self", Str.ofString "node"] (Str.ofString "predecessors")) (lk_add g) rfl (cd_add g) rfl rfl (bindOKv2 (fun _ _ => rfl) (fun _ _ _ _ => rfl)) (kind_var (by rfl)) ?r ?s
  case r =>
    intro A L outer hroom hA
    (repeat' (first | (with_reducible first | exact RS_nil | exact R_Break | exact R_Continue | exact R_Pass | exact R_dead (st := .Raise _ _ _) | exact R_dead (st := .Assert _ _ _) | exact R_dead (st := .For _ (.Call (.Attribute _ "items" _) _ _ _) _ _ _) | exact R_Dict | exact allTrue_and_nil | exact allTrue_or_nil | exact RArg_nil | exact RSp_nil | exact RT_nil rfl) | (with_reducible first | apply RS_one | apply RS_consJ (st := .If _ _ _ _) | apply RS_cons | apply R_Return | apply R_If | apply R_Assign_Comp | apply R_Assign_Name | apply R_Assign_Two | apply R_Assign_Item | apply D_Aug_Name | apply D_Aug_Item | apply R_Del | apply R_While | apply D_For | apply R_TryNext | apply R_Expr | apply R_Const | apply gg_COMPILER_FLAG_NAMES | apply gg_NODE_OUT | apply gg_NODE_DONE | apply gg_pretty_flags | apply gg_heappush | apply gg_heappop | apply gg_siftdown | apply gg_siftup | apply gg_law_ups | apply gg_law_falls | apply gg_law_stands | apply gg_law_word | apply gg_law_words | apply gg_law_told | apply gg_law_least | apply gg_law_played | apply gg_NodeInfo | apply gg_CycleError | apply gg_TopologicalSorter | apply gb_range | apply gb_len | apply gb_hex | apply gb_sum | apply gb_min | apply gb_max | apply gb_sorted | apply gb_iter | apply gb_tuple | apply gb_list | apply gb_set | apply gb_bool | apply gb_StopIteration | apply R_Name | apply D_BinOp | apply D_UnaryOp | apply D_cmp2 | apply R_IfExp | apply D_Bool2 | apply R_SliceFrom | apply R_Sub | apply R_Named | apply R_ListComp | apply R_List | apply D_attr_d (st_n2i _) | apply D_st_d (st_n2i _) | apply D_aug_d (st_n2i _) | apply D_attr_d (st_rdy _) | apply D_st_d (st_rdy _) | apply D_aug_d (st_rdy _) | apply D_attr_d (st_npo _) | apply D_st_d (st_npo _) | apply D_aug_d (st_npo _) | apply D_attr_d (st_nfi _) | apply D_st_d (st_nfi _) | apply D_aug_d (st_nfi _) | apply D_attr_s (st_node _) | apply D_st_s (st_node _) | apply D_aug_s (st_node _) | apply D_attr_s (st_npred _) | apply D_st_s (st_npred _) | apply D_aug_s (st_npred _) | apply D_attr_s (st_succ _) | apply D_st_s (st_succ _) | apply D_aug_s (st_succ _) | apply D_method (hst := st_m_info _) (hkp := st_k_get_info _) | apply D_method (hst := st_m_cyc _) (hkp := st_k_find_cycle _) | apply D_method (hst := st_m_prep _) (hkp := st_k_prepare _) | apply D_method (hst := st_m_ready _) (hkp := st_k_get_ready _) | apply D_method (hst := st_m_act _) (hkp := st_k_is_active _) | apply D_setadd (o := .Name "seen" _) | apply D_methodStar (args := [_, .Starred _ _]) (hst := st_b_add _) | apply D_methodStar (args := [.Starred _ _]) (hst := st_b_done _) | apply D_attr_next | apply D_append | apply D_pop | apply D_clear | apply D_get | apply D_join | apply D_split | apply D_len (func := .Name "len" _) | apply D_hex (func := .Name "hex" _) | apply D_sorted (func := .Name "sorted" _) | apply D_iter (func := .Name "iter" _) | apply D_tuple (func := .Name "tuple" _) | apply D_list (func := .Name "list" _) | apply D_set (func := .Name "set" _) | apply D_bool (func := .Name "bool" _) | apply D_sum (func := .Name "sum" _) | apply D_min (func := .Name "min" _) | apply D_max (func := .Name "max" _) | apply D_call (func := .Name "pretty_flags" _) (hk := kk_pretty_flags _) | apply D_call (func := .Name "heappush" _) (hk := kk_heappush _) | apply D_call (func := .Name "heappop" _) (hk := kk_heappop _) | apply D_call (func := .Name "_siftdown" _) (hk := kk_siftdown _) | apply D_call (func := .Name "_siftup" _) (hk := kk_siftup _) | apply D_call (func := .Name "_law_ups" _) (hk := kk_law_ups _) | apply D_call (func := .Name "_law_falls" _) (hk := kk_law_falls _) | apply D_call (func := .Name "_law_stands" _) (hk := kk_law_stands _) | apply D_call (func := .Name "_law_word" _) (hk := kk_law_word _) | apply D_call (func := .Name "_law_words" _) (hk := kk_law_words _) | apply D_call (func := .Name "_law_told" _) (hk := kk_law_told _) | apply D_call (func := .Name "_law_least" _) (hk := kk_law_least _) | apply D_call (func := .Name "_law_played" _) (hk := kk_law_played _) | apply D_call (func := .Name "_NodeInfo" _) (hk := kk_NodeInfo _) | apply D_call (func := .Name "CycleError" _) (hk := kk_CycleError _) | apply D_call (func := .Name "TopologicalSorter" _) (hk := kk_TopologicalSorter _) | apply DB_cmp2 | apply RB_Not | apply RB_Bool | apply allTrue_and | apply allTrue_or | apply RB_If | apply DB_plain | apply RArg_lone | apply RArg_cons | apply RSp_star | apply RSp_cons | apply D_range1 (fn := .Name "range" _) | apply RI_range3 | apply RI_values | apply RI_val | apply RT_one) | assumption | with_unfolding_all rfl | (with_reducible intro _; with_unfolding_all rfl) | decide | exact Room.handled (by assumption) | intro _))
  case s =>
    rintro args Q h ⟨x, v, L, T, ps, rfl, S, hlen, hbl, hrd, hsl, hq⟩
    refine ⟨by simp, by simp [strVs_length]; omega, fun VA hVA => ?_⟩
    simp only [bindsSt_sto, seqM, seqJ, asgM, augM, augItemM, augAttrM, bindM, pureM, varM, exprM, retM, stAttrM, stItemM, iteM, failM, boolM, andB, orB, stTwoM, methM, consM, starM, callM, initS, whileM, forM, compM, putM, delM, testM, newM, listM]
    have nVA := S.new hVA
    have S1 : SA 145 48 (h.set VA (.tup (strVs ps))) x L T := S.keepSet nVA
    have F1 : Frame h (h.set VA (.tup (strVs ps))) (L.fp x T) (L.fp x T) := Frame.fresh hVA
    have hrv : rvOf L T = .none := by unfold rvOf; rw [hrd]
    refine ⟨fun σ' => σ' = sto [("predecessors", .ref VA), ("node", .str v 0), ("self", .ref x)] (h.set VA (.tup (strVs ps))), ?_, ?_⟩
    · refine look rfl (sa_rdy S1 ?_)
      rw [hrv]
      exact ⟨(fun q => by cases q), fun _ => rfl⟩
    · rintro σ' rfl
      generalize hh1 : H.set h VA (.tup (strVs ps)) = h1 at *
      have eVA : h1 VA = some (.tup (strVs ps)) := by rw [← hh1]; exact H.set_self ..
      refine look rfl ⟨v_isInst S1.hx S1.hdx (by rfl), look rfl ⟨x, v, L, T, rfl, S1, by omega, hbl, fun h2 L2 S2 F2 => ?_⟩⟩
      have hv : v ∈ (infoT T v).names := infoT_mem.mpr (.inr rfl)
      dsimp only [sto_mk, sto_put]
      refine look rfl (sa_np S2 hv (look rfl (v_lenTup (F2.get eVA nVA) (by rw [strVs_length]; omega) (v_aAdd (sa_setNp S2 hv fun h3 S3 F3 => look rfl ?_)))))
      have F12 := F2.trans F3
      have eVA3 := F12.get eVA nVA
      have nVA3 := F12.not eVA nVA
      refine v_iterTup eVA3 ?_
      rw [show (infoT T v).np v = T.np v from rfl, strVs_length] at S3
      refine ⟨fun i σ => Ex3 fun l h' L' => All5 (σ = sto l h') (nm l "self" = some (.ref x)) (nm l "node" = some (.str v 0)) (SA 145 48 h' x L' ((ps.take i).foldl (predT v) { infoT T v with np := upd T.np v (T.np v + ps.length) })) (Frame h3 h' (L2.fp x { infoT T v with np := upd T.np v (T.np v + ps.length) }) (L'.fp x ((ps.take i).foldl (predT v) { infoT T v with np := upd T.np v (T.np v + ps.length) }))), ?_, ?_, ?_⟩
      · refine weak_sto ⟨[("self", .ref x), ("node", .str v 0)], h3, L2, rfl, rfl, rfl, by rw [List.take_zero]; exact S3, by rw [List.take_zero]; exact Frame.refl _ _⟩ ⟨rfl, rfl, trivial⟩ fun _ _ e => e
      · rintro i pv σ2 ⟨l, h4, L4, rfl, l1, l2, S4, F4⟩ hi
        have eVA4 := F4.get eVA3 nVA3
        have nVA4 := F4.not eVA3 nVA3
        refine ⟨eVA4, ?_⟩
        have hil : i < ps.length := by
          have := (List.getElem?_eq_some_iff.mp hi).1
          rwa [strVs_length] at this
        have hpv : pv = .str ps[i] 0 := by
          rw [strVs, List.getElem?_map, List.getElem?_eq_getElem hil] at hi
          exact (Option.some.inj hi).symm
        subst hpv
        dsimp only [sto_put]
        obtain ⟨b1, b2, b3, b4, b5, b6⟩ := foldPred (v := v) (ps.take i) { infoT T v with np := upd T.np v (T.np v + ps.length) } (blank_np hv (blank_info hbl))
        have hnl := infoT_len (T := T) (v := v)
        have htk : (ps.take i).length = i := by rw [List.length_take]; omega
        refine look l1 ⟨v_isInst S4.hx S4.hdx (by rfl), look rfl ⟨x, ps[i], L4, _, rfl, S4, ?_, b1, fun h5 L5 S5 F5 => ?_⟩⟩
        · rw [htk] at b2; exact Nat.le_trans b2 (by show (infoT T v).names.length + i ≤ 1000; omega)
        dsimp only [sto_mk, sto_put]
        refine look rfl (sa_succ S5 (infoT_mem.mpr (.inr rfl)) ⟨v_isList (S5.hs _ (infoT_mem.mpr (.inr rfl))), look l2 (sa_addSucc S5 (infoT_mem.mpr (.inr rfl)) ?_ fun h6 S6 F6 => ?_)⟩)
        · have := b3 ps[i]
          rw [htk] at this
          have := hsl ps[i]
          exact Nat.le_trans (b3 ps[i]) (by rw [htk]; show (T.succ ps[i]).length + i ≤ _; omega)
        · have e : ps.take (i + 1) = ps.take i ++ [ps[i]] := by rw [List.take_add_one, List.getElem?_eq_getElem hil]; rfl
          refine weak_sto ⟨[("self", .ref x), ("node", .str v 0)], h6, L5, rfl, rfl, rfl, ?_, ?_⟩ ⟨l1, l2, trivial⟩ fun _ _ e => e
          · rw [e, List.foldl_append]; exact S6
          · rw [e, List.foldl_append]; exact (F4.trans F5).trans F6
      · rintro σ2 ⟨l, h4, L4, rfl, l1, l2, S4, F4⟩
        rw [strVs_length, List.take_length] at S4 F4
        exact ⟨F4.get eVA3 nVA3, h4, fun _ _ e => e, hq h4 L4 S4 ((F1.trans F12).trans F4)⟩
noncomputable def S_ready : Spec := fun args Q h => Ex4 fun x L T rs => All6 (args = [.ref x]) (SA 145 48 h x L T) (T.ready = some rs) ((∀ v ∈ rs, v ∈ T.names)) (rs.length ≤ 10000) (∀ h' L' tp, SA 145 48 h' x L' (readyT T rs) → Frame h h' (L.fp x T) (L'.fp x (readyT T rs)) → h' tp = some (.tup (strVs rs)) → ¬ L'.fp x (readyT T rs) tp → h tp = none → Q (.ref tp) h')
theorem ok_ready (g : Gn) : CallOK g.G 1 (.ref 107) S_ready := by
  refine' callOK_def (n := 0) (BS := bsPlain [Str.ofString "self"]) (lk_get_ready g) rfl (cd_get_ready g) rfl rfl (bindOK1 fun _ => rfl) (kind_plain (by rfl)) ?r ?s
  case r =>
    intro A L outer hroom hA
    (repeat' (first | (with_reducible first | exact RS_nil | exact R_Break | exact R_Continue | exact R_Pass | exact R_dead (st := .Raise _ _ _) | exact R_dead (st := .Assert _ _ _) | exact R_dead (st := .For _ (.Call (.Attribute _ "items" _) _ _ _) _ _ _) | exact R_Dict | exact allTrue_and_nil | exact allTrue_or_nil | exact RArg_nil | exact RSp_nil | exact RT_nil rfl) | (with_reducible first | apply RS_one | apply RS_consJ (st := .If _ _ _ _) | apply RS_cons | apply R_Return | apply R_If | apply R_Assign_Comp | apply R_Assign_Name | apply R_Assign_Two | apply R_Assign_Item | apply D_Aug_Name | apply D_Aug_Item | apply R_Del | apply R_While | apply D_For | apply R_TryNext | apply R_Expr | apply R_Const | apply gg_COMPILER_FLAG_NAMES | apply gg_NODE_OUT | apply gg_NODE_DONE | apply gg_pretty_flags | apply gg_heappush | apply gg_heappop | apply gg_siftdown | apply gg_siftup | apply gg_law_ups | apply gg_law_falls | apply gg_law_stands | apply gg_law_word | apply gg_law_words | apply gg_law_told | apply gg_law_least | apply gg_law_played | apply gg_NodeInfo | apply gg_CycleError | apply gg_TopologicalSorter | apply gb_range | apply gb_len | apply gb_hex | apply gb_sum | apply gb_min | apply gb_max | apply gb_sorted | apply gb_iter | apply gb_tuple | apply gb_list | apply gb_set | apply gb_bool | apply gb_StopIteration | apply R_Name | apply D_BinOp | apply D_UnaryOp | apply D_cmp2 | apply R_IfExp | apply D_Bool2 | apply R_SliceFrom | apply R_Sub | apply R_Named | apply R_ListComp | apply R_List | apply D_attr_d (st_n2i _) | apply D_st_d (st_n2i _) | apply D_aug_d (st_n2i _) | apply D_attr_d (st_rdy _) | apply D_st_d (st_rdy _) | apply D_aug_d (st_rdy _) | apply D_attr_d (st_npo _) | apply D_st_d (st_npo _) | apply D_aug_d (st_npo _) | apply D_attr_d (st_nfi _) | apply D_st_d (st_nfi _) | apply D_aug_d (st_nfi _) | apply D_attr_s (st_node _) | apply D_st_s (st_node _) | apply D_aug_s (st_node _) | apply D_attr_s (st_npred _) | apply D_st_s (st_npred _) | apply D_aug_s (st_npred _) | apply D_attr_s (st_succ _) | apply D_st_s (st_succ _) | apply D_aug_s (st_succ _) | apply D_method (hst := st_m_info _) (hkp := st_k_get_info _) | apply D_method (hst := st_m_cyc _) (hkp := st_k_find_cycle _) | apply D_method (hst := st_m_prep _) (hkp := st_k_prepare _) | apply D_method (hst := st_m_ready _) (hkp := st_k_get_ready _) | apply D_method (hst := st_m_act _) (hkp := st_k_is_active _) | apply D_setadd (o := .Name "seen" _) | apply D_methodStar (args := [_, .Starred _ _]) (hst := st_b_add _) | apply D_methodStar (args := [.Starred _ _]) (hst := st_b_done _) | apply D_attr_next | apply D_append | apply D_pop | apply D_clear | apply D_get | apply D_join | apply D_split | apply D_len (func := .Name "len" _) | apply D_hex (func := .Name "hex" _) | apply D_sorted (func := .Name "sorted" _) | apply D_iter (func := .Name "iter" _) | apply D_tuple (func := .Name "tuple" _) | apply D_list (func := .Name "list" _) | apply D_set (func := .Name "set" _) | apply D_bool (func := .Name "bool" _) | apply D_sum (func := .Name "sum" _) | apply D_min (func := .Name "min" _) | apply D_max (func := .Name "max" _) | apply D_call (func := .Name "pretty_flags" _) (hk := kk_pretty_flags _) | apply D_call (func := .Name "heappush" _) (hk := kk_heappush _) | apply D_call (func := .Name "heappop" _) (hk := kk_heappop _) | apply D_call (func := .Name "_siftdown" _) (hk := kk_siftdown _) | apply D_call (func := .Name "_siftup" _) (hk := kk_siftup _) | apply D_call (func := .Name "_law_ups" _) (hk := kk_law_ups _) | apply D_call (func := .Name "_law_falls" _) (hk := kk_law_falls _) | apply D_call (func := .Name "_law_stands" _) (hk := kk_law_stands _) | apply D_call (func := .Name "_law_word" _) (hk := kk_law_word _) | apply D_call (func := .Name "_law_words" _) (hk := kk_law_words _) | apply D_call (func := .Name "_law_told" _) (hk := kk_law_told _) | apply D_call (func := .Name "_law_least" _) (hk := kk_law_least _) | apply D_call (func := .Name "_law_played" _) (hk := kk_law_played _) | apply D_call (func := .Name "_NodeInfo" _) (hk := kk_NodeInfo _) | apply D_call (func := .Name "CycleError" _) (hk := kk_CycleError _) | apply D_call (func := .Name "TopologicalSorter" _) (hk := kk_TopologicalSorter _) | apply DB_cmp2 | apply RB_Not | apply RB_Bool | apply allTrue_and | apply allTrue_or | apply RB_If | apply DB_plain | apply RArg_lone | apply RArg_cons | apply RSp_star | apply RSp_cons | apply D_range1 (fn := .Name "range" _) | apply RI_range3 | apply RI_values | apply RI_val | apply RT_one) | assumption | with_unfolding_all rfl | (with_reducible intro _; with_unfolding_all rfl) | decide | exact Room.handled (by assumption) | intro _))
  case s =>
    rintro args Q h ⟨x, L, T, rs, rfl, S, hrd, hrs, hl, hq⟩
    refine ⟨rfl, ?_⟩
    simp only [bindsSt_sto, seqM, seqJ, asgM, augM, augItemM, augAttrM, bindM, pureM, varM, exprM, retM, stAttrM, stItemM, iteM, failM, boolM, andB, orB, stTwoM, methM, consM, starM, callM, initS, whileM, forM, compM, putM, delM, testM, newM, listM]
    have hrv : rvOf L T = .ref L.r := by unfold rvOf; rw [hrd]
    refine ⟨fun σ' => σ' = sto [("self", .ref x)] h, ?_, ?_⟩
    · refine look rfl (sa_rdy S ?_)
      rw [hrv]
      exact ⟨(fun q => by cases q), fun _ => rfl⟩
    · rintro σ' rfl
      refine look rfl (sa_rdy S ?_)
      rw [hrv]
      refine v_tuple (S.hr rs hrd).1 (by rw [strVs_length]; omega) fun tp htp => ?_
      rw [sto_h] at htp
      have ntp := S.new htp
      dsimp only [sto_seth, sto_put]
      have S1 : SA 145 48 (h.set tp (.tup (strVs rs))) x L T := S.keepSet ntp
      have F1 : Frame h (h.set tp (.tup (strVs rs))) (L.fp x T) (L.fp x T) := Frame.fresh htp
      have etp : (h.set tp (.tup (strVs rs))) tp = some (.tup (strVs rs)) := H.set_self ..
      generalize h.set tp (.tup (strVs rs)) = h1 at *
      refine look rfl (sa_n2i S1 ?_)
      dsimp only [sto_put]
      refine look rfl (v_iterTup etp ?_)
      refine ⟨fun i σ => Ex2 fun l h' => All6 (σ = sto l h') (nm l "self" = some (.ref x)) (nm l "n2i" = some (.ref L.D)) (nm l "result" = some (.ref tp)) (SA 145 48 h' x L { T with np := fun v => if v ∈ rs.take i then -1 else T.np v }) (Frame h1 h' (L.fp x T) (L.fp x T)), ?_, ?_, ?_⟩
      · refine weak_sto ⟨[("self", .ref x), ("n2i", .ref L.D), ("result", .ref tp)], h1, rfl, rfl, rfl, rfl, ?_, Frame.refl _ _⟩ ⟨rfl, rfl, rfl, trivial⟩ fun _ _ e => e
        simp only [List.take_zero, List.not_mem_nil, if_false]; exact S1
      · rintro i pv σ2 ⟨l, h4, rfl, l1, l2, l3, S4, F4⟩ hi
        refine ⟨F4.get etp ntp, ?_⟩
        have hil : i < rs.length := by
          have := (List.getElem?_eq_some_iff.mp hi).1
          rwa [strVs_length] at this
        have hpv : pv = .str rs[i] 0 := by
          rw [strVs, List.getElem?_map, List.getElem?_eq_getElem hil] at hi
          exact (Option.some.inj hi).symm
        subst hpv
        dsimp only [sto_put]
        have hm : rs[i] ∈ T.names := hrs _ (List.getElem_mem hil)
        refine look l2 (look rfl (sa_item S4 hm (sa_setNp S4 hm fun h5 S5 F5 => ?_)))
        refine weak_sto ⟨[("self", .ref x), ("n2i", .ref L.D), ("result", .ref tp)], h5, rfl, rfl, rfl, rfl, ?_, F4.trans F5⟩ ⟨l1, l2, l3, trivial⟩ fun _ _ e => e
        have e : rs.take (i + 1) = rs.take i ++ [rs[i]] := by rw [List.take_add_one, List.getElem?_eq_getElem hil]; rfl
        have : (fun v => if v ∈ rs.take (i + 1) then (-1 : Int) else T.np v) = upd (fun v => if v ∈ rs.take i then (-1 : Int) else T.np v) rs[i] (-1) := by
          funext v
          rw [e]
          unfold upd
          by_cases q : v = rs[i]
          · rw [if_pos q, if_pos (List.mem_append_right _ (q ▸ .head _))]
          · rw [if_neg q]
            have : v ∈ rs.take i ++ [rs[i]] ↔ v ∈ rs.take i := by rw [List.mem_append, List.mem_singleton]; exact ⟨fun z => z.elim id fun z => absurd z q, .inl⟩
            simp only [this]
        rw [this]; exact S5
      · rintro σ2 ⟨l, h4, rfl, l1, l2, l3, S4, F4⟩
        rw [strVs_length, List.take_length] at S4
        refine ⟨F4.get etp ntp, ?_⟩
        refine look l1 (sa_rdy S4 ?_)
        rw [show rvOf L { T with np := fun v => if v ∈ rs then -1 else T.np v } = .ref L.r from hrv]
        refine ⟨v_isList (S4.hr rs hrd).1, v_clear (S4.hr rs hrd).1 (by rw [strVs_length]; omega) ?_⟩
        have S5 := S4.setR hrd []
        have F5 : Frame h4 (h4.set L.r (.list (strVs []))) (L.fp x T) (L.fp x T) := Frame.set (fp_r hrd)
        dsimp only [sto_seth]
        change SA _ _ (h4.set L.r (.list [])) _ _ _ at S5
        change Frame h4 (h4.set L.r (.list [])) _ _ at F5
        generalize h4.set L.r (.list []) = h5 at *
        refine look l1 (sa_npo S5 (look l3 (v_lenTup ((F4.trans F5).get etp ntp) (by rw [strVs_length]; omega) (v_aAdd (sa_setNpo S5 fun h6 S6 F6 => look l3 ⟨h6, fun _ _ e => e, ?_⟩)))))
        rw [strVs_length] at S6
        have eF : L.fp x { T with np := fun v => if v ∈ rs then -1 else T.np v, ready := some [] } = L.fp x T := fp_setR (T := { T with np := fun v => if v ∈ rs then -1 else T.np v }) hrd
        rw [eF] at F6
        have eF' : L.fp x (readyT T rs) = L.fp x T := eF
        have FF := (F4.trans F5).trans F6
        refine hq h6 L tp S6 ?_ (FF.get etp ntp) ?_ htp
        · rw [eF']; exact F1.trans FF
        · rw [eF']; exact ntp
noncomputable def S_done : Spec := fun args Q h => Ex6 fun x L T rs ns B => All10 (args = .ref x :: strVs ns) (SA 145 48 h x L T) (T.ready = some rs) ((∀ v ∈ ns, v ∈ T.names)) ((∀ v ∈ T.names, ∀ s ∈ T.succ v, s ∈ T.names)) ((∀ v ∈ T.names, (T.succ v).length ≤ B)) (rs.length + (ns.length + 1) * B ≤ 1000000) (ns.length ≤ 1000) ((∀ (i : Nat) (hi : i < ns.length), (doneT T (ns.take i)).np ns[i] = -1)) (∀ h' L', SA 145 48 h' x L' (doneT T ns) → Frame h h' (L.fp x T) (L'.fp x (doneT T ns)) → Q .none h')
theorem ok_done (g : Gn) : CallOK g.G 1 (.ref 128) S_done := by
  refine' callOK_def (n := 0) (BS := bsVar [Str.ofString "self"] (Str.ofString "nodes")) (lk_done g) rfl (cd_done g) rfl rfl (bindOKv1 (fun _ => rfl) (fun _ _ _ => rfl)) (kind_var (by rfl)) ?r ?s
  case r =>
    intro A L outer hroom hA
    (repeat' (first | (with_reducible first | exact RS_nil | exact R_Break | exact R_Continue | exact R_Pass | exact R_dead (st := .Raise _ _ _) | exact R_dead (st := .Assert _ _ _) | exact R_dead (st := .For _ (.Call (.Attribute _ "items" _) _ _ _) _ _ _) | exact R_Dict | exact allTrue_and_nil | exact allTrue_or_nil | exact RArg_nil | exact RSp_nil | exact RT_nil rfl) | (with_reducible first | apply RS_one | apply RS_consJ (st := .If _ _ _ _) | apply RS_cons | apply R_Return | apply R_If | apply R_Assign_Comp | apply R_Assign_Name | apply R_Assign_Two | apply R_Assign_Item | apply D_Aug_Name | apply D_Aug_Item | apply R_Del | apply R_While | apply D_For | apply R_TryNext | apply R_Expr | apply R_Const | apply gg_COMPILER_FLAG_NAMES | apply gg_NODE_OUT | apply gg_NODE_DONE | apply gg_pretty_flags | apply gg_heappush | apply gg_heappop | apply gg_siftdown | apply gg_siftup | apply gg_law_ups | apply gg_law_falls | apply gg_law_stands | apply gg_law_word | apply gg_law_words | apply gg_law_told | apply gg_law_least | apply gg_law_played | apply gg_NodeInfo | apply gg_CycleError | apply gg_TopologicalSorter | apply gb_range | apply gb_len | apply gb_hex | apply gb_sum | apply gb_min | apply gb_max | apply gb_sorted | apply gb_iter | apply gb_tuple | apply gb_list | apply gb_set | apply gb_bool | apply gb_StopIteration | apply R_Name | apply D_BinOp | apply D_UnaryOp | apply D_cmp2 | apply R_IfExp | apply D_Bool2 | apply R_SliceFrom | apply R_Sub | apply R_Named | apply R_ListComp | apply R_List | apply D_attr_d (st_n2i _) | apply D_st_d (st_n2i _) | apply D_aug_d (st_n2i _) | apply D_attr_d (st_rdy _) | apply D_st_d (st_rdy _) | apply D_aug_d (st_rdy _) | apply D_attr_d (st_npo _) | apply D_st_d (st_npo _) | apply D_aug_d (st_npo _) | apply D_attr_d (st_nfi _) | apply D_st_d (st_nfi _) | apply D_aug_d (st_nfi _) | apply D_attr_s (st_node _) | apply D_st_s (st_node _) | apply D_aug_s (st_node _) | apply D_attr_s (st_npred _) | apply D_st_s (st_npred _) | apply D_aug_s (st_npred _) | apply D_attr_s (st_succ _) | apply D_st_s (st_succ _) | apply D_aug_s (st_succ _) | apply D_method (hst := st_m_info _) (hkp := st_k_get_info _) | apply D_method (hst := st_m_cyc _) (hkp := st_k_find_cycle _) | apply D_method (hst := st_m_prep _) (hkp := st_k_prepare _) | apply D_method (hst := st_m_ready _) (hkp := st_k_get_ready _) | apply D_method (hst := st_m_act _) (hkp := st_k_is_active _) | apply D_setadd (o := .Name "seen" _) | apply D_methodStar (args := [_, .Starred _ _]) (hst := st_b_add _) | apply D_methodStar (args := [.Starred _ _]) (hst := st_b_done _) | apply D_attr_next | apply D_append | apply D_pop | apply D_clear | apply D_get | apply D_join | apply D_split | apply D_len (func := .Name "len" _) | apply D_hex (func := .Name "hex" _) | apply D_sorted (func := .Name "sorted" _) | apply D_iter (func := .Name "iter" _) | apply D_tuple (func := .Name "tuple" _) | apply D_list (func := .Name "list" _) | apply D_set (func := .Name "set" _) | apply D_bool (func := .Name "bool" _) | apply D_sum (func := .Name "sum" _) | apply D_min (func := .Name "min" _) | apply D_max (func := .Name "max" _) | apply D_call (func := .Name "pretty_flags" _) (hk := kk_pretty_flags _) | apply D_call (func := .Name "heappush" _) (hk := kk_heappush _) | apply D_call (func := .Name "heappop" _) (hk := kk_heappop _) | apply D_call (func := .Name "_siftdown" _) (hk := kk_siftdown _) | apply D_call (func := .Name "_siftup" _) (hk := kk_siftup _) | apply D_call (func := .Name "_law_ups" _) (hk := kk_law_ups _) | apply D_call (func := .Name "_law_falls" _) (hk := kk_law_falls _) | apply D_call (func := .Name "_law_stands" _) (hk := kk_law_stands _) | apply D_call (func := .Name "_law_word" _) (hk := kk_law_word _) | apply D_call (func := .Name "_law_words" _) (hk := kk_law_words _) | apply D_call (func := .Name "_law_told" _) (hk := kk_law_told _) | apply D_call (func := .Name "_law_least" _) (hk := kk_law_least _) | apply D_call (func := .Name "_law_played" _) (hk := kk_law_played _) | apply D_call (func := .Name "_NodeInfo" _) (hk := kk_NodeInfo _) | apply D_call (func := .Name "CycleError" _) (hk := kk_CycleError _) | apply D_call (func := .Name "TopologicalSorter" _) (hk := kk_TopologicalSorter _) | apply DB_cmp2 | apply RB_Not | apply RB_Bool | apply allTrue_and | apply allTrue_or | apply RB_If | apply DB_plain | apply RArg_lone | apply RArg_cons | apply RSp_star | apply RSp_cons | apply D_range1 (fn := .Name "range" _) | apply RI_range3 | apply RI_values | apply RI_val | apply RT_one) | assumption | with_unfolding_all rfl | (with_reducible intro _; with_unfolding_all rfl) | decide | exact Room.handled (by assumption) | intro _))
  case s =>
    rintro args Q h ⟨x, L, T, rs, ns, B, rfl, S, hrd, hns, hsu, hB, hl, hl2, hnp, hq⟩
    refine ⟨by simp, by simp [strVs_length]; omega, fun VA hVA => ?_⟩
    simp only [bindsSt_sto, seqM, seqJ, asgM, augM, augItemM, augAttrM, bindM, pureM, varM, exprM, retM, stAttrM, stItemM, iteM, failM, boolM, andB, orB, stTwoM, methM, consM, starM, callM, initS, whileM, forM, compM, putM, delM, testM, newM, listM]
    have nVA := S.new hVA
    have S1 : SA 145 48 (h.set VA (.tup (strVs ns))) x L T := S.keepSet nVA
    have F1 : Frame h (h.set VA (.tup (strVs ns))) (L.fp x T) (L.fp x T) := Frame.fresh hVA
    have hrv : rvOf L T = .ref L.r := by unfold rvOf; rw [hrd]
    have eVA : (h.set VA (.tup (strVs ns))) VA = some (.tup (strVs ns)) := H.set_self ..
    refine ⟨fun σ' => σ' = sto [("nodes", .ref VA), ("self", .ref x)] (h.set VA (.tup (strVs ns))), ?_, ?_⟩
    · refine look rfl (sa_rdy S1 ?_)
      rw [hrv]
      exact ⟨(fun q => by cases q), fun _ => rfl⟩
    · rintro σ' rfl
      generalize h.set VA (.tup (strVs ns)) = h1 at *
      have eqfp : ∀ T', T'.names = T.names → T'.ready ≠ none → L.fp x T' = L.fp x T := fun T' e e' => by
        funext a; unfold Lay.fp; rw [e, hrd]; simp [e']
      refine look rfl (sa_n2i S1 ?_)
      dsimp only [sto_put]
      refine look rfl (v_iterTup eVA ?_)
      refine ⟨fun i σ => Ex2 fun l h' => All5 (σ = sto l h') (nm l "self" = some (.ref x)) (nm l "n2i" = some (.ref L.D)) (SA 145 48 h' x L (doneT T (ns.take i))) (Frame h1 h' (L.fp x T) (L.fp x T)), ?_, ?_, ?_⟩
      · exact weak_sto ⟨[("self", .ref x), ("n2i", .ref L.D)], h1, rfl, rfl, rfl, S1, Frame.refl _ _⟩ ⟨rfl, rfl, trivial⟩ fun _ _ e => e
      · rintro i pv σ2 ⟨l, h4, rfl, l1, l2, S4, F4⟩ hi
        refine ⟨F4.get eVA nVA, ?_⟩
        have hil : i < ns.length := by
          have := (List.getElem?_eq_some_iff.mp hi).1
          rwa [strVs_length] at this
        have hpv : pv = .str ns[i] 0 := by
          rw [strVs, List.getElem?_map, List.getElem?_eq_getElem hil] at hi
          exact (Option.some.inj hi).symm
        subst hpv
        obtain ⟨a1, a2, a3, a4, rs1, a5, a6⟩ := foldDone (B := B) (ns.take i) T rs hrd (fun v hv => hns v (List.mem_of_mem_take hv)) hB
        have hm : ns[i] ∈ (doneT T (ns.take i)).names := by rw [a1]; exact hns _ (List.getElem_mem hil)
        have hnpi := hnp i hil
        have etk : ns.take (i + 1) = ns.take i ++ [ns[i]] := by rw [List.take_add_one, List.getElem?_eq_getElem hil]; rfl
        have eD : doneT T (ns.take (i + 1)) = done1 (doneT T (ns.take i)) ns[i] := by unfold doneT; rw [etk, List.foldl_append]; rfl
        have hlen1 : rs1.length + B ≤ 1000000 := by
          have h1 : (ns.take i).length = i := by rw [List.length_take]; omega
          have h2 : (i + 1) * B ≤ (ns.length + 1) * B := Nat.mul_le_mul_right _ (by omega)
          rw [h1] at a6
          rw [Nat.succ_mul] at h2
          omega
        generalize hTi : doneT T (ns.take i) = Ti at *
        have fpi : L.fp x Ti = L.fp x T := eqfp Ti a1 (by rw [a5]; exact (fun q => by cases q))
        dsimp only [sto_put]
        refine ⟨fun σ' => σ' = sto (("nodeinfo", .ref (L.na ns[i])) :: ("node", .str ns[i] 0) :: l) h4, ?_, ?_⟩
        · refine look l2 ⟨sa_isD S4, look rfl (sa_get S4 ?_)⟩
          rw [if_pos hm]
          dsimp only [sto_put]
          exact ⟨(fun q => by cases q), fun _ => rfl⟩
        · rintro σ' rfl
          refine look rfl (sa_np S4 hm ?_)
          rw [hnpi]
          dsimp only [sto_put]
          refine ⟨fun σ' => σ' = sto (("stat", .int (-1) 0) :: ("nodeinfo", .ref (L.na ns[i])) :: ("node", .str ns[i] 0) :: l) h4, ?_, ?_⟩
          · refine look rfl (v_ne (v_tru ?_))
            exact ⟨(fun q => by cases q), fun _ => rfl⟩
          · rintro σ' rfl
            refine look rfl (sa_setNp S4 hm fun h5 S5 F5 => look rfl (sa_succ S5 hm ?_))
            generalize hT5 : { Ti with np := upd Ti.np ns[i] (-2) } = T5 at *
            have n5 : T5.names = Ti.names := by rw [← hT5]
            have s5 : T5.succ = Ti.succ := by rw [← hT5]
            have r5 : T5.ready = some rs1 := by rw [← hT5]; exact a5
            have f5 : T5.nfi = Ti.nfi := by rw [← hT5]
            have e1 : done1 Ti ns[i] = { (T5.succ ns[i]).foldl decT T5 with nfi := Ti.nfi + 1 } := by unfold done1; rw [hT5, s5]
            have hm5 : ns[i] ∈ T5.names := by rw [n5]; exact hm
            have hBi : (T5.succ ns[i]).length ≤ B := by rw [s5, a2]; exact hB _ (a1 ▸ hm)
            rw [fpi] at F5
            refine v_iterList (S5.hs _ hm5) ?_
            refine ⟨fun j σ => Ex2 fun l h' => All5 (σ = sto l h') (nm l "self" = some (.ref x)) (nm l "n2i" = some (.ref L.D)) (SA 145 48 h' x L (((T5.succ ns[i]).take j).foldl decT T5)) (Frame h4 h' (L.fp x T) (L.fp x T)), ?_, ?_, ?_⟩
            · refine weak_sto ⟨[("self", .ref x), ("n2i", .ref L.D)], h5, rfl, rfl, rfl, S5, F5⟩ ⟨l1, l2, trivial⟩ fun _ _ e => e
            · rintro j sv σ2 ⟨l', h6, rfl, k1, k2, S6, F6⟩ hj
              obtain ⟨b1, b2, b3, b4, rs2, b5, b6⟩ := foldDec ((T5.succ ns[i]).take j) T5 rs1 r5
              have hjl : j < (T5.succ ns[i]).length := by
                have := (List.getElem?_eq_some_iff.mp hj).1
                rwa [strVs_length] at this
              have hsv : sv = .str (T5.succ ns[i])[j] 0 := by
                rw [strVs, List.getElem?_map, List.getElem?_eq_getElem hjl] at hj
                exact (Option.some.inj hj).symm
              subst hsv
              have etj : (T5.succ ns[i]).take (j + 1) = (T5.succ ns[i]).take j ++ [(T5.succ ns[i])[j]] := by rw [List.take_add_one, List.getElem?_eq_getElem hjl]; rfl
              have eDj : ((T5.succ ns[i]).take (j + 1)).foldl decT T5 = decT (((T5.succ ns[i]).take j).foldl decT T5) (T5.succ ns[i])[j] := by rw [etj, List.foldl_append]; rfl
              have hms : (T5.succ ns[i])[j] ∈ T5.names := by
                have h1 : (T5.succ ns[i])[j] ∈ T5.succ ns[i] := List.getElem_mem hjl
                generalize (T5.succ ns[i])[j] = sc at h1 ⊢
                rw [s5, a2] at h1
                rw [n5, a1]
                exact hsu _ (hns _ (List.getElem_mem hil)) _ h1
              have hs6 := S6.hs _ (by rw [b1]; exact hm5)
              rw [b2] at hs6
              refine ⟨.inl hs6, ?_⟩
              have hlen2 : rs2.length ≤ 1000000 := by
                rw [List.length_take] at b6
                omega
              generalize hTj : ((T5.succ ns[i]).take j).foldl decT T5 = Tj at *
              generalize (T5.succ ns[i])[j] = sc at *
              have hmj : sc ∈ Tj.names := by rw [b1]; exact hms
              have fpj : L.fp x Tj = L.fp x T := eqfp Tj (b1.trans (n5.trans a1)) (by rw [b5]; exact (fun q => by cases q))
              dsimp only [sto_put]
              refine look k2 (look rfl (sa_item S6 hmj ?_))
              dsimp only [sto_put]
              refine look rfl (sa_np S6 hmj (v_aSub (sa_setNp S6 hmj fun h7 S7 F7 => look rfl (sa_np S7 hmj (v_eq (v_tru ?_))))))
              rw [show ({ Tj with np := upd Tj.np sc (Tj.np sc - 1) } : TS).np sc = Tj.np sc - 1 from upd_self ..]
              rw [fpj] at F7
              refine ⟨fun hz => ?_, fun hz => ?_⟩
              · have hz : Tj.np sc - 1 = 0 := by simpa using hz
                refine look k1 (sa_rdy S7 ?_)
                rw [show rvOf L { Tj with np := upd Tj.np sc (Tj.np sc - 1) } = .ref L.r by unfold rvOf; rw [b5]]
                refine ⟨v_isList (S7.hr rs2 b5).1, look rfl (sa_addReady S7 b5 hlen2 fun h8 S8 F8 => ?_)⟩
                rw [show L.fp x { Tj with np := upd Tj.np sc (Tj.np sc - 1) } = L.fp x T from fpj] at F8
                refine weak_sto ⟨[("self", .ref x), ("n2i", .ref L.D)], h8, rfl, rfl, rfl, ?_, (F6.trans F7).trans F8⟩ ⟨k1, k2, trivial⟩ fun _ _ e => e
                show SA _ _ h8 x L _
                rw [eDj]
                unfold decT
                rw [if_pos hz, b5]
                exact S8
              · have hz : ¬ Tj.np sc - 1 = 0 := by simpa using hz
                refine weak_sto ⟨[("self", .ref x), ("n2i", .ref L.D)], h7, rfl, rfl, rfl, ?_, F6.trans F7⟩ ⟨k1, k2, trivial⟩ fun _ _ e => e
                show SA _ _ h7 x L _
                rw [eDj]
                unfold decT
                rw [if_neg hz]
                exact S7
            · rintro σ2 ⟨l', h6, rfl, k1, k2, S6, F6⟩
              rw [strVs_length, List.take_length] at S6
              obtain ⟨b1, b2, b3, b4, rs2, b5, b6⟩ := foldDec (T5.succ ns[i]) T5 rs1 r5
              have hs6 := S6.hs _ (by rw [b1]; exact hm5)
              rw [b2] at hs6
              refine ⟨.inl hs6, ?_⟩
              rw [e1] at eD
              generalize hTj : (T5.succ ns[i]).foldl decT T5 = Tj at *
              have fpj : L.fp x Tj = L.fp x T := eqfp Tj (b1.trans (n5.trans a1)) (by rw [b5]; exact (fun q => by cases q))
              refine look k1 (sa_nfi S6 (v_aAdd (sa_setNfi S6 fun h7 S7 F7 => ?_)))
              rw [fpj] at F7
              rw [b4, f5] at S7
              exact weak_sto ⟨[("self", .ref x), ("n2i", .ref L.D)], h7, rfl, rfl, rfl, by show SA _ _ h7 x L _; rw [eD]; exact S7, (F4.trans F6).trans F7⟩ ⟨k1, k2, trivial⟩ fun _ _ e => e
      · rintro σ2 ⟨l, h4, rfl, l1, l2, S4, F4⟩
        rw [strVs_length, List.take_length] at S4
        obtain ⟨a1, a2, a3, a4, rs1, a5, a6⟩ := foldDone (B := B) ns T rs hrd hns hB
        refine ⟨F4.get eVA nVA, h4, fun _ _ e => e, hq h4 L S4 ?_⟩
        rw [eqfp (doneT T ns) a1 (by rw [a5]; exact (fun q => by cases q))]
        exact F1.trans F4
theorem at_rev {a : Value} {r : List Value} (hl : r.length < 2 ^ 61) : at? (a :: r).reverse (-1) = some a := by
  have hl : r.length < 2305843009213693952 := hl
  unfold at?
  rw [if_neg (by decide), if_pos ⟨by decide, by rw [List.length_reverse, List.length_cons]; omega⟩]
  have : ((-1 : Int) + ((a :: r).reverse.length : Int)).toNat = r.length := by rw [List.length_reverse, List.length_cons]; omega
  rw [this, List.reverse_cons, List.getElem?_append_right (by simp)]
  simp
set_option genInjectivity false in
structure DL (l : List (Str × Value)) (D SL IL SS ND : Addr) : Prop where
  a : nm l "n2i" = some (.ref D)
  b : nm l "stack" = some (.ref SL)
  c : nm l "itstack" = some (.ref IL)
  d : nm l "seen" = some (.ref SS)
  e : nm l "node2stacki" = some (.ref ND)
noncomputable abbrev dl0 (D SL IL SS ND : Addr) : List (Str × Value) := [("n2i", .ref D), ("stack", .ref SL), ("itstack", .ref IL), ("seen", .ref SS), ("node2stacki", .ref ND)]
theorem DL.of {D SL IL SS ND : Addr} : DL (dl0 D SL IL SS ND) D SL IL SS ND := ⟨rfl, rfl, rfl, rfl, rfl⟩
theorem DL.of' {D SL IL SS ND : Addr} {v : Value} : DL (("node", v) :: dl0 D SL IL SS ND) D SL IL SS ND := ⟨rfl, rfl, rfl, rfl, rfl⟩
theorem DL.cons {l : List (Str × Value)} {D SL IL SS ND : Addr} {v : Value} (d : DL l D SL IL SS ND) : DL (("node", v) :: l) D SL IL SS ND := ⟨d.a, d.b, d.c, d.d, d.e⟩
theorem DL.all {l : List (Str × Value)} {D SL IL SS ND : Addr} {h : H} (d : DL l D SL IL SS ND) : AllIn (sto l h) (dl0 D SL IL SS ND) := ⟨d.a, d.b, d.c, d.d, d.e, trivial⟩
theorem DL.all' {l : List (Str × Value)} {D SL IL SS ND : Addr} {h : H} {v : Value} (d : DL l D SL IL SS ND) (hv : nm l "node" = some v) : AllIn (sto l h) (("node", v) :: dl0 D SL IL SS ND) := ⟨hv, d.a, d.b, d.c, d.d, d.e, trivial⟩
noncomputable def S_cyc : Spec := fun args Q h => Ex3 fun x L T => All7 (args = [.ref x]) (SA 145 48 h x L T) (T.names.length ≤ 1000) ((∀ v ∈ T.names, ∀ s ∈ T.succ v, s ∈ T.names)) ((∀ v ∈ T.names, (T.succ v).length ≤ 100000)) (((∃ fin, Topo T.succ fin ∧ fin.Nodup ∧ ∀ v ∈ T.names, v ∈ fin) → Q .none h)) ((∀ v ∈ T.names, Reach T.succ v v → ∀ c xs, h c = none → 0 < xs.length → xs.length ≤ 5000 → Q (.ref c) (h.set c (.list xs))))
theorem ok_cyc (g : Gn) : CallOK g.G 1 (.ref 135) S_cyc := by
  refine' callOK_def (n := 0) (BS := bsPlain [Str.ofString "self"]) (lk_find_cycle g) rfl (cd_find_cycle g) rfl rfl (bindOK1 fun _ => rfl) (kind_plain (by rfl)) ?r ?s
  case r =>
    intro A L outer hroom hA
    (repeat' (first | (with_reducible first | exact RS_nil | exact R_Break | exact R_Continue | exact R_Pass | exact R_dead (st := .Raise _ _ _) | exact R_dead (st := .Assert _ _ _) | exact R_dead (st := .For _ (.Call (.Attribute _ "items" _) _ _ _) _ _ _) | exact R_Dict | exact allTrue_and_nil | exact allTrue_or_nil | exact RArg_nil | exact RSp_nil | exact RT_nil rfl) | (with_reducible first | apply RS_one | apply RS_consJ (st := .If _ _ _ _) | apply RS_cons | apply R_Return | apply R_If | apply R_Assign_Comp | apply R_Assign_Name | apply R_Assign_Two | apply R_Assign_Item | apply D_Aug_Name | apply D_Aug_Item | apply R_Del | apply R_While | apply D_For | apply R_TryNext | apply R_Expr | apply R_Const | apply gg_COMPILER_FLAG_NAMES | apply gg_NODE_OUT | apply gg_NODE_DONE | apply gg_pretty_flags | apply gg_heappush | apply gg_heappop | apply gg_siftdown | apply gg_siftup | apply gg_law_ups | apply gg_law_falls | apply gg_law_stands | apply gg_law_word | apply gg_law_words | apply gg_law_told | apply gg_law_least | apply gg_law_played | apply gg_NodeInfo | apply gg_CycleError | apply gg_TopologicalSorter | apply gb_range | apply gb_len | apply gb_hex | apply gb_sum | apply gb_min | apply gb_max | apply gb_sorted | apply gb_iter | apply gb_tuple | apply gb_list | apply gb_set | apply gb_bool | apply gb_StopIteration | apply R_Name | apply D_BinOp | apply D_UnaryOp | apply D_cmp2 | apply R_IfExp | apply D_Bool2 | apply R_SliceFrom | apply R_Sub | apply R_Named | apply R_ListComp | apply R_List | apply D_attr_d (st_n2i _) | apply D_st_d (st_n2i _) | apply D_aug_d (st_n2i _) | apply D_attr_d (st_rdy _) | apply D_st_d (st_rdy _) | apply D_aug_d (st_rdy _) | apply D_attr_d (st_npo _) | apply D_st_d (st_npo _) | apply D_aug_d (st_npo _) | apply D_attr_d (st_nfi _) | apply D_st_d (st_nfi _) | apply D_aug_d (st_nfi _) | apply D_attr_s (st_node _) | apply D_st_s (st_node _) | apply D_aug_s (st_node _) | apply D_attr_s (st_npred _) | apply D_st_s (st_npred _) | apply D_aug_s (st_npred _) | apply D_attr_s (st_succ _) | apply D_st_s (st_succ _) | apply D_aug_s (st_succ _) | apply D_method (hst := st_m_info _) (hkp := st_k_get_info _) | apply D_method (hst := st_m_cyc _) (hkp := st_k_find_cycle _) | apply D_method (hst := st_m_prep _) (hkp := st_k_prepare _) | apply D_method (hst := st_m_ready _) (hkp := st_k_get_ready _) | apply D_method (hst := st_m_act _) (hkp := st_k_is_active _) | apply D_setadd (o := .Name "seen" _) | apply D_methodStar (args := [_, .Starred _ _]) (hst := st_b_add _) | apply D_methodStar (args := [.Starred _ _]) (hst := st_b_done _) | apply D_attr_next | apply D_append | apply D_pop | apply D_clear | apply D_get | apply D_join | apply D_split | apply D_len (func := .Name "len" _) | apply D_hex (func := .Name "hex" _) | apply D_sorted (func := .Name "sorted" _) | apply D_iter (func := .Name "iter" _) | apply D_tuple (func := .Name "tuple" _) | apply D_list (func := .Name "list" _) | apply D_set (func := .Name "set" _) | apply D_bool (func := .Name "bool" _) | apply D_sum (func := .Name "sum" _) | apply D_min (func := .Name "min" _) | apply D_max (func := .Name "max" _) | apply D_call (func := .Name "pretty_flags" _) (hk := kk_pretty_flags _) | apply D_call (func := .Name "heappush" _) (hk := kk_heappush _) | apply D_call (func := .Name "heappop" _) (hk := kk_heappop _) | apply D_call (func := .Name "_siftdown" _) (hk := kk_siftdown _) | apply D_call (func := .Name "_siftup" _) (hk := kk_siftup _) | apply D_call (func := .Name "_law_ups" _) (hk := kk_law_ups _) | apply D_call (func := .Name "_law_falls" _) (hk := kk_law_falls _) | apply D_call (func := .Name "_law_stands" _) (hk := kk_law_stands _) | apply D_call (func := .Name "_law_word" _) (hk := kk_law_word _) | apply D_call (func := .Name "_law_words" _) (hk := kk_law_words _) | apply D_call (func := .Name "_law_told" _) (hk := kk_law_told _) | apply D_call (func := .Name "_law_least" _) (hk := kk_law_least _) | apply D_call (func := .Name "_law_played" _) (hk := kk_law_played _) | apply D_call (func := .Name "_NodeInfo" _) (hk := kk_NodeInfo _) | apply D_call (func := .Name "CycleError" _) (hk := kk_CycleError _) | apply D_call (func := .Name "TopologicalSorter" _) (hk := kk_TopologicalSorter _) | apply DB_cmp2 | apply RB_Not | apply RB_Bool | apply allTrue_and | apply allTrue_or | apply RB_If | apply DB_plain | apply RArg_lone | apply RArg_cons | apply RSp_star | apply RSp_cons | apply D_range1 (fn := .Name "range" _) | apply RI_range3 | apply RI_values | apply RI_val | apply RT_one) | assumption | with_unfolding_all rfl | (with_reducible intro _; with_unfolding_all rfl) | decide | exact Room.handled (by assumption) | intro _))
  case s =>
    rintro args Q h ⟨x, L, T, rfl, S, hlen, hcl, hsl, hqn, hqc⟩
    refine ⟨rfl, ?_⟩
    simp only [bindsSt_sto, seqM, seqJ, asgM, augM, augItemM, augAttrM, bindM, pureM, varM, exprM, retM, stAttrM, stItemM, iteM, failM, boolM, andB, orB, stTwoM, methM, consM, starM, callM, initS, whileM, forM, compM, putM, delM, testM, newM, listM]
    refine look rfl (sa_n2i S ⟨by decide, fun SL hSL => ⟨by decide, fun IL hIL => ?_⟩⟩)
    dsimp only [sto_put, sto_seth, sto_h] at hSL hIL ⊢
    have eSI : SL ≠ IL := fun q => by rw [← q, H.set_self] at hIL; cases hIL
    rw [H.set_ne _ _ eSI.symm] at hIL
    show ∀ SS, _ → _
    intro SS hSS
    dsimp only [sto_put, sto_seth, sto_h] at hSS ⊢
    have e1 : SS ≠ IL := fun q => by rw [q, H.set_self] at hSS; cases hSS
    rw [H.set_ne _ _ e1] at hSS
    have e2 : SS ≠ SL := fun q => by rw [q, H.set_self] at hSS; cases hSS
    rw [H.set_ne _ _ e2] at hSS
    refine .inl fun ep ND hND => ?_
    dsimp only [sto_put, sto_seth, sto_h] at hND ⊢
    have e3 : ND ≠ SS := fun q => by rw [q, H.set_self] at hND; cases hND
    rw [H.set_ne _ _ e3] at hND
    have e4 : ND ≠ IL := fun q => by rw [q, H.set_self] at hND; cases hND
    rw [H.set_ne _ _ e4] at hND
    have e5 : ND ≠ SL := fun q => by rw [q, H.set_self] at hND; cases hND
    rw [H.set_ne _ _ e5] at hND
    generalize hh1 : H.set (H.set (H.set (H.set h SL (.list [])) IL (.list [])) SS (.ss [])) ND (.sd [] ep) = h1
    have D0 : Dfs h h1 L SL IL SS ND [] [] := by
      refine ⟨fun a o e => ?_, ?_, ?_, ?_, ⟨ep, ?_⟩, hSL, hIL, hSS, hND, eSI, fun e he => (by cases he)⟩
      · rw [← hh1]; exact H.set_fresh' e hSL hIL hSS hND
      · rw [← hh1, H.set_ne _ _ e5.symm, H.set_ne _ _ e2.symm, H.set_ne _ _ eSI, H.set_self]; rfl
      · rw [← hh1, H.set_ne _ _ e4.symm, H.set_ne _ _ e1.symm, H.set_self]; rfl
      · rw [← hh1, H.set_ne _ _ e3.symm, H.set_self]
      · rw [← hh1, H.set_self]; rfl
    have K0 : Know T [] [] [] none := ⟨by simp, by simp, by simp, trivial, by simp, by simp, trivial, by simp⟩
    have SAof : ∀ {h' : H} {stk : List Ent} {seen : List Str}, Dfs h h' L SL IL SS ND stk seen → SA 145 48 h' x L T := fun {h' stk seen} d => S.keep fun a e => by
      obtain ⟨o, ho⟩ := S.alive e
      rw [ho, d.sub a o ho]
    have hsaI : ∀ {stk : List Ent} {seen fin : List Str} {e : Ent} {c : Option Str}, Know T (e :: stk) seen fin c → ∀ e' ∈ stk, L.sa e'.v ≠ L.sa e.v := fun {stk seen fin e c} k e' he q => by
      have hn := k.ndk
      rw [List.map_cons, List.nodup_cons] at hn
      have := S.inj _ (k.sub _ ((k.sn _).mpr (.inl (List.mem_map_of_mem (.tail _ he))))) _ (k.sub _ ((k.sn _).mpr (.inl (List.mem_map_of_mem (.head _))))) q
      exact hn.1 (this ▸ List.mem_map_of_mem he)
    refine look rfl (v_iterSd (by have := SAof D0; exact this.hD) ?_)
    have hxs : ∀ i : Nat, ((nrefs L T).map fun p => Value.str p.1 0)[i]? = (T.names[i]?).map fun v => .str v 0 := fun i => by simp [nrefs]; rfl
    have hxl : ((nrefs L T).map fun p => Value.str p.1 0).length = T.names.length := by simp [nrefs]
    refine ⟨fun i σ => Ex4 fun l h' seen fin => All5 (σ = sto l h') (DL l L.D SL IL SS ND) (Dfs h h' L SL IL SS ND [] seen) (Know T [] seen fin none) (∀ v ∈ T.names.take i, v ∈ seen), ?_, ?_, ?_⟩
    · exact weak_sto ⟨dl0 L.D SL IL SS ND, h1, [], [], rfl, DL.of, D0, K0, by simp⟩ ⟨rfl, rfl, rfl, rfl, rfl, trivial⟩ fun _ _ e => e
    · rintro i pv σ2 ⟨l, h2, seen, fin, rfl, dl, d, k, hti⟩ hi
      refine ⟨(SAof d).hD, ?_⟩
      rw [hxs i] at hi
      obtain ⟨root, hroot, rfl⟩ : ∃ u, T.names[i]? = some u ∧ pv = .str u 0 := by
        cases q : T.names[i]? with
        | none => rw [q] at hi; cases hi
        | some u => rw [q] at hi; exact ⟨u, rfl, (Option.some.inj hi).symm⟩
      have hrm : root ∈ T.names := List.mem_of_getElem? hroot
      have htk : ∀ s : List Str, (∀ v ∈ T.names.take i, v ∈ s) → root ∈ s → ∀ v ∈ T.names.take (i + 1), v ∈ s := fun s h1 h2 v hv => by
        rw [List.take_add_one, hroot] at hv
        rcases List.mem_append.mp hv with q | q
        · exact h1 v q
        · simp only [Option.toList_some, List.mem_singleton] at q; exact q ▸ h2
      dsimp only [sto_put]
      refine ⟨fun σ' => σ' = sto (("node", .str root 0) :: l) h2 ∧ root ∉ seen, ?_, ?_⟩
      · refine look rfl (look dl.d (v_inSet d.ss (v_tru ⟨fun hs => ?_, fun hs => ⟨rfl, by simpa using hs⟩⟩)))
        have hs : root ∈ seen := by simpa using hs
        exact weak_sto ⟨dl0 L.D SL IL SS ND, h2, seen, fin, rfl, DL.of, d, k, htk seen hti hs⟩ dl.cons.all fun _ _ e => e
      · rintro σ' ⟨rfl, hrs⟩
        refine ⟨fun n σ => Ex6 fun l h' stk seen fin v => All9 (σ = sto l h') (DL l L.D SL IL SS ND) (nm l "node" = some (.str v 0)) (v ∈ T.names) (Dfs h h' L SL IL SS ND stk seen) (Know T stk seen fin (some v)) (n = restOf T.succ seen T.names + remOf T.succ stk) ((∀ u ∈ T.names.take i, u ∈ seen)) ((v = root ∨ root ∈ seen)), restOf T.succ seen T.names + remOf T.succ [], ?_, ?_⟩
        · exact weak_sto ⟨_, h2, [], seen, fin, root, rfl, DL.of' (v := .str root 0), rfl, hrm, d, ⟨k.sn, k.nds, k.sub, k.topo, k.ndk, k.dis, trivial, k.ndf⟩, rfl, hti, .inl rfl⟩ (dl.cons.all' rfl) fun _ _ e => e
        · rintro n σ3 ⟨l, h3, stk, seen, fin, v, rfl, dl, lv, hvn, d, k, rfl, hti, hvr⟩
          refine v_tru ⟨fun _ => ?_, (fun q => by cases q)⟩
          refine ⟨fun σ' => Ex5 fun l h' stk' seen' fin' => All7 (σ' = sto l h') (DL l L.D SL IL SS ND) (Dfs h h' L SL IL SS ND stk' seen') (Know T stk' seen' fin' none) (restOf T.succ seen' T.names + remOf T.succ stk' = restOf T.succ seen T.names + remOf T.succ stk) ((∀ u ∈ T.names.take i, u ∈ seen')) (root ∈ seen'), ?_, ?_⟩
          · refine look lv (look dl.d (v_inSet d.ss (v_tru ⟨fun hs => ?_, fun hs => ?_⟩)))
            · have hs : v ∈ seen := by simpa using hs
              obtain ⟨ep, nd⟩ := d.nd
              refine look lv (look dl.e (v_inSd nd (v_tru ⟨fun hk => ?_, fun hk => ?_⟩)))
              · have hk : v ∈ stk.map (·.v) := by
                  by_cases q : v ∈ stk.map (·.v)
                  · exact q
                  · rw [enumR_none q] at hk; cases hk
                obtain ⟨j, hj, hva⟩ := enumR_at hk
                have hnl : stk.length ≤ 1000 := by
                  have := nodup_len k.ndk (fun u hu => k.sub u ((k.sn u).mpr (.inl hu)))
                  rw [List.length_map] at this; omega
                rw [List.length_map] at hj
                refine look dl.b (look dl.e (look lv (v_itemS nd hva ?_)))
                show sliceFrom _ _ _ _
                unfold sliceFrom
                have hsl' : (sto l h3).h SL = some (.list (strVs (stk.map (·.v)).reverse)) := d.sl
                simp only [hsl']
                refine ⟨by omega, by rw [strVs_length, List.length_reverse, List.length_map]; omega, by rw [strVs_length, List.length_reverse, List.length_map]; omega, fun c1 hc1 => look lv ⟨(show (1 : Nat) ≤ 1000000 by decide), fun c2 hc2 => ?_⟩⟩
                have hc1' : h3 c1 = none := hc1
                dsimp only [sto_seth, sto_h] at hc2 ⊢
                have hcc : c2 ≠ c1 := fun q => by rw [q, H.set_self] at hc2; cases hc2
                rw [H.set_ne _ _ hcc] at hc2
                have g1 : (sto l (H.set (H.set h3 c1 (.list ((strVs (stk.map (·.v)).reverse).drop (Int.toNat j)))) c2 (.list [.str v 0]))).h c1 = some (.list ((strVs (stk.map (·.v)).reverse).drop (Int.toNat j))) := (H.set_ne _ _ hcc.symm).trans (H.set_self ..)
                have g2 : (sto l (H.set (H.set h3 c1 (.list ((strVs (stk.map (·.v)).reverse).drop (Int.toNat j)))) c2 (.list [.str v 0]))).h c2 = some (.list [.str v 0]) := H.set_self ..
                refine v_cat g1 g2 (by rw [List.length_drop, strVs_length, List.length_reverse, List.length_map, List.length_singleton]; omega) fun c hc => ?_
                dsimp only [sto_seth, sto_h] at hc ⊢
                have q1 : c ≠ c2 := fun q => by rw [q, H.set_self] at hc; cases hc
                rw [H.set_ne _ _ q1] at hc
                have q2 : c ≠ c1 := fun q => by rw [q, H.set_self] at hc; cases hc
                rw [H.set_ne _ _ q2] at hc
                have hc0 : h c = none := by
                  cases q : h c with
                  | none => rfl
                  | some o => have := d.sub _ _ q; rw [hc] at this; cases this
                refine ⟨_, ?_, hqc v hvn (k.ring hk) c ((strVs (stk.map (·.v)).reverse).drop (Int.toNat j) ++ [.str v 0]) hc0 (by simp) (by rw [List.length_append, List.length_drop, strVs_length, List.length_reverse, List.length_map, List.length_singleton]; omega)⟩
                intro a o e
                by_cases q : a = c
                · subst q
                  rw [H.set_self] at e ⊢
                  exact e
                · rw [H.set_ne _ _ q] at e ⊢
                  have e := d.sub a o e
                  rw [H.set_fresh (H.set_fresh e hc1') (by rw [H.set_ne _ _ hcc]; exact hc2)]
              · have hk : v ∉ stk.map (·.v) := fun q => by
                  obtain ⟨j, hj, hva⟩ := enumR_at q
                  rw [hva] at hk; cases hk
                refine ⟨l, h3, stk, seen, fin, rfl, dl, d, k.done (((k.sn v).mp hs).resolve_left hk), rfl, hti, ?_⟩
                exact hvr.elim (fun q => q ▸ hs) id
            · have hs : v ∉ seen := by simpa using hs
              have hseen : seen.length ≤ 1000 := Nat.le_trans (nodup_len k.nds k.sub) hlen
              have hvk : v ∉ stk.map (·.v) := fun q => hs ((k.sn v).mpr (.inl q))
              have hnl : stk.length ≤ 1000 := by
                have := nodup_len k.ndk (fun u hu => k.sub u ((k.sn u).mpr (.inl hu)))
                rw [List.length_map] at this; omega
              obtain ⟨ep, nd⟩ := d.nd
              have S3 := SAof d
              refine look dl.d ⟨v_isSet d.ss, look lv (v_addSet d.ss (by omega) (look dl.c ?_))⟩
              rw [if_neg hs]
              dsimp only [sto_seth]
              -- the set is told
              have sub1 : ∀ a o, h3 a = some o → a ≠ SS → (h3.set SS (.ss (seen ++ [v]))) a = some o := fun a o e q => (H.set_ne _ _ q).trans e
              have dS0 : (h3.set SS (.ss (seen ++ [v]))) SS = some (.ss (seen ++ [v])) := H.set_self ..
              have nf : ∀ {a : Addr}, L.fp x T a → a ≠ SL ∧ a ≠ IL ∧ a ≠ SS ∧ a ≠ ND := fun {a} e => by
                obtain ⟨o, ho⟩ := S.alive e
                exact ⟨fun q => (by rw [q, hSL] at ho; cases ho), fun q => (by rw [q, hIL] at ho; cases ho), fun q => (by rw [q, hSS] at ho; cases ho), fun q => (by rw [q, hND] at ho; cases ho)⟩
              have S4 : SA 145 48 (h3.set SS (.ss (seen ++ [v]))) x L T := S3.keepSet fun q => (nf q).2.2.1 rfl
              have iSL : SL ≠ SS := e2.symm
              have iIL : IL ≠ SS := e1.symm
              have iND : ND ≠ SS := e3
              have dSL := sub1 _ _ d.sl iSL
              have dIL := sub1 _ _ d.il iIL
              have dND := sub1 _ _ nd iND
              generalize h3.set SS (.ss (seen ++ [v])) = h4 at *
              refine ⟨v_isList dIL, look dl.a (look lv (sa_item S4 hvn (sa_succ S4 hvn ?_)))⟩
              unfold iterM
              have hsv : (sto l h4).h (L.sa v) = some (.list (strVs (T.succ v))) := S4.hs v hvn
              simp only [hsv]
              intro it hit
              have hit : h4 it = none := hit
              dsimp only [sto_seth]
              unfold nextAttrM
              have g1 : (sto l (h4.set it (.lit (L.sa v) 0))).h it = some (.lit (L.sa v) 0) := H.set_self ..
              simp only [g1]
              intro mw hmw
              dsimp only [sto_seth, sto_h] at hmw ⊢
              have him : mw ≠ it := fun q => by rw [q, H.set_self] at hmw; cases hmw
              rw [H.set_ne _ _ him] at hmw
              have sub2 : ∀ a o, h4 a = some o → (H.set (H.set h4 it (.lit (L.sa v) 0)) mw (.mw it)) a = some o := fun a o e => H.set_fresh (H.set_fresh e hit) (by rw [H.set_ne _ _ him]; exact hmw)
              have gmw : (H.set (H.set h4 it (.lit (L.sa v) 0)) mw (.mw it)) mw = some (.mw it) := H.set_self ..
              have git : (H.set (H.set h4 it (.lit (L.sa v) 0)) mw (.mw it)) it = some (.lit (L.sa v) 0) := (H.set_ne _ _ him.symm).trans (H.set_self ..)
              have d1 := sub2 _ _ dS0
              have dSL := sub2 _ _ dSL
              have dIL := sub2 _ _ dIL
              have dND := sub2 _ _ dND
              have hit3 : h3 it = none := by
                cases q : h3 it with
                | none => rfl
                | some o =>
                  by_cases z : it = SS
                  · rw [z] at hit; rw [hit] at dS0; cases dS0
                  · have := sub1 _ _ q z; rw [hit] at this; cases this
              have hmw3 : h3 mw = none := by
                cases q : h3 mw with
                | none => rfl
                | some o =>
                  by_cases z : mw = SS
                  · rw [z] at hmw; rw [hmw] at dS0; cases dS0
                  · have := sub1 _ _ q z; rw [hmw] at this; cases this
              have sub3 : ∀ a o, h3 a = some o → a ≠ SS → (H.set (H.set h4 it (.lit (L.sa v) 0)) mw (.mw it)) a = some o := fun a o e q => sub2 _ _ (sub1 a o e q)
              generalize H.set (H.set h4 it (.lit (L.sa v) 0)) mw (.mw it) = h5 at *
              refine v_append dIL (by rw [List.length_reverse, List.length_map]; omega) (look dl.b (v_len ((H.set_ne _ _ eSI).trans dSL) (by rw [strVs_length, List.length_reverse, List.length_map]; omega) (look dl.e (look lv (v_setS ((H.set_ne _ _ e4).trans dND) (by rw [enumR_len, List.length_map]; omega) fun ep' => look dl.b ⟨v_isList ((H.set_ne _ _ e5.symm).trans ((H.set_ne _ _ eSI).trans dSL)), look lv (v_append ((H.set_ne _ _ e5.symm).trans ((H.set_ne _ _ eSI).trans dSL)) (by rw [strVs_length, List.length_reverse, List.length_map]; omega) ?_)⟩)))))
              dsimp only [sto_seth]
              have hln : ((strVs (stk.map (·.v)).reverse).length : Int) = ((stk.map (·.v)).length : Int) := by rw [strVs_length, List.length_reverse]
              have k' := k.push (mw := mw) (it := it) hvn hs
              have neSet : ∀ {a o b p}, h5 a = some o → h5 b = some p → o ≠ p → a ≠ b := fun e e' ne q => ne (by rw [q, e'] at e; exact (Option.some.inj e).symm)
              refine ⟨l, _, ⟨v, 0, mw, it⟩ :: stk, seen ++ [v], fin, rfl, dl, d.push hit3 hmw3 hvk (H.set_self ..) ?_ ?_ ⟨ep', ?_⟩ ?_ ?_ ?_, k', ?_, fun u hu => List.mem_append_left _ (hti u hu), ?_⟩
              · exact (H.set_ne _ _ eSI.symm).trans ((H.set_ne _ _ e4.symm).trans (H.set_self ..))
              · exact (H.set_ne _ _ e2).trans ((H.set_ne _ _ e3.symm).trans ((H.set_ne _ _ e1).trans d1))
              · rw [H.set_ne _ _ e5, H.set_self, hln]
              · exact (H.set_ne _ _ (neSet gmw dSL (by intro q; cases q))).trans ((H.set_ne _ _ (neSet gmw dND (by intro q; cases q))).trans ((H.set_ne _ _ (neSet gmw dIL (by intro q; cases q))).trans gmw))
              · exact (H.set_ne _ _ (neSet git dSL (by intro q; cases q))).trans ((H.set_ne _ _ (neSet git dND (by intro q; cases q))).trans ((H.set_ne _ _ (neSet git dIL (by intro q; cases q))).trans git))
              · exact fun a o e z1 z2 z3 z4 => (H.set_ne _ _ z1).trans ((H.set_ne _ _ z4).trans ((H.set_ne _ _ z2).trans (sub3 a o e z3)))
              · rw [rest_push hs S.nd hvn]
                show _ + (((T.succ v).length - 0) + remOf T.succ stk) = _
                omega
              · rcases hvr with rfl | q
                · exact List.mem_append_right _ (.head _)
                · exact List.mem_append_left _ q
          · rintro σ4 ⟨l, h4, stk4, seen4, fin4, rfl, dl, d, k, hm, hti, hrt⟩
            refine ⟨fun m σ => Ex5 fun l h' stk' seen' fin' => All8 (σ = sto l h') (DL l L.D SL IL SS ND) (m = stk'.length) (Dfs h h' L SL IL SS ND stk' seen') (Know T stk' seen' fin' none) (restOf T.succ seen' T.names + remOf T.succ stk' = restOf T.succ seen T.names + remOf T.succ stk) ((∀ u ∈ T.names.take i, u ∈ seen')) (root ∈ seen'), stk4.length, ?_, ?_⟩
            · exact weak_sto ⟨_, h4, stk4, seen4, fin4, rfl, DL.of, rfl, d, k, hm, hti, hrt⟩ dl.all fun _ _ e => e
            · rintro m σ5 ⟨l, h5, stk5, seen5, fin5, rfl, dl, rfl, d, k, hm, hti, hrt⟩
              have hnl : stk5.length ≤ 1000 := by
                have := nodup_len k.ndk (fun u hu => k.sub u ((k.sn u).mpr (.inl hu)))
                rw [List.length_map] at this; omega
              refine look dl.b (v_truList d.sl (by rw [strVs_length, List.length_reverse, List.length_map]; omega) ⟨fun ht => ?_, fun hf => ?_⟩)
              · rw [strVs_length, List.length_reverse, List.length_map] at ht
                match stk5, ht, d, k, hm, hnl with
                | e :: r, _, d, k, hm, hnl =>
                obtain ⟨k1, k2, k3⟩ := d.ents e (.head _)
                have hev : e.v ∈ T.names := k.sub _ ((k.sn _).mpr (.inl (.head _)))
                have hnd := k.ndk
                rw [List.map_cons, List.nodup_cons] at hnd
                unfold tryNextM
                simp only [bindM, varM, pureM, unM]
                refine look dl.c (v_item d.il (at_rev (by rw [List.length_map]; have : r.length < 2305843009213693952 := by rw [List.length_cons] at hnl; omega
                                                          exact this)) ?_)
                have g1 : (sto l h5).h e.mw = some (.mw e.it) := k1
                have g2 : (sto l h5).h e.it = some (.lit (L.sa e.v) e.p) := k2
                have g3 : (sto l h5).h (L.sa e.v) = some (.list (strVs (T.succ e.v))) := (SAof d).hs _ hev
                simp only [g1, g2, g3]
                refine ⟨fun w hw => ?_, fun hw => ?_⟩
                · have hpl : e.p < (T.succ e.v).length := by
                    have := (List.getElem?_eq_some_iff.mp hw).1
                    rwa [strVs_length] at this
                  have hwv : w = .str (T.succ e.v)[e.p] 0 := by
                    rw [strVs, List.getElem?_map, List.getElem?_eq_getElem hpl] at hw
                    exact (Option.some.inj hw).symm
                  subst hwv
                  have k' := k.next hpl
                  have d' := d.next (hsaI k)
                  dsimp only [sto_seth, sto_put]
                  refine ⟨restOf T.succ seen5 T.names + remOf T.succ (⟨e.v, e.p + 1, e.mw, e.it⟩ :: r), ?_, weak_sto ⟨_, _, _, seen5, fin5, (T.succ e.v)[e.p], rfl, DL.of' (v := .str (T.succ e.v)[e.p] 0), rfl, hcl _ hev _ (List.getElem_mem hpl), d', k', rfl, hti, .inr hrt⟩ (dl.cons.all' rfl) fun _ _ e => e⟩
                  rw [← hm]
                  show _ + (((T.succ e.v).length - (e.p + 1)) + remOf T.succ r) < _ + (((T.succ e.v).length - e.p) + remOf T.succ r)
                  omega
                · have hpl : (T.succ e.v).length ≤ e.p := by
                    have := List.getElem?_eq_none_iff.mp hw
                    rwa [strVs_length] at this
                  have k' := k.pop hpl
                  obtain ⟨ep, nd⟩ := d.nd
                  simp only [sto_mk, seqM, delM, bindM, varM, methM, pureM, exprM]
                  have del_get : ∀ {a o}, h5 a = some o → o ≠ .lit (L.sa e.v) e.p → (H.del h5 e.it) a = some o := fun {a o} q z => (H.del_ne _ fun y => z (by rw [y, k2] at q; exact (Option.some.inj q).symm)).trans q
                  have gSL := del_get d.sl (by intro q; cases q)
                  have gIL := del_get d.il (by intro q; cases q)
                  have gND := del_get nd (by intro q; cases q)
                  have gs : ∀ a o, h5 a = some o → a ≠ e.it → (H.del h5 e.it) a = some o := fun a o q z => (H.del_ne _ z).trans q
                  dsimp only [sto_h]
                  generalize H.del h5 e.it = h6 at *
                  refine look dl.e (look dl.b ⟨v_isList gSL, v_pop gSL (by rw [strVs_length, List.length_reverse, List.length_map]; omega) (v := .str e.v 0) (by simp [strVs]) ?_⟩)
                  dsimp only [sto_seth]
                  unfold delItemM
                  have g6 : (sto l (h6.set SL (.list (strVs ((e :: r).map (·.v)).reverse).dropLast))).h ND = some (.sd (enumR ((e :: r).map (·.v))) ep) := (H.set_ne _ _ e5).trans gND
                  simp only [g6]
                  refine ⟨by rw [enumR_len, List.length_map]; omega, ?_, fun ep' => look dl.c ⟨v_isList ((H.set_ne _ _ e4.symm).trans ((H.set_ne _ _ eSI.symm).trans gIL)), v_pop ((H.set_ne _ _ e4.symm).trans ((H.set_ne _ _ eSI.symm).trans gIL)) (by rw [List.length_reverse, List.length_map]; omega) (v := .ref e.mw) (by simp) ?_⟩⟩
                  · obtain ⟨j, hj, hva⟩ := enumR_at (r := (e :: r).map (·.v)) (v := e.v) (.head _)
                    rw [hva]; rfl
                  · dsimp only [sto_seth]
                    have hwo : without (enumR ((e :: r).map (·.v))) e.v = enumR (r.map (·.v)) := enumR_pop hnd.1
                    rw [hwo]
                    refine ⟨r.length, by simp, weak_sto ⟨_, _, r, seen5, e.v :: fin5, rfl, DL.of, rfl, d.pop (hsaI k) hnd.1 ?_ ?_ ⟨ep', ?_⟩ ?_, k', ?_, hti, hrt⟩ dl.all fun _ _ e => e⟩
                    · rw [sto_h, H.set_ne _ _ eSI, H.set_ne _ _ e5.symm, H.set_self]; simp [strVs]
                    · rw [sto_h, H.set_self]; simp
                    · rw [sto_h, H.set_ne _ _ e4, H.set_self]
                    · exact fun a o q z1 z2 z3 z4 => (H.set_ne _ _ z2).trans ((H.set_ne _ _ z3).trans ((H.set_ne _ _ z1).trans (gs a o q z4)))
                    · rw [← hm]
                      show _ = _ + (((T.succ e.v).length - e.p) + remOf T.succ r)
                      omega
              · rw [strVs_length, List.length_reverse, List.length_map] at hf
                have : stk5 = [] := by
                  have : stk5.length = 0 := by simpa using hf
                  exact List.length_eq_zero_iff.mp this
                subst this
                exact weak_sto ⟨dl0 L.D SL IL SS ND, h5, seen5, fin5, rfl, DL.of, d, k, htk seen5 hti hrt⟩ dl.all fun _ _ e => e
    · rintro σ2 ⟨l, h2, seen, fin, rfl, dl, d, k, hti⟩
      refine ⟨(SAof d).hD, h, d.sub, hqn ⟨fin, k.topo, k.ndf, fun v hv => ?_⟩⟩
      rw [hxl, List.take_length] at hti
      exact ((k.sn v).mp (hti v hv)).resolve_left (by simp)
noncomputable def S_prep : Spec := fun args Q h => Ex3 fun x L T => All8 (args = [.ref x]) (SA 145 48 h x L T) (T.names.length ≤ 1000) (T.ready = none) ((∀ v ∈ T.names, ∀ s ∈ T.succ v, s ∈ T.names)) ((∀ v ∈ T.names, (T.succ v).length ≤ 100000)) ((∀ v ∈ T.names, ¬ Reach T.succ v v)) (∀ h' L', SA 145 48 h' x L' (prepT T) → Frame h h' (L.fp x T) (L'.fp x (prepT T)) → Q .none h')
theorem ok_prep (g : Gn) : CallOK g.G 2 (.ref 100) S_prep := by
  have h135 := ok_cyc g
  refine' callOK_def (n := 1) (BS := bsPlain [Str.ofString "self"]) (lk_prepare g) rfl (cd_prepare g) rfl rfl (bindOK1 fun _ => rfl) (kind_plain (by rfl)) ?r ?s
  case r =>
    intro A L outer hroom hA
    (repeat' (first | (with_reducible first | exact RS_nil | exact R_Break | exact R_Continue | exact R_Pass | exact R_dead (st := .Raise _ _ _) | exact R_dead (st := .Assert _ _ _) | exact R_dead (st := .For _ (.Call (.Attribute _ "items" _) _ _ _) _ _ _) | exact R_Dict | exact allTrue_and_nil | exact allTrue_or_nil | exact RArg_nil | exact RSp_nil | exact RT_nil rfl) | (with_reducible first | apply RS_one | apply RS_consJ (st := .If _ _ _ _) | apply RS_cons | apply R_Return | apply R_If | apply R_Assign_Comp | apply R_Assign_Name | apply R_Assign_Two | apply R_Assign_Item | apply D_Aug_Name | apply D_Aug_Item | apply R_Del | apply R_While | apply D_For | apply R_TryNext | apply R_Expr | apply R_Const | apply gg_COMPILER_FLAG_NAMES | apply gg_NODE_OUT | apply gg_NODE_DONE | apply gg_pretty_flags | apply gg_heappush | apply gg_heappop | apply gg_siftdown | apply gg_siftup | apply gg_law_ups | apply gg_law_falls | apply gg_law_stands | apply gg_law_word | apply gg_law_words | apply gg_law_told | apply gg_law_least | apply gg_law_played | apply gg_NodeInfo | apply gg_CycleError | apply gg_TopologicalSorter | apply gb_range | apply gb_len | apply gb_hex | apply gb_sum | apply gb_min | apply gb_max | apply gb_sorted | apply gb_iter | apply gb_tuple | apply gb_list | apply gb_set | apply gb_bool | apply gb_StopIteration | apply R_Name | apply D_BinOp | apply D_UnaryOp | apply D_cmp2 | apply R_IfExp | apply D_Bool2 | apply R_SliceFrom | apply R_Sub | apply R_Named | apply R_ListComp | apply R_List | apply D_attr_d (st_n2i _) | apply D_st_d (st_n2i _) | apply D_aug_d (st_n2i _) | apply D_attr_d (st_rdy _) | apply D_st_d (st_rdy _) | apply D_aug_d (st_rdy _) | apply D_attr_d (st_npo _) | apply D_st_d (st_npo _) | apply D_aug_d (st_npo _) | apply D_attr_d (st_nfi _) | apply D_st_d (st_nfi _) | apply D_aug_d (st_nfi _) | apply D_attr_s (st_node _) | apply D_st_s (st_node _) | apply D_aug_s (st_node _) | apply D_attr_s (st_npred _) | apply D_st_s (st_npred _) | apply D_aug_s (st_npred _) | apply D_attr_s (st_succ _) | apply D_st_s (st_succ _) | apply D_aug_s (st_succ _) | apply D_method (hst := st_m_info _) (hkp := st_k_get_info _) | apply D_method (hst := st_m_cyc _) (hkp := st_k_find_cycle _) | apply D_method (hst := st_m_prep _) (hkp := st_k_prepare _) | apply D_method (hst := st_m_ready _) (hkp := st_k_get_ready _) | apply D_method (hst := st_m_act _) (hkp := st_k_is_active _) | apply D_setadd (o := .Name "seen" _) | apply D_methodStar (args := [_, .Starred _ _]) (hst := st_b_add _) | apply D_methodStar (args := [.Starred _ _]) (hst := st_b_done _) | apply D_attr_next | apply D_append | apply D_pop | apply D_clear | apply D_get | apply D_join | apply D_split | apply D_len (func := .Name "len" _) | apply D_hex (func := .Name "hex" _) | apply D_sorted (func := .Name "sorted" _) | apply D_iter (func := .Name "iter" _) | apply D_tuple (func := .Name "tuple" _) | apply D_list (func := .Name "list" _) | apply D_set (func := .Name "set" _) | apply D_bool (func := .Name "bool" _) | apply D_sum (func := .Name "sum" _) | apply D_min (func := .Name "min" _) | apply D_max (func := .Name "max" _) | apply D_call (func := .Name "pretty_flags" _) (hk := kk_pretty_flags _) | apply D_call (func := .Name "heappush" _) (hk := kk_heappush _) | apply D_call (func := .Name "heappop" _) (hk := kk_heappop _) | apply D_call (func := .Name "_siftdown" _) (hk := kk_siftdown _) | apply D_call (func := .Name "_siftup" _) (hk := kk_siftup _) | apply D_call (func := .Name "_law_ups" _) (hk := kk_law_ups _) | apply D_call (func := .Name "_law_falls" _) (hk := kk_law_falls _) | apply D_call (func := .Name "_law_stands" _) (hk := kk_law_stands _) | apply D_call (func := .Name "_law_word" _) (hk := kk_law_word _) | apply D_call (func := .Name "_law_words" _) (hk := kk_law_words _) | apply D_call (func := .Name "_law_told" _) (hk := kk_law_told _) | apply D_call (func := .Name "_law_least" _) (hk := kk_law_least _) | apply D_call (func := .Name "_law_played" _) (hk := kk_law_played _) | apply D_call (func := .Name "_NodeInfo" _) (hk := kk_NodeInfo _) | apply D_call (func := .Name "CycleError" _) (hk := kk_CycleError _) | apply D_call (func := .Name "TopologicalSorter" _) (hk := kk_TopologicalSorter _) | apply DB_cmp2 | apply RB_Not | apply RB_Bool | apply allTrue_and | apply allTrue_or | apply RB_If | apply DB_plain | apply RArg_lone | apply RArg_cons | apply RSp_star | apply RSp_cons | apply D_range1 (fn := .Name "range" _) | apply RI_range3 | apply RI_values | apply RI_val | apply RT_one) | assumption | with_unfolding_all rfl | (with_reducible intro _; with_unfolding_all rfl) | decide | exact Room.handled (by assumption) | intro _))
  case s =>
    rintro args Q h ⟨x, L, T, rfl, S, hlen, hrd, hcl, hsl, hac, hq⟩
    refine ⟨rfl, ?_⟩
    simp only [bindsSt_sto, seqM, seqJ, asgM, augM, augItemM, augAttrM, bindM, pureM, varM, exprM, retM, stAttrM, stItemM, iteM, failM, boolM, andB, orB, stTwoM, methM, consM, starM, callM, initS, whileM, forM, compM, putM, delM, testM, newM, listM]
    have hrv : rvOf L T = .none := by unfold rvOf; rw [hrd]
    refine ⟨fun σ' => σ' = sto [("self", .ref x)] h, ?_, ?_⟩
    · refine look rfl (sa_rdy S ?_)
      rw [hrv]
      exact ⟨(fun q => by cases q), fun _ => rfl⟩
    · rintro σ' rfl
      refine look rfl (sa_n2i S (v_vals S.hD ?_))
      have hxs : ∀ i : Nat, ((nrefs L T).map (·.2))[i]? = (T.names[i]?).map fun v => .ref (L.na v) := fun i => by simp [nrefs]; rfl
      refine ⟨fun i ys h' => h' = h ∧ ys = strVs ((T.names.take i).filter fun v => T.np v == 0), ⟨rfl, rfl⟩, ?_⟩
      rintro i ys h' ⟨rfl, rfl⟩
      refine ⟨S.hD, fun v hv => ?_, fun hn D hD => ?_⟩
      · rw [hxs i] at hv
        obtain ⟨u, hu, rfl⟩ : ∃ u, T.names[i]? = some u ∧ v = .ref (L.na u) := by
          cases q : T.names[i]? with
          | none => rw [q] at hv; cases hv
          | some u => rw [q] at hv; exact ⟨u, rfl, (Option.some.inj hv).symm⟩
        have hum : u ∈ T.names := List.mem_of_getElem? hu
        have etk : T.names.take (i + 1) = T.names.take i ++ [u] := by rw [List.take_add_one, hu]; rfl
        simp only [comp_sto, sto_put]
        refine look rfl (sa_np S hum (v_eq (v_tru ⟨fun hz => look rfl (sa_node S hum ⟨?_, rfl, ?_⟩), fun hz => ⟨rfl, ?_⟩⟩)))
        · rw [strVs_length]
          have h1 : ((T.names.take i).filter fun v => T.np v == 0).length ≤ (T.names.take i).length := List.length_filter_le _ _
          rw [List.length_take] at h1
          omega
        · rw [strVs_snoc, etk, List.filter_append]
          simp [hz]
        · rw [etk, List.filter_append]
          simp [hz]
      · rw [hxs i] at hn
        have hn : T.names[i]? = none := by
          cases q : T.names[i]? with
          | none => rfl
          | some u => rw [q] at hn; cases hn
        have hti : T.names.take i = T.names := List.take_of_length_le (List.getElem?_eq_none_iff.mp hn)
        rw [hti]
        have nD := S.new hD
        have S1 : SA 145 48 (h'.set D (.list (strVs (T.names.filter fun v => T.np v == 0)))) x L T := S.keepSet nD
        have eD : (h'.set D (.list (strVs (T.names.filter fun v => T.np v == 0)))) D = some (.list (strVs (T.names.filter fun v => T.np v == 0))) := H.set_self ..
        have F1 : Frame h' (h'.set D (.list (strVs (T.names.filter fun v => T.np v == 0)))) (L.fp x T) (L.fp x T) := Frame.fresh hD
        generalize hh1 : H.set h' D (.list (strVs (T.names.filter fun v => T.np v == 0))) = h1 at *
        refine look rfl (sa_setRdy S1 eD nD ?_)
        have S2 := S1.newR eD nD
        have F2 : Frame h' (h1.set L.dx (.nd (tsNd L.D (.ref D) T.npo T.nfi))) (L.fp x T) (Lay.fp { L with r := D } x (prepT T)) := by
          refine ⟨fun a e => ?_, fun a e z => (H.set_ne _ _ fun (q : a = L.dx) => e (q ▸ fp_dx)).trans (F1.out a e z)⟩
          rcases e with e | e | e | ⟨_, e⟩ | e
          · exact .inl (.inl e)
          · exact .inl (.inr (.inl e))
          · exact .inl (.inr (.inr (.inl e)))
          · exact .inr (e ▸ hD)
          · exact .inl (.inr (.inr (.inr (.inr e))))
        have hq2 := hq _ _ S2 F2
        generalize h1.set L.dx (.nd (tsNd L.D (.ref D) T.npo T.nfi)) = h2 at *
        refine look rfl ⟨v_isInst S2.hx S2.hdx (by rfl), x, _, _, rfl, S2, hlen, hcl, hsl, fun _ => ?_, fun v hv hr => absurd hr (hac v hv)⟩
        dsimp only [sto_mk, sto_put]
        refine look rfl ?_
        exact ⟨(fun q => by cases q), fun _ => ⟨h2, fun _ _ e => e, hq2⟩⟩
noncomputable def S_pretty : Spec := fun args Q h => ∃ n : Nat, All4 (args = [.int n 0]) (n < 2 ^ 32) (h 22 = some (.rod cfn)) (Q (.str (prettyS n) 0) h)
theorem ok_pretty (g : Gn) : CallOK g.G 1 (.ref 29) S_pretty := by
  refine' callOK_def (n := 0) (BS := bsPlain [Str.ofString "flags"]) (lk_pretty_flags g) rfl (cd_pretty_flags g) rfl rfl (bindOK1 fun _ => rfl) (kind_plain (by rfl)) ?r ?s
  case r =>
    intro A L outer hroom hA
    (repeat' (first | (with_reducible first | exact RS_nil | exact R_Break | exact R_Continue | exact R_Pass | exact R_dead (st := .Raise _ _ _) | exact R_dead (st := .Assert _ _ _) | exact R_dead (st := .For _ (.Call (.Attribute _ "items" _) _ _ _) _ _ _) | exact R_Dict | exact allTrue_and_nil | exact allTrue_or_nil | exact RArg_nil | exact RSp_nil | exact RT_nil rfl) | (with_reducible first | apply RS_one | apply RS_consJ (st := .If _ _ _ _) | apply RS_cons | apply R_Return | apply R_If | apply R_Assign_Comp | apply R_Assign_Name | apply R_Assign_Two | apply R_Assign_Item | apply D_Aug_Name | apply D_Aug_Item | apply R_Del | apply R_While | apply D_For | apply R_TryNext | apply R_Expr | apply R_Const | apply gg_COMPILER_FLAG_NAMES | apply gg_NODE_OUT | apply gg_NODE_DONE | apply gg_pretty_flags | apply gg_heappush | apply gg_heappop | apply gg_siftdown | apply gg_siftup | apply gg_law_ups | apply gg_law_falls | apply gg_law_stands | apply gg_law_word | apply gg_law_words | apply gg_law_told | apply gg_law_least | apply gg_law_played | apply gg_NodeInfo | apply gg_CycleError | apply gg_TopologicalSorter | apply gb_range | apply gb_len | apply gb_hex | apply gb_sum | apply gb_min | apply gb_max | apply gb_sorted | apply gb_iter | apply gb_tuple | apply gb_list | apply gb_set | apply gb_bool | apply gb_StopIteration | apply R_Name | apply D_BinOp | apply D_UnaryOp | apply D_cmp2 | apply R_IfExp | apply D_Bool2 | apply R_SliceFrom | apply R_Sub | apply R_Named | apply R_ListComp | apply R_List | apply D_attr_d (st_n2i _) | apply D_st_d (st_n2i _) | apply D_aug_d (st_n2i _) | apply D_attr_d (st_rdy _) | apply D_st_d (st_rdy _) | apply D_aug_d (st_rdy _) | apply D_attr_d (st_npo _) | apply D_st_d (st_npo _) | apply D_aug_d (st_npo _) | apply D_attr_d (st_nfi _) | apply D_st_d (st_nfi _) | apply D_aug_d (st_nfi _) | apply D_attr_s (st_node _) | apply D_st_s (st_node _) | apply D_aug_s (st_node _) | apply D_attr_s (st_npred _) | apply D_st_s (st_npred _) | apply D_aug_s (st_npred _) | apply D_attr_s (st_succ _) | apply D_st_s (st_succ _) | apply D_aug_s (st_succ _) | apply D_method (hst := st_m_info _) (hkp := st_k_get_info _) | apply D_method (hst := st_m_cyc _) (hkp := st_k_find_cycle _) | apply D_method (hst := st_m_prep _) (hkp := st_k_prepare _) | apply D_method (hst := st_m_ready _) (hkp := st_k_get_ready _) | apply D_method (hst := st_m_act _) (hkp := st_k_is_active _) | apply D_setadd (o := .Name "seen" _) | apply D_methodStar (args := [_, .Starred _ _]) (hst := st_b_add _) | apply D_methodStar (args := [.Starred _ _]) (hst := st_b_done _) | apply D_attr_next | apply D_append | apply D_pop | apply D_clear | apply D_get | apply D_join | apply D_split | apply D_len (func := .Name "len" _) | apply D_hex (func := .Name "hex" _) | apply D_sorted (func := .Name "sorted" _) | apply D_iter (func := .Name "iter" _) | apply D_tuple (func := .Name "tuple" _) | apply D_list (func := .Name "list" _) | apply D_set (func := .Name "set" _) | apply D_bool (func := .Name "bool" _) | apply D_sum (func := .Name "sum" _) | apply D_min (func := .Name "min" _) | apply D_max (func := .Name "max" _) | apply D_call (func := .Name "pretty_flags" _) (hk := kk_pretty_flags _) | apply D_call (func := .Name "heappush" _) (hk := kk_heappush _) | apply D_call (func := .Name "heappop" _) (hk := kk_heappop _) | apply D_call (func := .Name "_siftdown" _) (hk := kk_siftdown _) | apply D_call (func := .Name "_siftup" _) (hk := kk_siftup _) | apply D_call (func := .Name "_law_ups" _) (hk := kk_law_ups _) | apply D_call (func := .Name "_law_falls" _) (hk := kk_law_falls _) | apply D_call (func := .Name "_law_stands" _) (hk := kk_law_stands _) | apply D_call (func := .Name "_law_word" _) (hk := kk_law_word _) | apply D_call (func := .Name "_law_words" _) (hk := kk_law_words _) | apply D_call (func := .Name "_law_told" _) (hk := kk_law_told _) | apply D_call (func := .Name "_law_least" _) (hk := kk_law_least _) | apply D_call (func := .Name "_law_played" _) (hk := kk_law_played _) | apply D_call (func := .Name "_NodeInfo" _) (hk := kk_NodeInfo _) | apply D_call (func := .Name "CycleError" _) (hk := kk_CycleError _) | apply D_call (func := .Name "TopologicalSorter" _) (hk := kk_TopologicalSorter _) | apply DB_cmp2 | apply RB_Not | apply RB_Bool | apply allTrue_and | apply allTrue_or | apply RB_If | apply DB_plain | apply RArg_lone | apply RArg_cons | apply RSp_star | apply RSp_cons | apply D_range1 (fn := .Name "range" _) | apply RI_range3 | apply RI_values | apply RI_val | apply RT_one) | assumption | with_unfolding_all rfl | (with_reducible intro _; with_unfolding_all rfl) | decide | exact Room.handled (by assumption) | intro _))
  case s =>
    rintro args Q h ⟨n, rfl, hn, hcf, hq⟩
    refine ⟨rfl, ?_⟩
    simp only [bindsSt_sto, seqM, seqJ, asgM, augM, augItemM, augAttrM, bindM, pureM, varM, exprM, retM, stAttrM, stItemM, iteM, failM, boolM, andB, orB, stTwoM, methM, consM, starM, callM, initS, whileM, forM, compM, putM, delM, testM, newM, listM]
    refine ⟨by decide, fun D hD => v_range1 (by decide) (by decide) ?_⟩
    dsimp only [sto_h] at hD
    dsimp only [sto_seth, sto_put]
    have h1 : (h.set D (.list [])) 22 = some (.rod cfn) := H.set_fresh hcf hD
    have sub : ∀ a o, h a = some o → ∀ ys, (h.set D (.list ys)) a = some o := fun a o e ys => H.set_fresh e hD
    have hrl : (rangeVals 0 1 (Int.toNat 32)).length = 32 := by simp [rangeVals]
    refine ⟨fun i σ => ∃ l, All4 (σ = sto l (h.set D (.list (strVs ((bitsTo n i).map nameF))))) (nm l "flags" = some (.int ((n >>> i) <<< i : Nat) 0)) (nm l "names" = some (.ref D)) ((bitsTo n i = [] ∨ (n >>> i) <<< i ≠ 0)), ?_, ?_, ?_⟩
    · exact weak_sto ⟨[("names", .ref D), ("flags", .int n 0)], rfl, by show some _ = some _; simp, rfl, .inl rfl⟩ ⟨rfl, rfl, trivial⟩ fun _ _ e => e
    · rintro i v σ ⟨l, rfl, l1, l2, hne⟩ hi
      refine ⟨trivial, ?_⟩
      have hi32 : i < 32 := by
        have := (List.getElem?_eq_some_iff.mp hi).1
        rwa [hrl] at this
      have hv : v = .int i 0 := by
        unfold rangeVals at hi
        rw [List.getElem?_map, List.getElem?_range (by simpa using hi32)] at hi
        simpa using (Option.some.inj hi).symm
      subst hv
      dsimp only [sto_put]
      refine look rfl (v_shlN (n := 1) (by omega) (by decide) ?_)
      dsimp only [sto_put]
      refine look l1 (look rfl (v_andN (v_tru ?_)))
      rw [bit_take]
      refine ⟨fun ht => ?_, fun hf => ?_⟩
      · have hb : n.testBit i = true := by
          by_cases q : n.testBit i
          · exact q
          · rw [if_neg q] at ht; cases ht
        refine look l2 ⟨v_isList (H.set_self ..), v_isDictR (sub _ _ hcf _), look rfl (look rfl ?_)⟩
        have hnl : (nameF i).length ≤ 30 := nameF_len (by omega)
        refine ⟨?_, v_getR (sub _ _ hcf _) ?_⟩
        · have : ∀ i, i < 32 → (baseText "0x" 16 ((1 <<< i : Nat) : Int)).length ≤ 1000000 := by decide +kernel
          exact this i hi32
        · rw [cfn_at]
          refine v_append (H.set_self ..) (by rw [strVs_length, List.length_map]; have := bitsTo_len n i; omega) ?_
          simp only [sto_seth, H.set_set, strVs_snoc]
          refine look l1 (look rfl (v_aXorN ?_))
          rw [bit_drop hb]
          dsimp only [sto_put]
          refine look rfl (v_tru ?_)
          have eb : (bitsTo n i).map nameF ++ [nameF i] = (bitsTo n (i + 1)).map nameF := by rw [bitsTo_succ, if_pos hb, List.map_append]; rfl
          rw [eb]
          refine ⟨fun hz => ⟨trivial, look l2 (v_join (H.set_self ..) ?_ ⟨h, fun a o e => sub a o e _, ?_⟩)⟩, fun hz => ?_⟩
          · have h2 := sum_len_le (B := 30) ((bitsTo n (i + 1)).map nameF) (by
              intro y hy
              obtain ⟨k, hk, rfl⟩ := List.mem_map.mp hy
              exact nameF_len (Nat.lt_trans (bitsTo_lt hk) (by omega)))
            have h3 := bitsTo_len n (i + 1)
            rw [List.length_map] at h2 ⊢
            have : (Str.ofString ", ").length = 2 := by rfl
            rw [this]; omega
          · have hz : (n >>> (i + 1)) <<< (i + 1) = 0 := by
              have : (((n >>> (i + 1)) <<< (i + 1) : Nat) : Int) = 0 := by simpa using hz
              omega
            have hn0 : n ≠ 0 := by rintro rfl; simp at hb
            have : prettyS n = Txt.join sepS ((bitsTo n (i + 1)).map nameF) := by
              unfold prettyS prettyNames
              rw [if_neg hn0, bitsTo_all hz (by omega)]
            rw [← this]; exact hq
          · have hz : (n >>> (i + 1)) <<< (i + 1) ≠ 0 := by
              intro q
              rw [q] at hz; cases hz
            exact weak_sto ⟨[("names", .ref D), ("flags", .int ((n >>> (i + 1)) <<< (i + 1) : Nat) 0)], rfl, rfl, rfl, .inr hz⟩ ⟨l2, rfl, trivial⟩ fun _ _ e => e
      · have hb : n.testBit i = false := by
          by_cases q : n.testBit i
          · rw [if_pos q] at hf
            have : (1 <<< i : Nat) ≠ 0 := by rw [Nat.one_shiftLeft]; exact Nat.ne_of_gt (Nat.two_pow_pos i)
            have : (((1 <<< i : Nat) : Int) != 0) = true := by simpa using this
            rw [this] at hf; cases hf
          · simpa using q
        have eb : bitsTo n (i + 1) = bitsTo n i := by rw [bitsTo_succ, hb]; rfl
        refine weak_sto ⟨[("names", .ref D), ("flags", .int ((n >>> i) <<< i : Nat) 0)], rfl, by rw [← bit_skip hb]; rfl, rfl, by rw [eb, ← bit_skip hb]; exact hne⟩ ⟨l2, l1, trivial⟩ ?_
        rw [eb]; exact fun _ _ e => e
    · rintro σ ⟨l, rfl, l1, l2, hne⟩
      rw [hrl] at l1 hne ⊢
      have hz : (n >>> 32) <<< 32 = 0 := by rw [Nat.shiftRight_eq_zero _ _ hn]; rfl
      rw [hz] at l1 hne
      have hb : bitsTo n 32 = [] := hne.resolve_right fun q => q rfl
      have hn0 : n = 0 := by
        apply Nat.eq_of_testBit_eq
        intro j
        rw [Nat.zero_testBit]
        by_cases hj : j < 32
        · by_cases q : n.testBit j
          · have : j ∈ bitsTo n 32 := List.mem_filter.mpr ⟨List.mem_range.mpr hj, q⟩
            rw [hb] at this; cases this
          · simpa using q
        · exact Nat.testBit_lt_two_pow (Nat.lt_of_lt_of_le hn (Nat.pow_le_pow_right (by decide) (by omega)))
      subst hn0
      refine ⟨trivial, look l2 ⟨v_isList (H.set_self ..), look l1 ⟨?_, v_append (H.set_self ..) (by rw [hb]; decide) ?_⟩⟩⟩
      · have : (baseText "0x" 16 ((0 : Nat) : Int)).length ≤ 1000000 := by decide +kernel
        exact this
      · simp only [sto_seth, H.set_set, strVs_snoc]
        rw [hb]
        refine ⟨trivial, look l2 (v_join (H.set_self ..) ?_ ⟨h, fun a o e => sub a o e _, hq⟩)⟩
        have : ((([] : List Nat).map nameF ++ [baseText "0x" 16 ((0 : Nat) : Int)]).map (·.length)).sum + (([] : List Nat).map nameF ++ [baseText "0x" 16 ((0 : Nat) : Int)]).length * (Str.ofString ", ").length ≤ 1000000 := by decide +kernel
        exact this
noncomputable def S_word : Spec := fun args Q h => ∃ n : Nat, All3 (args = [.int n 0]) (n < 32) (Q (.str (nameF n) 0) h)
theorem ok_word (g : Gn) : CallOK g.G 1 (.ref 199) S_word := by
  refine' callOK_def (n := 0) (BS := bsPlain [Str.ofString "place"]) (lk__law_word g) rfl (cd__law_word g) rfl rfl (bindOK1 fun _ => rfl) (kind_plain (by rfl)) ?r ?s
  case r =>
    intro A L outer hroom hA
    (repeat' (first | (with_reducible first | exact RS_nil | exact R_Break | exact R_Continue | exact R_Pass | exact R_dead (st := .Raise _ _ _) | exact R_dead (st := .Assert _ _ _) | exact R_dead (st := .For _ (.Call (.Attribute _ "items" _) _ _ _) _ _ _) | exact R_Dict | exact allTrue_and_nil | exact allTrue_or_nil | exact RArg_nil | exact RSp_nil | exact RT_nil rfl) | (with_reducible first | apply RS_one | apply RS_consJ (st := .If _ _ _ _) | apply RS_cons | apply R_Return | apply R_If | apply R_Assign_Comp | apply R_Assign_Name | apply R_Assign_Two | apply R_Assign_Item | apply D_Aug_Name | apply D_Aug_Item | apply R_Del | apply R_While | apply D_For | apply R_TryNext | apply R_Expr | apply R_Const | apply gg_COMPILER_FLAG_NAMES | apply gg_NODE_OUT | apply gg_NODE_DONE | apply gg_pretty_flags | apply gg_heappush | apply gg_heappop | apply gg_siftdown | apply gg_siftup | apply gg_law_ups | apply gg_law_falls | apply gg_law_stands | apply gg_law_word | apply gg_law_words | apply gg_law_told | apply gg_law_least | apply gg_law_played | apply gg_NodeInfo | apply gg_CycleError | apply gg_TopologicalSorter | apply gb_range | apply gb_len | apply gb_hex | apply gb_sum | apply gb_min | apply gb_max | apply gb_sorted | apply gb_iter | apply gb_tuple | apply gb_list | apply gb_set | apply gb_bool | apply gb_StopIteration | apply R_Name | apply D_BinOp | apply D_UnaryOp | apply D_cmp2 | apply R_IfExp | apply D_Bool2 | apply R_SliceFrom | apply R_Sub | apply R_Named | apply R_ListComp | apply R_List | apply D_attr_d (st_n2i _) | apply D_st_d (st_n2i _) | apply D_aug_d (st_n2i _) | apply D_attr_d (st_rdy _) | apply D_st_d (st_rdy _) | apply D_aug_d (st_rdy _) | apply D_attr_d (st_npo _) | apply D_st_d (st_npo _) | apply D_aug_d (st_npo _) | apply D_attr_d (st_nfi _) | apply D_st_d (st_nfi _) | apply D_aug_d (st_nfi _) | apply D_attr_s (st_node _) | apply D_st_s (st_node _) | apply D_aug_s (st_node _) | apply D_attr_s (st_npred _) | apply D_st_s (st_npred _) | apply D_aug_s (st_npred _) | apply D_attr_s (st_succ _) | apply D_st_s (st_succ _) | apply D_aug_s (st_succ _) | apply D_method (hst := st_m_info _) (hkp := st_k_get_info _) | apply D_method (hst := st_m_cyc _) (hkp := st_k_find_cycle _) | apply D_method (hst := st_m_prep _) (hkp := st_k_prepare _) | apply D_method (hst := st_m_ready _) (hkp := st_k_get_ready _) | apply D_method (hst := st_m_act _) (hkp := st_k_is_active _) | apply D_setadd (o := .Name "seen" _) | apply D_methodStar (args := [_, .Starred _ _]) (hst := st_b_add _) | apply D_methodStar (args := [.Starred _ _]) (hst := st_b_done _) | apply D_attr_next | apply D_append | apply D_pop | apply D_clear | apply D_get | apply D_join | apply D_split | apply D_len (func := .Name "len" _) | apply D_hex (func := .Name "hex" _) | apply D_sorted (func := .Name "sorted" _) | apply D_iter (func := .Name "iter" _) | apply D_tuple (func := .Name "tuple" _) | apply D_list (func := .Name "list" _) | apply D_set (func := .Name "set" _) | apply D_bool (func := .Name "bool" _) | apply D_sum (func := .Name "sum" _) | apply D_min (func := .Name "min" _) | apply D_max (func := .Name "max" _) | apply D_call (func := .Name "pretty_flags" _) (hk := kk_pretty_flags _) | apply D_call (func := .Name "heappush" _) (hk := kk_heappush _) | apply D_call (func := .Name "heappop" _) (hk := kk_heappop _) | apply D_call (func := .Name "_siftdown" _) (hk := kk_siftdown _) | apply D_call (func := .Name "_siftup" _) (hk := kk_siftup _) | apply D_call (func := .Name "_law_ups" _) (hk := kk_law_ups _) | apply D_call (func := .Name "_law_falls" _) (hk := kk_law_falls _) | apply D_call (func := .Name "_law_stands" _) (hk := kk_law_stands _) | apply D_call (func := .Name "_law_word" _) (hk := kk_law_word _) | apply D_call (func := .Name "_law_words" _) (hk := kk_law_words _) | apply D_call (func := .Name "_law_told" _) (hk := kk_law_told _) | apply D_call (func := .Name "_law_least" _) (hk := kk_law_least _) | apply D_call (func := .Name "_law_played" _) (hk := kk_law_played _) | apply D_call (func := .Name "_NodeInfo" _) (hk := kk_NodeInfo _) | apply D_call (func := .Name "CycleError" _) (hk := kk_CycleError _) | apply D_call (func := .Name "TopologicalSorter" _) (hk := kk_TopologicalSorter _) | apply DB_cmp2 | apply RB_Not | apply RB_Bool | apply allTrue_and | apply allTrue_or | apply RB_If | apply DB_plain | apply RArg_lone | apply RArg_cons | apply RSp_star | apply RSp_cons | apply D_range1 (fn := .Name "range" _) | apply RI_range3 | apply RI_values | apply RI_val | apply RT_one) | assumption | with_unfolding_all rfl | (with_reducible intro _; with_unfolding_all rfl) | decide | exact Room.handled (by assumption) | intro _))
  case s =>
    rintro args Q h ⟨n, rfl, hn, hq⟩
    refine ⟨rfl, ?_⟩
    simp only [bindsSt_sto, seqM, seqJ, asgM, augM, augItemM, augAttrM, bindM, pureM, varM, exprM, retM, stAttrM, stItemM, iteM, failM, boolM, andB, orB, stTwoM, methM, consM, starM, callM, initS, whileM, forM, compM, putM, delM, testM, newM, listM]
    refine ⟨fun σ' => σ' = sto [("place", .int n 0)] h ∧ ¬ n < 10, ?_, ?_⟩
    · refine look rfl (v_lt (v_tru ⟨fun ht => ⟨by simp, fun D hD => look rfl ?_⟩, fun hf => ⟨rfl, by have := of_decide_eq_false hf; omega⟩⟩))
      have ht : n < 10 := by have := of_decide_eq_true ht; omega
      dsimp only [sto_h] at hD
      dsimp only [sto_seth]
      have ha : at? (strVs wordL) (n : Int) = some (.str (nameF n) 0) := by
        have : ∀ n : Nat, n < 10 → at? (strVs wordL) (n : Int) = some (.str (nameF n) 0) := below_succ (below_succ (below_succ (below_succ (below_succ (below_succ (below_succ (below_succ (below_succ (below_succ below_zero rfl) rfl) rfl) rfl) rfl) rfl) rfl) rfl) rfl) rfl
        exact this n ht
      refine v_item (xs := strVs wordL) (H.set_self ..) ha ⟨h, fun a o e => H.set_fresh e hD, hq⟩
    · rintro σ' ⟨rfl, hf⟩
      obtain ⟨c, hc, he⟩ := word_far hn hf
      refine look rfl (v_mod (by decide) ?_)
      rw [show (n : Int) % 4 = ((n % 4 : Nat) : Int) by omega]
      refine ⟨by omega, by omega, c, by rw [Int.toNat_natCast]; exact hc, ?_⟩
      refine ⟨(show (2 : Nat) + 1 ≤ 1000000 by decide), look rfl (v_fdiv (by decide) (by decide) ?_)⟩
      rw [show (n : Int) / 4 = ((n / 4 : Nat) : Int) by omega]
      refine ⟨by omega, by omega, rfl, ?_⟩
      refine ⟨?_, h, fun _ _ e => e, ?_⟩
      · have : (Str.ofString "0x" ++ (⟨#[c]⟩ : Str)).length + (Txt.mul (Str.ofString "0") ((n / 4 : Nat) : Int)).length ≤ 1000000 := by
          rw [← Str.length_append, he]
          exact Nat.le_trans (nameF_len (by omega)) (by decide)
        exact this
      · rw [he]; exact hq
noncomputable def S_words : Spec := fun args Q h => ∃ m first : Nat, All4 (args = [.int m 0, .int first 0]) (m < 32) (first < 28) (Q (.str (textOf first m) 0) h)
theorem ok_words (g : Gn) : CallOK g.G 2 (.ref 204) S_words := by
  have h199 := ok_word g
  refine' callOK_def (n := 1) (BS := bsPlain [Str.ofString "m", Str.ofString "first"]) (lk__law_words g) rfl (cd__law_words g) rfl rfl (bindOK2 fun _ _ => rfl) (kind_plain (by rfl)) ?r ?s
  case r =>
    intro A L outer hroom hA
    (repeat' (first | (with_reducible first | exact RS_nil | exact R_Break | exact R_Continue | exact R_Pass | exact R_dead (st := .Raise _ _ _) | exact R_dead (st := .Assert _ _ _) | exact R_dead (st := .For _ (.Call (.Attribute _ "items" _) _ _ _) _ _ _) | exact R_Dict | exact allTrue_and_nil | exact allTrue_or_nil | exact RArg_nil | exact RSp_nil | exact RT_nil rfl) | (with_reducible first | apply RS_one | apply RS_consJ (st := .If _ _ _ _) | apply RS_cons | apply R_Return | apply R_If | apply R_Assign_Comp | apply R_Assign_Name | apply R_Assign_Two | apply R_Assign_Item | apply D_Aug_Name | apply D_Aug_Item | apply R_Del | apply R_While | apply D_For | apply R_TryNext | apply R_Expr | apply R_Const | apply gg_COMPILER_FLAG_NAMES | apply gg_NODE_OUT | apply gg_NODE_DONE | apply gg_pretty_flags | apply gg_heappush | apply gg_heappop | apply gg_siftdown | apply gg_siftup | apply gg_law_ups | apply gg_law_falls | apply gg_law_stands | apply gg_law_word | apply gg_law_words | apply gg_law_told | apply gg_law_least | apply gg_law_played | apply gg_NodeInfo | apply gg_CycleError | apply gg_TopologicalSorter | apply gb_range | apply gb_len | apply gb_hex | apply gb_sum | apply gb_min | apply gb_max | apply gb_sorted | apply gb_iter | apply gb_tuple | apply gb_list | apply gb_set | apply gb_bool | apply gb_StopIteration | apply R_Name | apply D_BinOp | apply D_UnaryOp | apply D_cmp2 | apply R_IfExp | apply D_Bool2 | apply R_SliceFrom | apply R_Sub | apply R_Named | apply R_ListComp | apply R_List | apply D_attr_d (st_n2i _) | apply D_st_d (st_n2i _) | apply D_aug_d (st_n2i _) | apply D_attr_d (st_rdy _) | apply D_st_d (st_rdy _) | apply D_aug_d (st_rdy _) | apply D_attr_d (st_npo _) | apply D_st_d (st_npo _) | apply D_aug_d (st_npo _) | apply D_attr_d (st_nfi _) | apply D_st_d (st_nfi _) | apply D_aug_d (st_nfi _) | apply D_attr_s (st_node _) | apply D_st_s (st_node _) | apply D_aug_s (st_node _) | apply D_attr_s (st_npred _) | apply D_st_s (st_npred _) | apply D_aug_s (st_npred _) | apply D_attr_s (st_succ _) | apply D_st_s (st_succ _) | apply D_aug_s (st_succ _) | apply D_method (hst := st_m_info _) (hkp := st_k_get_info _) | apply D_method (hst := st_m_cyc _) (hkp := st_k_find_cycle _) | apply D_method (hst := st_m_prep _) (hkp := st_k_prepare _) | apply D_method (hst := st_m_ready _) (hkp := st_k_get_ready _) | apply D_method (hst := st_m_act _) (hkp := st_k_is_active _) | apply D_setadd (o := .Name "seen" _) | apply D_methodStar (args := [_, .Starred _ _]) (hst := st_b_add _) | apply D_methodStar (args := [.Starred _ _]) (hst := st_b_done _) | apply D_attr_next | apply D_append | apply D_pop | apply D_clear | apply D_get | apply D_join | apply D_split | apply D_len (func := .Name "len" _) | apply D_hex (func := .Name "hex" _) | apply D_sorted (func := .Name "sorted" _) | apply D_iter (func := .Name "iter" _) | apply D_tuple (func := .Name "tuple" _) | apply D_list (func := .Name "list" _) | apply D_set (func := .Name "set" _) | apply D_bool (func := .Name "bool" _) | apply D_sum (func := .Name "sum" _) | apply D_min (func := .Name "min" _) | apply D_max (func := .Name "max" _) | apply D_call (func := .Name "pretty_flags" _) (hk := kk_pretty_flags _) | apply D_call (func := .Name "heappush" _) (hk := kk_heappush _) | apply D_call (func := .Name "heappop" _) (hk := kk_heappop _) | apply D_call (func := .Name "_siftdown" _) (hk := kk_siftdown _) | apply D_call (func := .Name "_siftup" _) (hk := kk_siftup _) | apply D_call (func := .Name "_law_ups" _) (hk := kk_law_ups _) | apply D_call (func := .Name "_law_falls" _) (hk := kk_law_falls _) | apply D_call (func := .Name "_law_stands" _) (hk := kk_law_stands _) | apply D_call (func := .Name "_law_word" _) (hk := kk_law_word _) | apply D_call (func := .Name "_law_words" _) (hk := kk_law_words _) | apply D_call (func := .Name "_law_told" _) (hk := kk_law_told _) | apply D_call (func := .Name "_law_least" _) (hk := kk_law_least _) | apply D_call (func := .Name "_law_played" _) (hk := kk_law_played _) | apply D_call (func := .Name "_NodeInfo" _) (hk := kk_NodeInfo _) | apply D_call (func := .Name "CycleError" _) (hk := kk_CycleError _) | apply D_call (func := .Name "TopologicalSorter" _) (hk := kk_TopologicalSorter _) | apply DB_cmp2 | apply RB_Not | apply RB_Bool | apply allTrue_and | apply allTrue_or | apply RB_If | apply DB_plain | apply RArg_lone | apply RArg_cons | apply RSp_star | apply RSp_cons | apply D_range1 (fn := .Name "range" _) | apply RI_range3 | apply RI_values | apply RI_val | apply RT_one) | assumption | with_unfolding_all rfl | (with_reducible intro _; with_unfolding_all rfl) | decide | exact Room.handled (by assumption) | intro _))
  case s =>
    rintro args Q h ⟨m, first, rfl, hm, hf, hq⟩
    refine ⟨rfl, ?_⟩
    simp only [bindsSt_sto, seqM, seqJ, asgM, augM, augItemM, augAttrM, bindM, pureM, varM, exprM, retM, stAttrM, stItemM, iteM, failM, boolM, andB, orB, stTwoM, methM, consM, starM, callM, initS, whileM, forM, compM, putM, delM, testM, newM, listM]
    refine v_range1 (by decide) (by decide) ⟨fun i ys h' => h' = h ∧ i ≤ 5 ∧ ys = strVs ((bitsTo m i).map fun k => nameF (first + k)), ⟨rfl, by omega, rfl⟩, ?_⟩
    rintro i ys h' ⟨rfl, hi5, rfl⟩
    have hl : (strVs ((bitsTo m i).map fun k => nameF (first + k))).length ≤ 5 := by
      rw [strVs_length, List.length_map]; have := bitsTo_len m i; omega
    refine ⟨trivial, fun v hv => ?_, fun hn D hD => ?_⟩
    · obtain ⟨hi, rfl⟩ := range_at hv
      have hi : i < 5 := hi
      simp only [comp_sto, sto_put]
      refine look rfl (look rfl (v_shrN (v_andN (m := 1) (v_tru ?_))))
      rw [mod2, tru_toNat]
      refine ⟨fun hb => look rfl (look rfl (v_addN ⟨first + i, rfl, by omega, by omega, rfl, by omega, ?_⟩)), fun hb => ⟨rfl, by omega, ?_⟩⟩
      · rw [bitsTo_succ, if_pos hb, List.map_append, strVs_snoc]; rfl
      · rw [bitsTo_succ, if_neg (by rw [hb]; decide)]
    · have hi : 5 ≤ i := range_end hn
      have hi : i = 5 := by omega
      subst hi
      dsimp only [sto_mk, sto_put]
      refine ⟨fun σ' => Ex2 fun l h1 => All5 (σ' = sto l h1) (nm l "words" = some (.ref D)) ((∀ a o, h' a = some o → h1 a = some o)) (h1 D = some (.list (strVs (wordsL m first)))) (m ≠ 0), ?_, ?_⟩
      · refine look rfl ⟨by decide, fun D1 hD1 => ?_⟩
        dsimp only [sto_h] at hD1
        dsimp only [sto_seth]
        have hDD : D1 ≠ D := fun q => by rw [q, H.set_self] at hD1; cases hD1
        have hD1' : h' D1 = none := by rw [H.set_ne _ _ hDD] at hD1; exact hD1
        refine v_eqNil (xs := strVs (wordsL m first)) ((H.set_ne _ _ hDD.symm).trans (H.set_self ..)) (H.set_self ..) (v_tru ⟨fun ht => ?_, fun hf => ?_⟩)
        · have hw : strVs (wordsL m first) = [] := of_decide_eq_true ht
          have hm0 : m = 0 := by
            have h1 : bitsTo m 5 = [] := by simpa [strVs, wordsL] using hw
            have : ∀ m, m < 32 → bitsTo m 5 = [] → m = 0 := by decide +kernel
            exact this m hm h1
          refine ⟨h', fun a o e => H.set_fresh (H.set_fresh e hD) hD1, ?_⟩
          rw [textOf_words hm hf, if_pos hm0] at hq; exact hq
        · refine ⟨_, _, rfl, rfl, fun a o e => H.set_fresh (H.set_fresh e hD) hD1, (H.set_ne _ _ hDD.symm).trans (H.set_self ..), ?_⟩
          rintro rfl
          have : strVs (wordsL 0 first) = [] := rfl
          rw [this] at hf; cases hf
      · rintro σ' ⟨l, h1, rfl, l1, hsub, e, hm0⟩
        refine ⟨trivial, look l1 (v_join e ?_ ⟨h', hsub, ?_⟩)⟩
        · have h2 := sum_len_le (B := 30) (wordsL m first) (by
            intro y hy
            obtain ⟨k, hk, rfl⟩ := List.mem_map.mp hy
            have := bitsTo_lt hk
            exact nameF_len (by omega))
          have h3 := bitsTo_len m 5
          unfold wordsL at h2 ⊢
          rw [List.length_map] at h2 ⊢
          have : (Str.ofString ", ").length = 2 := by rfl
          rw [this]; omega
        · rw [textOf_words hm hf, if_neg hm0] at hq; exact hq
noncomputable def S_ups : Spec := fun args Q h => Ex2 fun s script => All4 (args = [.ref s]) (h s = some (.ro (vInts script))) (script.length ≤ 63) (∀ us, Garden us → ∀ D, h D = none → Q (.ref D) (h.set D (.list (nInts us))))
theorem ok_ups (g : Gn) : CallOK g.G 1 (.ref 182) S_ups := by
  refine' callOK_def (n := 0) (BS := bsPlain [Str.ofString "script"]) (lk__law_ups g) rfl (cd__law_ups g) rfl rfl (bindOK1 fun _ => rfl) (kind_plain (by rfl)) ?r ?s
  case r =>
    intro A L outer hroom hA
    (repeat' (first | (with_reducible first | exact RS_nil | exact R_Break | exact R_Continue | exact R_Pass | exact R_dead (st := .Raise _ _ _) | exact R_dead (st := .Assert _ _ _) | exact R_dead (st := .For _ (.Call (.Attribute _ "items" _) _ _ _) _ _ _) | exact R_Dict | exact allTrue_and_nil | exact allTrue_or_nil | exact RArg_nil | exact RSp_nil | exact RT_nil rfl) | (with_reducible first | apply RS_one | apply RS_consJ (st := .If _ _ _ _) | apply RS_cons | apply R_Return | apply R_If | apply R_Assign_Comp | apply R_Assign_Name | apply R_Assign_Two | apply R_Assign_Item | apply D_Aug_Name | apply D_Aug_Item | apply R_Del | apply R_While | apply D_For | apply R_TryNext | apply R_Expr | apply R_Const | apply gg_COMPILER_FLAG_NAMES | apply gg_NODE_OUT | apply gg_NODE_DONE | apply gg_pretty_flags | apply gg_heappush | apply gg_heappop | apply gg_siftdown | apply gg_siftup | apply gg_law_ups | apply gg_law_falls | apply gg_law_stands | apply gg_law_word | apply gg_law_words | apply gg_law_told | apply gg_law_least | apply gg_law_played | apply gg_NodeInfo | apply gg_CycleError | apply gg_TopologicalSorter | apply gb_range | apply gb_len | apply gb_hex | apply gb_sum | apply gb_min | apply gb_max | apply gb_sorted | apply gb_iter | apply gb_tuple | apply gb_list | apply gb_set | apply gb_bool | apply gb_StopIteration | apply R_Name | apply D_BinOp | apply D_UnaryOp | apply D_cmp2 | apply R_IfExp | apply D_Bool2 | apply R_SliceFrom | apply R_Sub | apply R_Named | apply R_ListComp | apply R_List | apply D_attr_d (st_n2i _) | apply D_st_d (st_n2i _) | apply D_aug_d (st_n2i _) | apply D_attr_d (st_rdy _) | apply D_st_d (st_rdy _) | apply D_aug_d (st_rdy _) | apply D_attr_d (st_npo _) | apply D_st_d (st_npo _) | apply D_aug_d (st_npo _) | apply D_attr_d (st_nfi _) | apply D_st_d (st_nfi _) | apply D_aug_d (st_nfi _) | apply D_attr_s (st_node _) | apply D_st_s (st_node _) | apply D_aug_s (st_node _) | apply D_attr_s (st_npred _) | apply D_st_s (st_npred _) | apply D_aug_s (st_npred _) | apply D_attr_s (st_succ _) | apply D_st_s (st_succ _) | apply D_aug_s (st_succ _) | apply D_method (hst := st_m_info _) (hkp := st_k_get_info _) | apply D_method (hst := st_m_cyc _) (hkp := st_k_find_cycle _) | apply D_method (hst := st_m_prep _) (hkp := st_k_prepare _) | apply D_method (hst := st_m_ready _) (hkp := st_k_get_ready _) | apply D_method (hst := st_m_act _) (hkp := st_k_is_active _) | apply D_setadd (o := .Name "seen" _) | apply D_methodStar (args := [_, .Starred _ _]) (hst := st_b_add _) | apply D_methodStar (args := [.Starred _ _]) (hst := st_b_done _) | apply D_attr_next | apply D_append | apply D_pop | apply D_clear | apply D_get | apply D_join | apply D_split | apply D_len (func := .Name "len" _) | apply D_hex (func := .Name "hex" _) | apply D_sorted (func := .Name "sorted" _) | apply D_iter (func := .Name "iter" _) | apply D_tuple (func := .Name "tuple" _) | apply D_list (func := .Name "list" _) | apply D_set (func := .Name "set" _) | apply D_bool (func := .Name "bool" _) | apply D_sum (func := .Name "sum" _) | apply D_min (func := .Name "min" _) | apply D_max (func := .Name "max" _) | apply D_call (func := .Name "pretty_flags" _) (hk := kk_pretty_flags _) | apply D_call (func := .Name "heappush" _) (hk := kk_heappush _) | apply D_call (func := .Name "heappop" _) (hk := kk_heappop _) | apply D_call (func := .Name "_siftdown" _) (hk := kk_siftdown _) | apply D_call (func := .Name "_siftup" _) (hk := kk_siftup _) | apply D_call (func := .Name "_law_ups" _) (hk := kk_law_ups _) | apply D_call (func := .Name "_law_falls" _) (hk := kk_law_falls _) | apply D_call (func := .Name "_law_stands" _) (hk := kk_law_stands _) | apply D_call (func := .Name "_law_word" _) (hk := kk_law_word _) | apply D_call (func := .Name "_law_words" _) (hk := kk_law_words _) | apply D_call (func := .Name "_law_told" _) (hk := kk_law_told _) | apply D_call (func := .Name "_law_least" _) (hk := kk_law_least _) | apply D_call (func := .Name "_law_played" _) (hk := kk_law_played _) | apply D_call (func := .Name "_NodeInfo" _) (hk := kk_NodeInfo _) | apply D_call (func := .Name "CycleError" _) (hk := kk_CycleError _) | apply D_call (func := .Name "TopologicalSorter" _) (hk := kk_TopologicalSorter _) | apply DB_cmp2 | apply RB_Not | apply RB_Bool | apply allTrue_and | apply allTrue_or | apply RB_If | apply DB_plain | apply RArg_lone | apply RArg_cons | apply RSp_star | apply RSp_cons | apply D_range1 (fn := .Name "range" _) | apply RI_range3 | apply RI_values | apply RI_val | apply RT_one) | assumption | with_unfolding_all rfl | (with_reducible intro _; with_unfolding_all rfl) | decide | exact Room.handled (by assumption) | intro _))
  case s =>
    rintro args Q h ⟨s, script, rfl, hs, hl, hq⟩
    refine ⟨rfl, ?_⟩
    simp only [bindsSt_sto, seqM, seqJ, asgM, augM, augItemM, augAttrM, bindM, pureM, varM, exprM, retM, stAttrM, stItemM, iteM, failM, boolM, andB, orB, stTwoM, methM, consM, starM, callM, initS, whileM, forM, compM, putM, delM, testM, newM, listM]
    refine ⟨by decide, fun D hD => ?_⟩
    dsimp only [sto_h] at hD
    dsimp only [sto_seth, sto_put]
    have sub : ∀ a o, h a = some o → ∀ ys, (h.set D (.list ys)) a = some o := fun a o e ys => H.set_fresh e hD
    refine look rfl ?_
    unfold lenM
    simp only [sto_h, sub s _ hs _]
    refine ⟨by rw [vInts_length]; omega, v_range1 (by rw [vInts_length]; omega) (by rw [vInts_length]; omega) ?_⟩
    rw [vInts_length, Int.toNat_natCast]
    refine ⟨fun i σ => Ex2 fun l ds => All4 (σ = sto l (h.set D (.list (vInts ds)))) (ds.length = 5) (nm l "script" = some (.ref s)) (nm l "draws" = some (.ref D)), ?_, ?_, ?_⟩
    · exact weak_sto ⟨[("draws", .ref D), ("script", .ref s)], [0, 1, 1, 0, 4], rfl, rfl, rfl, rfl⟩ ⟨rfl, rfl, trivial⟩ fun _ _ e => e
    · rintro i v σ ⟨l, ds, rfl, hds, l1, l2⟩ hi
      obtain ⟨his, rfl⟩ := range_at hi
      refine ⟨trivial, ?_⟩
      dsimp only [sto_put]
      refine look l2 (look rfl (v_mod (by decide) ?_))
      rw [show (i : Int) % 5 = ((i % 5 : Nat) : Int) by omega]
      have h5 : i % 5 < ds.length := by omega
      refine v_item (xs := vInts ds) (H.set_self ..) (at_vInts h5 (by omega)) (look l1 (look rfl ?_))
      unfold itemM
      simp only [sto_h, sub s _ hs _]
      refine ⟨_, at_vInts his (by omega), v_aAdd (v_setItem (xs := vInts ds) (H.set_self ..) (setAt_vInts h5 (by omega)) ?_)⟩
      simp only [sto_seth, H.set_set]
      exact weak_sto ⟨[("draws", .ref D), ("script", .ref s)], _, rfl, by rw [List.length_set]; exact hds, rfl, rfl⟩ ⟨l2, l1, trivial⟩ fun _ _ e => e
    · rintro σ ⟨l, ds, rfl, hds, l1, l2⟩
      refine ⟨trivial, v_range1 (by decide) (by decide) ?_⟩
      generalize hus : (List.range 5).map (fun k : Nat => (ds.getD k 0 % ((k : Int) + 1)).toNat) = us
      have hul : us.length = 5 := by rw [← hus]; simp
      have hue : ∀ k, k < 5 → us.getD k 0 = (ds.getD k 0 % ((k : Int) + 1)).toNat := fun k hk => by
        rw [← hus, List.getD_eq_getElem?_getD, List.getElem?_map, List.getElem?_range hk]; rfl
      refine ⟨fun i ys h' => h' = h.set D (.list (vInts ds)) ∧ i ≤ 5 ∧ ys = nInts (us.take i), ⟨rfl, by omega, rfl⟩, ?_⟩
      rintro i ys h' ⟨rfl, hi5, rfl⟩
      refine ⟨trivial, fun v hv => ⟨fun _ => ?_, (fun q => by cases q)⟩, fun hn D1 hD1 => ?_⟩
      · obtain ⟨hi, rfl⟩ := range_at hv
        have hi : i < 5 := hi
        simp only [comp_sto, sto_put]
        refine look (by show nm (frees _ l) "draws" = _; exact nm_frees l2 rfl) (look rfl (v_item (xs := vInts ds) (H.set_self ..) (at_vInts (by omega) (by omega)) (look rfl (v_add (v_mod (by omega) ?_)))))
        refine ⟨by rw [nInts_length, List.length_take]; omega, rfl, by omega, ?_⟩
        have e1 : ds[i] % ((i : Int) + 1) = ((us.getD i 0 : Nat) : Int) := by
          rw [hue i hi]
          have : ds.getD i 0 = ds[i] := by simp [List.getD, show i < ds.length by omega]
          rw [this]
          have := Int.emod_nonneg ds[i] (show (i : Int) + 1 ≠ 0 by omega)
          omega
        rw [e1, nInts_snoc]
        congr 1
        rw [List.take_add_one, List.getD_eq_getElem?_getD, List.getElem?_eq_getElem (by omega)]; rfl
      · have hi : 5 ≤ i := range_end hn
        have hi : i = 5 := by omega
        subst hi
        have hDD : D1 ≠ D := fun q => by rw [q, H.set_self] at hD1; cases hD1
        have hD1' : h D1 = none := by rw [H.set_ne _ _ hDD] at hD1; exact hD1
        refine ⟨_, ?_, hq us ⟨hul, fun k hk => ?_⟩ D1 hD1'⟩
        · intro a o e
          rw [← hul, List.take_length]
          by_cases q : a = D1
          · subst q; rw [H.set_self] at e ⊢; exact e
          · rw [H.set_ne _ _ q] at e ⊢; exact sub _ _ e _
        · rw [hue k hk]
          have := Int.emod_lt_of_pos (ds.getD k 0) (show 0 < (k : Int) + 1 by omega)
          omega
noncomputable def S_falls : Spec := fun args Q h => Ex2 fun u us => All4 (args = [.ref u]) (h u = some (.list (nInts us))) (Garden us) (∀ D, h D = none → Q (.ref D) (h.set D (.list (nInts (fallsOf us)))))
theorem ok_falls (g : Gn) : CallOK g.G 1 (.ref 187) S_falls := by
  refine' callOK_def (n := 0) (BS := bsPlain [Str.ofString "ups"]) (lk__law_falls g) rfl (cd__law_falls g) rfl rfl (bindOK1 fun _ => rfl) (kind_plain (by rfl)) ?r ?s
  case r =>
    intro A L outer hroom hA
    (repeat' (first | (with_reducible first | exact RS_nil | exact R_Break | exact R_Continue | exact R_Pass | exact R_dead (st := .Raise _ _ _) | exact R_dead (st := .Assert _ _ _) | exact R_dead (st := .For _ (.Call (.Attribute _ "items" _) _ _ _) _ _ _) | exact R_Dict | exact allTrue_and_nil | exact allTrue_or_nil | exact RArg_nil | exact RSp_nil | exact RT_nil rfl) | (with_reducible first | apply RS_one | apply RS_consJ (st := .If _ _ _ _) | apply RS_cons | apply R_Return | apply R_If | apply R_Assign_Comp | apply R_Assign_Name | apply R_Assign_Two | apply R_Assign_Item | apply D_Aug_Name | apply D_Aug_Item | apply R_Del | apply R_While | apply D_For | apply R_TryNext | apply R_Expr | apply R_Const | apply gg_COMPILER_FLAG_NAMES | apply gg_NODE_OUT | apply gg_NODE_DONE | apply gg_pretty_flags | apply gg_heappush | apply gg_heappop | apply gg_siftdown | apply gg_siftup | apply gg_law_ups | apply gg_law_falls | apply gg_law_stands | apply gg_law_word | apply gg_law_words | apply gg_law_told | apply gg_law_least | apply gg_law_played | apply gg_NodeInfo | apply gg_CycleError | apply gg_TopologicalSorter | apply gb_range | apply gb_len | apply gb_hex | apply gb_sum | apply gb_min | apply gb_max | apply gb_sorted | apply gb_iter | apply gb_tuple | apply gb_list | apply gb_set | apply gb_bool | apply gb_StopIteration | apply R_Name | apply D_BinOp | apply D_UnaryOp | apply D_cmp2 | apply R_IfExp | apply D_Bool2 | apply R_SliceFrom | apply R_Sub | apply R_Named | apply R_ListComp | apply R_List | apply D_attr_d (st_n2i _) | apply D_st_d (st_n2i _) | apply D_aug_d (st_n2i _) | apply D_attr_d (st_rdy _) | apply D_st_d (st_rdy _) | apply D_aug_d (st_rdy _) | apply D_attr_d (st_npo _) | apply D_st_d (st_npo _) | apply D_aug_d (st_npo _) | apply D_attr_d (st_nfi _) | apply D_st_d (st_nfi _) | apply D_aug_d (st_nfi _) | apply D_attr_s (st_node _) | apply D_st_s (st_node _) | apply D_aug_s (st_node _) | apply D_attr_s (st_npred _) | apply D_st_s (st_npred _) | apply D_aug_s (st_npred _) | apply D_attr_s (st_succ _) | apply D_st_s (st_succ _) | apply D_aug_s (st_succ _) | apply D_method (hst := st_m_info _) (hkp := st_k_get_info _) | apply D_method (hst := st_m_cyc _) (hkp := st_k_find_cycle _) | apply D_method (hst := st_m_prep _) (hkp := st_k_prepare _) | apply D_method (hst := st_m_ready _) (hkp := st_k_get_ready _) | apply D_method (hst := st_m_act _) (hkp := st_k_is_active _) | apply D_setadd (o := .Name "seen" _) | apply D_methodStar (args := [_, .Starred _ _]) (hst := st_b_add _) | apply D_methodStar (args := [.Starred _ _]) (hst := st_b_done _) | apply D_attr_next | apply D_append | apply D_pop | apply D_clear | apply D_get | apply D_join | apply D_split | apply D_len (func := .Name "len" _) | apply D_hex (func := .Name "hex" _) | apply D_sorted (func := .Name "sorted" _) | apply D_iter (func := .Name "iter" _) | apply D_tuple (func := .Name "tuple" _) | apply D_list (func := .Name "list" _) | apply D_set (func := .Name "set" _) | apply D_bool (func := .Name "bool" _) | apply D_sum (func := .Name "sum" _) | apply D_min (func := .Name "min" _) | apply D_max (func := .Name "max" _) | apply D_call (func := .Name "pretty_flags" _) (hk := kk_pretty_flags _) | apply D_call (func := .Name "heappush" _) (hk := kk_heappush _) | apply D_call (func := .Name "heappop" _) (hk := kk_heappop _) | apply D_call (func := .Name "_siftdown" _) (hk := kk_siftdown _) | apply D_call (func := .Name "_siftup" _) (hk := kk_siftup _) | apply D_call (func := .Name "_law_ups" _) (hk := kk_law_ups _) | apply D_call (func := .Name "_law_falls" _) (hk := kk_law_falls _) | apply D_call (func := .Name "_law_stands" _) (hk := kk_law_stands _) | apply D_call (func := .Name "_law_word" _) (hk := kk_law_word _) | apply D_call (func := .Name "_law_words" _) (hk := kk_law_words _) | apply D_call (func := .Name "_law_told" _) (hk := kk_law_told _) | apply D_call (func := .Name "_law_least" _) (hk := kk_law_least _) | apply D_call (func := .Name "_law_played" _) (hk := kk_law_played _) | apply D_call (func := .Name "_NodeInfo" _) (hk := kk_NodeInfo _) | apply D_call (func := .Name "CycleError" _) (hk := kk_CycleError _) | apply D_call (func := .Name "TopologicalSorter" _) (hk := kk_TopologicalSorter _) | apply DB_cmp2 | apply RB_Not | apply RB_Bool | apply allTrue_and | apply allTrue_or | apply RB_If | apply DB_plain | apply RArg_lone | apply RArg_cons | apply RSp_star | apply RSp_cons | apply D_range1 (fn := .Name "range" _) | apply RI_range3 | apply RI_values | apply RI_val | apply RT_one) | assumption | with_unfolding_all rfl | (with_reducible intro _; with_unfolding_all rfl) | decide | exact Room.handled (by assumption) | intro _))
  case s =>
    rintro args Q h ⟨u, us, rfl, hu, ⟨hul, hug⟩, hq⟩
    refine ⟨rfl, ?_⟩
    simp only [bindsSt_sto, seqM, seqJ, asgM, augM, augItemM, augAttrM, bindM, pureM, varM, exprM, retM, stAttrM, stItemM, iteM, failM, boolM, andB, orB, stTwoM, methM, consM, starM, callM, initS, whileM, forM, compM, putM, delM, testM, newM, listM]
    refine v_range1 (by decide) (by decide) ⟨fun i ys h' => h' = h ∧ i ≤ 5 ∧ ys = nInts ([1, 2, 4, 8, 16].take i), ⟨rfl, by omega, rfl⟩, ?_⟩
    rintro i ys h' ⟨rfl, hi5, rfl⟩
    refine ⟨trivial, fun v hv => ⟨fun _ => ?_, (fun q => by cases q)⟩, fun hn D hD => ?_⟩
    · obtain ⟨hi, rfl⟩ := range_at hv
      have hi : i < 5 := hi
      simp only [comp_sto, sto_put]
      refine look rfl (v_shlN (n := 1) (by omega) (by decide) ⟨by rw [nInts_length, List.length_take]; exact Nat.le_trans (Nat.min_le_right _ _) (by decide), rfl, by omega, ?_⟩)
      rw [nInts_snoc]
      match i, hi with
      | 0, _ => rfl
      | 1, _ => rfl
      | 2, _ => rfl
      | 3, _ => rfl
      | 4, _ => rfl
    · have hi : 5 ≤ i := range_end hn
      have hi : i = 5 := by omega
      subst hi
      dsimp only [sto_mk, sto_put]
      have sub : ∀ a o, h' a = some o → ∀ ys, (h'.set D (.list ys)) a = some o := fun a o e ys => H.set_fresh e hD
      refine ⟨rfl, by decide, by decide, ?_⟩
      refine ⟨fun i σ => Ex2 fun l h1 => All4 (σ = sto l h1) (h1 = h'.set D (.list (nInts (([4, 3, 2, 1, 0].take i).foldl (fallsStep us) [1, 2, 4, 8, 16])))) (nm l "ups" = some (.ref u)) (nm l "falls" = some (.ref D)), ?_, ?_, ?_⟩
      · exact weak_sto ⟨[("falls", .ref D), ("ups", .ref u)], _, rfl, rfl, rfl, rfl⟩ ⟨rfl, rfl, trivial⟩ fun _ _ e => e
      · rintro i v σ ⟨l, h1, rfl, rfl, l1, l2⟩ hi
        obtain ⟨hi, rfl⟩ := down_at (n := 5) hi
        refine ⟨trivial, ?_⟩
        dsimp only [sto_put]
        have hk : 5 - 1 - i < us.length := by omega
        refine look l1 (look rfl (v_item (xs := nInts us) (sub _ _ hu _) (at_nInts hk (by omega)) (v_gt (v_tru ?_))))
        have hfl : (([4, 3, 2, 1, 0].take i).foldl (fallsStep us) [1, 2, 4, 8, 16]).length = 5 := foldFalls_len us _ _
        have ets : ([4, 3, 2, 1, 0].take (i + 1)).foldl (fallsStep us) [1, 2, 4, 8, 16] = fallsStep us (([4, 3, 2, 1, 0].take i).foldl (fallsStep us) [1, 2, 4, 8, 16]) (5 - 1 - i) := by
          match i, hi with
          | 0, _ => rfl
          | 1, _ => rfl
          | 2, _ => rfl
          | 3, _ => rfl
          | 4, _ => rfl
        generalize ([4, 3, 2, 1, 0].take i).foldl (fallsStep us) [1, 2, 4, 8, 16] = fl at *
        have hg := hug (5 - 1 - i) (by omega)
        refine ⟨fun ht => ?_, fun hf => ?_⟩
        · have ht : 0 < us.getD (5 - 1 - i) 0 := by have := of_decide_eq_true ht; omega
          refine look l2 (look l1 (look rfl (v_item (xs := nInts us) (sub _ _ hu _) (at_nInts hk (by omega)) (v_sub ?_))))
          have e1 : ((us.getD (5 - 1 - i) 0 : Nat) : Int) - 1 = ((us.getD (5 - 1 - i) 0 - 1 : Nat) : Int) := by omega
          rw [e1]
          refine v_item (xs := nInts fl) (H.set_self ..) (at_nInts (by omega) (by omega)) (look l2 (look rfl (v_item (xs := nInts fl) (H.set_self ..) (at_nInts (by omega) (by omega)) (v_aOrN (v_setItem (xs := nInts fl) (H.set_self ..) (setAt_nInts (by omega) (by omega)) ?_)))))
          simp only [sto_seth, H.set_set]
          refine weak_sto ⟨[("falls", .ref D), ("ups", .ref u)], _, rfl, ?_, rfl, rfl⟩ ⟨l2, l1, trivial⟩ fun _ _ e => e
          rw [ets]; unfold fallsStep; rw [if_pos ht]; rfl
        · have hf : ¬ 0 < us.getD (5 - 1 - i) 0 := by have := of_decide_eq_false hf; omega
          refine weak_sto ⟨[("falls", .ref D), ("ups", .ref u)], _, rfl, ?_, rfl, rfl⟩ ⟨l2, l1, trivial⟩ fun _ _ e => e
          rw [ets]; unfold fallsStep; rw [if_neg hf]; rfl
      · rintro σ ⟨l, h1, rfl, rfl, l1, l2⟩
        exact ⟨trivial, look l2 ⟨_, fun _ _ e => e, hq D hD⟩⟩
noncomputable def S_stands : Spec := fun args Q h => Ex2 fun u us => All4 (args = [.ref u]) (h u = some (.list (nInts us))) (Garden us) (∀ D, h D = none → Q (.ref D) (h.set D (.list (nInts (standsOf us)))))
theorem ok_stands (g : Gn) : CallOK g.G 1 (.ref 192) S_stands := by
  refine' callOK_def (n := 0) (BS := bsPlain [Str.ofString "ups"]) (lk__law_stands g) rfl (cd__law_stands g) rfl rfl (bindOK1 fun _ => rfl) (kind_plain (by rfl)) ?r ?s
  case r =>
    intro A L outer hroom hA
    (repeat' (first | (with_reducible first | exact RS_nil | exact R_Break | exact R_Continue | exact R_Pass | exact R_dead (st := .Raise _ _ _) | exact R_dead (st := .Assert _ _ _) | exact R_dead (st := .For _ (.Call (.Attribute _ "items" _) _ _ _) _ _ _) | exact R_Dict | exact allTrue_and_nil | exact allTrue_or_nil | exact RArg_nil | exact RSp_nil | exact RT_nil rfl) | (with_reducible first | apply RS_one | apply RS_consJ (st := .If _ _ _ _) | apply RS_cons | apply R_Return | apply R_If | apply R_Assign_Comp | apply R_Assign_Name | apply R_Assign_Two | apply R_Assign_Item | apply D_Aug_Name | apply D_Aug_Item | apply R_Del | apply R_While | apply D_For | apply R_TryNext | apply R_Expr | apply R_Const | apply gg_COMPILER_FLAG_NAMES | apply gg_NODE_OUT | apply gg_NODE_DONE | apply gg_pretty_flags | apply gg_heappush | apply gg_heappop | apply gg_siftdown | apply gg_siftup | apply gg_law_ups | apply gg_law_falls | apply gg_law_stands | apply gg_law_word | apply gg_law_words | apply gg_law_told | apply gg_law_least | apply gg_law_played | apply gg_NodeInfo | apply gg_CycleError | apply gg_TopologicalSorter | apply gb_range | apply gb_len | apply gb_hex | apply gb_sum | apply gb_min | apply gb_max | apply gb_sorted | apply gb_iter | apply gb_tuple | apply gb_list | apply gb_set | apply gb_bool | apply gb_StopIteration | apply R_Name | apply D_BinOp | apply D_UnaryOp | apply D_cmp2 | apply R_IfExp | apply D_Bool2 | apply R_SliceFrom | apply R_Sub | apply R_Named | apply R_ListComp | apply R_List | apply D_attr_d (st_n2i _) | apply D_st_d (st_n2i _) | apply D_aug_d (st_n2i _) | apply D_attr_d (st_rdy _) | apply D_st_d (st_rdy _) | apply D_aug_d (st_rdy _) | apply D_attr_d (st_npo _) | apply D_st_d (st_npo _) | apply D_aug_d (st_npo _) | apply D_attr_d (st_nfi _) | apply D_st_d (st_nfi _) | apply D_aug_d (st_nfi _) | apply D_attr_s (st_node _) | apply D_st_s (st_node _) | apply D_aug_s (st_node _) | apply D_attr_s (st_npred _) | apply D_st_s (st_npred _) | apply D_aug_s (st_npred _) | apply D_attr_s (st_succ _) | apply D_st_s (st_succ _) | apply D_aug_s (st_succ _) | apply D_method (hst := st_m_info _) (hkp := st_k_get_info _) | apply D_method (hst := st_m_cyc _) (hkp := st_k_find_cycle _) | apply D_method (hst := st_m_prep _) (hkp := st_k_prepare _) | apply D_method (hst := st_m_ready _) (hkp := st_k_get_ready _) | apply D_method (hst := st_m_act _) (hkp := st_k_is_active _) | apply D_setadd (o := .Name "seen" _) | apply D_methodStar (args := [_, .Starred _ _]) (hst := st_b_add _) | apply D_methodStar (args := [.Starred _ _]) (hst := st_b_done _) | apply D_attr_next | apply D_append | apply D_pop | apply D_clear | apply D_get | apply D_join | apply D_split | apply D_len (func := .Name "len" _) | apply D_hex (func := .Name "hex" _) | apply D_sorted (func := .Name "sorted" _) | apply D_iter (func := .Name "iter" _) | apply D_tuple (func := .Name "tuple" _) | apply D_list (func := .Name "list" _) | apply D_set (func := .Name "set" _) | apply D_bool (func := .Name "bool" _) | apply D_sum (func := .Name "sum" _) | apply D_min (func := .Name "min" _) | apply D_max (func := .Name "max" _) | apply D_call (func := .Name "pretty_flags" _) (hk := kk_pretty_flags _) | apply D_call (func := .Name "heappush" _) (hk := kk_heappush _) | apply D_call (func := .Name "heappop" _) (hk := kk_heappop _) | apply D_call (func := .Name "_siftdown" _) (hk := kk_siftdown _) | apply D_call (func := .Name "_siftup" _) (hk := kk_siftup _) | apply D_call (func := .Name "_law_ups" _) (hk := kk_law_ups _) | apply D_call (func := .Name "_law_falls" _) (hk := kk_law_falls _) | apply D_call (func := .Name "_law_stands" _) (hk := kk_law_stands _) | apply D_call (func := .Name "_law_word" _) (hk := kk_law_word _) | apply D_call (func := .Name "_law_words" _) (hk := kk_law_words _) | apply D_call (func := .Name "_law_told" _) (hk := kk_law_told _) | apply D_call (func := .Name "_law_least" _) (hk := kk_law_least _) | apply D_call (func := .Name "_law_played" _) (hk := kk_law_played _) | apply D_call (func := .Name "_NodeInfo" _) (hk := kk_NodeInfo _) | apply D_call (func := .Name "CycleError" _) (hk := kk_CycleError _) | apply D_call (func := .Name "TopologicalSorter" _) (hk := kk_TopologicalSorter _) | apply DB_cmp2 | apply RB_Not | apply RB_Bool | apply allTrue_and | apply allTrue_or | apply RB_If | apply DB_plain | apply RArg_lone | apply RArg_cons | apply RSp_star | apply RSp_cons | apply D_range1 (fn := .Name "range" _) | apply RI_range3 | apply RI_values | apply RI_val | apply RT_one) | assumption | with_unfolding_all rfl | (with_reducible intro _; with_unfolding_all rfl) | decide | exact Room.handled (by assumption) | intro _))
  case s =>
    rintro args Q h ⟨u, us, rfl, hu, ⟨hul, hug⟩, hq⟩
    refine ⟨rfl, ?_⟩
    simp only [bindsSt_sto, seqM, seqJ, asgM, augM, augItemM, augAttrM, bindM, pureM, varM, exprM, retM, stAttrM, stItemM, iteM, failM, boolM, andB, orB, stTwoM, methM, consM, starM, callM, initS, whileM, forM, compM, putM, delM, testM, newM, listM]
    refine ⟨by decide, fun D hD => ?_⟩
    dsimp only [sto_h] at hD
    dsimp only [sto_seth, sto_put]
    have sub : ∀ a o, h a = some o → ∀ ys, (h.set D (.list ys)) a = some o := fun a o e ys => H.set_fresh e hD
    refine v_range1 (by decide) (by decide) ?_
    refine ⟨fun i σ => Ex2 fun l h' => All6 (σ = sto l h') (i ≤ 32) (h' D = some (.list (nInts ((List.range i).filter (standOk us))))) ((∀ a o, h a = some o → h' a = some o)) (nm l "ups" = some (.ref u)) (nm l "stands" = some (.ref D)), ?_, ?_, ?_⟩
    · exact weak_sto ⟨[("stands", .ref D), ("ups", .ref u)], _, rfl, by omega, H.set_self .., fun a o e => sub a o e _, rfl, rfl⟩ ⟨rfl, rfl, trivial⟩ fun _ _ e => e
    · rintro m v σ ⟨l, h', rfl, hm32, hD', sub', l1, l2⟩ hi
      obtain ⟨hm, rfl⟩ := range_at hi
      have hm : m < 32 := hm
      refine ⟨trivial, v_range1 (by decide) (by decide) ?_⟩
      dsimp only [sto_put]
      refine ⟨fun i ys h1 => h1 = h' ∧ i ≤ 5 ∧ ys = nInts ((List.range i).filter (hangs us m)), ⟨rfl, by omega, rfl⟩, ?_⟩
      rintro k ys h1 ⟨rfl, hi5, rfl⟩
      have hfl : ((List.range k).filter (hangs us m)).length ≤ 5 := by
        have := List.length_filter_le (hangs us m) (List.range k)
        rw [List.length_range] at this; omega
      refine ⟨trivial, fun v hv => ?_, fun hn D1 hD1 => ?_⟩
      · obtain ⟨hk, rfl⟩ := range_at hv
        have hk : k < 5 := hk
        simp only [comp_sto, sto_put]
        have hfr := filter_range_succ (hangs us m) k
        have no : hangs us m k = false → nInts ((List.range k).filter (hangs us m)) = nInts ((List.range (k + 1)).filter (hangs us m)) := fun q => by rw [hfr, q]; rfl
        refine look rfl (look rfl (v_shrN (v_andN (m := 1) (v_tru ?_))))
        rw [mod2, tru_toNat]
        have lu : nm (frees { kind := .function, names := [(".0", .local), ("k", .local), ("m", .free), ("ups", .free)], isGenerator := false, isCoroutine := false } (("m", .int m 0) :: l)) "ups" = some (.ref u) := nm_frees l1 rfl
        refine ⟨fun hb => ?_, fun hb => ⟨(fun q => by cases q), fun _ => ⟨rfl, by omega, no (by unfold hangs; rw [hb]; rfl)⟩⟩⟩
        refine look lu (look rfl (v_item (xs := nInts us) (sub' _ _ hu) (at_nInts (by omega) (by omega)) (v_gt (v_tru ⟨fun ht => ?_, fun hf => ⟨(fun q => by cases q), fun _ => ⟨rfl, by omega, no ?_⟩⟩⟩))))
        · have ht : 0 < us.getD k 0 := by have := of_decide_eq_true ht; omega
          refine look rfl (look lu (look rfl (v_item (xs := nInts us) (sub' _ _ hu) (at_nInts (by omega) (by omega)) (v_sub ?_))))
          rw [show ((us.getD k 0 : Nat) : Int) - 1 = ((us.getD k 0 - 1 : Nat) : Int) by omega]
          refine v_shrN (v_andN (m := 1) ?_)
          rw [mod2]
          refine v_eq (v_tru ⟨fun h0 => ⟨fun _ => look rfl ⟨by rw [nInts_length]; omega, rfl, by omega, ?_⟩, (fun q => by cases q)⟩, fun h0 => ⟨(fun q => by cases q), fun _ => ⟨rfl, by omega, no ?_⟩⟩⟩)
          · have h0 : m.testBit (us.getD k 0 - 1) = false := by
              cases q : m.testBit (us.getD k 0 - 1) with
              | false => rfl
              | true => rw [q] at h0; cases h0
            rw [hfr, nInts_snoc]
            have : hangs us m k = true := by unfold hangs; rw [hb, h0, decide_eq_true ht]; rfl
            rw [if_pos this]
          · have h0 : m.testBit (us.getD k 0 - 1) = true := by
              cases q : m.testBit (us.getD k 0 - 1) with
              | true => rfl
              | false => rw [q] at h0; cases h0
            unfold hangs; rw [hb, h0]; simp
        · have hf : ¬ 0 < us.getD k 0 := by have := of_decide_eq_false hf; omega
          unfold hangs; rw [decide_eq_false hf]; simp
      · have hk : 5 ≤ k := range_end hn
        have hk : k = 5 := by omega
        subst hk
        refine ⟨by decide, fun D2 hD2 => ?_⟩
        dsimp only [sto_mk, sto_seth]
        have hDD : D2 ≠ D1 := fun q => by rw [q, H.set_self] at hD2; cases hD2
        have hD2' : h1 D2 = none := by rw [H.set_ne _ _ hDD] at hD2; exact hD2
        have sub2 : ∀ a o, h1 a = some o → ∀ xs, (H.set (H.set h1 D1 xs) D2 (.list [])) a = some o := fun a o e xs => (H.set_ne _ _ fun q => by rw [q, hD2'] at e; cases e).trans (H.set_fresh e hD1)
        refine v_eqNil (xs := nInts ((List.range 5).filter (hangs us m))) ((H.set_ne _ _ hDD.symm).trans (H.set_self ..)) (H.set_self ..) (v_tru ⟨fun ht => ?_, fun hf => ?_⟩)
        · have hst : standOk us m = true := by
            have : (List.range 5).filter (hangs us m) = [] := by simpa [nInts] using ht
            unfold standOk; rw [this]; rfl
          refine look l2 ⟨v_isList (sub2 _ _ hD' _), look rfl (v_append (sub2 _ _ hD' _) ?_ ?_)⟩
          · rw [nInts_length]
            have := List.length_filter_le (standOk us) (List.range m)
            rw [List.length_range] at this; omega
          · simp only [sto_seth, nInts_snoc]
            refine weak_sto ⟨[("stands", .ref D), ("ups", .ref u)], _, rfl, by omega, ?_, ?_, rfl, rfl⟩ ⟨l2, l1, trivial⟩ fun _ _ e => e
            · rw [sto_h, H.set_self, filter_range_succ, if_pos hst]
            · intro a o e
              exact (H.set_ne _ _ fun q => by rw [q, hD] at e; cases e).trans (sub2 _ _ (sub' a o e) _)
        · have hst : standOk us m = false := by
            have : ¬ (List.range 5).filter (hangs us m) = [] := by simpa [nInts] using hf
            unfold standOk
            cases q : (List.range 5).filter (hangs us m) with
            | nil => exact absurd q this
            | cons a b => rfl
          refine weak_sto ⟨[("stands", .ref D), ("ups", .ref u)], _, rfl, by omega, ?_, fun a o e => sub2 _ _ (sub' a o e) _, rfl, rfl⟩ ⟨l2, l1, trivial⟩ fun _ _ e => e
          rw [filter_range_succ (standOk us) m, if_neg (by rw [hst]; decide)]
          exact sub2 _ _ hD' _
    · rintro σ ⟨l, h', rfl, _, hD', sub', l1, l2⟩
      refine ⟨trivial, look l2 ⟨_, ?_, hq D hD⟩⟩
      rw [range_len] at hD'
      intro a o e
      by_cases q : a = D
      · subst q; rw [H.set_self] at e; rw [← e]; exact hD'
      · rw [H.set_ne _ _ q] at e; exact sub' a o e
noncomputable def S_least : Spec := fun args Q h => Ex2 fun a ns => All5 (args = [.ref a]) (h a = some (.list (vInts ns))) (HeapL ns) (ns.length ≤ 1000) (∀ r : Nat, IsMex (· ∈ ns) 0 r → Q (.int r 0) (h.set a (.list [])))
theorem ok_least (g : Gn) : CallOK g.G 4 (.ref 218) S_least := by
  have h163 := ok_pop g
  refine' callOK_def (n := 3) (BS := bsPlain [Str.ofString "heap"]) (lk__law_least g) rfl (cd__law_least g) rfl rfl (bindOK1 fun _ => rfl) (kind_plain (by rfl)) ?r ?s
  case r =>
    intro A L outer hroom hA
    (repeat' (first | (with_reducible first | exact RS_nil | exact R_Break | exact R_Continue | exact R_Pass | exact R_dead (st := .Raise _ _ _) | exact R_dead (st := .Assert _ _ _) | exact R_dead (st := .For _ (.Call (.Attribute _ "items" _) _ _ _) _ _ _) | exact R_Dict | exact allTrue_and_nil | exact allTrue_or_nil | exact RArg_nil | exact RSp_nil | exact RT_nil rfl) | (with_reducible first | apply RS_one | apply RS_consJ (st := .If _ _ _ _) | apply RS_cons | apply R_Return | apply R_If | apply R_Assign_Comp | apply R_Assign_Name | apply R_Assign_Two | apply R_Assign_Item | apply D_Aug_Name | apply D_Aug_Item | apply R_Del | apply R_While | apply D_For | apply R_TryNext | apply R_Expr | apply R_Const | apply gg_COMPILER_FLAG_NAMES | apply gg_NODE_OUT | apply gg_NODE_DONE | apply gg_pretty_flags | apply gg_heappush | apply gg_heappop | apply gg_siftdown | apply gg_siftup | apply gg_law_ups | apply gg_law_falls | apply gg_law_stands | apply gg_law_word | apply gg_law_words | apply gg_law_told | apply gg_law_least | apply gg_law_played | apply gg_NodeInfo | apply gg_CycleError | apply gg_TopologicalSorter | apply gb_range | apply gb_len | apply gb_hex | apply gb_sum | apply gb_min | apply gb_max | apply gb_sorted | apply gb_iter | apply gb_tuple | apply gb_list | apply gb_set | apply gb_bool | apply gb_StopIteration | apply R_Name | apply D_BinOp | apply D_UnaryOp | apply D_cmp2 | apply R_IfExp | apply D_Bool2 | apply R_SliceFrom | apply R_Sub | apply R_Named | apply R_ListComp | apply R_List | apply D_attr_d (st_n2i _) | apply D_st_d (st_n2i _) | apply D_aug_d (st_n2i _) | apply D_attr_d (st_rdy _) | apply D_st_d (st_rdy _) | apply D_aug_d (st_rdy _) | apply D_attr_d (st_npo _) | apply D_st_d (st_npo _) | apply D_aug_d (st_npo _) | apply D_attr_d (st_nfi _) | apply D_st_d (st_nfi _) | apply D_aug_d (st_nfi _) | apply D_attr_s (st_node _) | apply D_st_s (st_node _) | apply D_aug_s (st_node _) | apply D_attr_s (st_npred _) | apply D_st_s (st_npred _) | apply D_aug_s (st_npred _) | apply D_attr_s (st_succ _) | apply D_st_s (st_succ _) | apply D_aug_s (st_succ _) | apply D_method (hst := st_m_info _) (hkp := st_k_get_info _) | apply D_method (hst := st_m_cyc _) (hkp := st_k_find_cycle _) | apply D_method (hst := st_m_prep _) (hkp := st_k_prepare _) | apply D_method (hst := st_m_ready _) (hkp := st_k_get_ready _) | apply D_method (hst := st_m_act _) (hkp := st_k_is_active _) | apply D_setadd (o := .Name "seen" _) | apply D_methodStar (args := [_, .Starred _ _]) (hst := st_b_add _) | apply D_methodStar (args := [.Starred _ _]) (hst := st_b_done _) | apply D_attr_next | apply D_append | apply D_pop | apply D_clear | apply D_get | apply D_join | apply D_split | apply D_len (func := .Name "len" _) | apply D_hex (func := .Name "hex" _) | apply D_sorted (func := .Name "sorted" _) | apply D_iter (func := .Name "iter" _) | apply D_tuple (func := .Name "tuple" _) | apply D_list (func := .Name "list" _) | apply D_set (func := .Name "set" _) | apply D_bool (func := .Name "bool" _) | apply D_sum (func := .Name "sum" _) | apply D_min (func := .Name "min" _) | apply D_max (func := .Name "max" _) | apply D_call (func := .Name "pretty_flags" _) (hk := kk_pretty_flags _) | apply D_call (func := .Name "heappush" _) (hk := kk_heappush _) | apply D_call (func := .Name "heappop" _) (hk := kk_heappop _) | apply D_call (func := .Name "_siftdown" _) (hk := kk_siftdown _) | apply D_call (func := .Name "_siftup" _) (hk := kk_siftup _) | apply D_call (func := .Name "_law_ups" _) (hk := kk_law_ups _) | apply D_call (func := .Name "_law_falls" _) (hk := kk_law_falls _) | apply D_call (func := .Name "_law_stands" _) (hk := kk_law_stands _) | apply D_call (func := .Name "_law_word" _) (hk := kk_law_word _) | apply D_call (func := .Name "_law_words" _) (hk := kk_law_words _) | apply D_call (func := .Name "_law_told" _) (hk := kk_law_told _) | apply D_call (func := .Name "_law_least" _) (hk := kk_law_least _) | apply D_call (func := .Name "_law_played" _) (hk := kk_law_played _) | apply D_call (func := .Name "_NodeInfo" _) (hk := kk_NodeInfo _) | apply D_call (func := .Name "CycleError" _) (hk := kk_CycleError _) | apply D_call (func := .Name "TopologicalSorter" _) (hk := kk_TopologicalSorter _) | apply DB_cmp2 | apply RB_Not | apply RB_Bool | apply allTrue_and | apply allTrue_or | apply RB_If | apply DB_plain | apply RArg_lone | apply RArg_cons | apply RSp_star | apply RSp_cons | apply D_range1 (fn := .Name "range" _) | apply RI_range3 | apply RI_values | apply RI_val | apply RT_one) | assumption | with_unfolding_all rfl | (with_reducible intro _; with_unfolding_all rfl) | decide | exact Room.handled (by assumption) | intro _))
  case s =>
    rintro args Q h ⟨a, ns, rfl, ha, hh, hl, hq⟩
    refine ⟨rfl, ?_⟩
    simp only [bindsSt_sto, seqM, seqJ, asgM, augM, augItemM, augAttrM, bindM, pureM, varM, exprM, retM, stAttrM, stItemM, iteM, failM, boolM, andB, orB, stTwoM, methM, consM, starM, callM, initS, whileM, forM, compM, putM, delM, testM, newM, listM]
    dsimp only [sto_put]
    refine ⟨fun n σ => Ex4 fun l h' ms (v : Nat) => All8 (σ = sto l h') (h' = h.set a (.list (vInts ms))) (HeapL ms) (ms.length = n) (n ≤ 1000) (nm l "heap" = some (.ref a)) (nm l "least" = some (.int v 0)) ((∀ r, IsMex (· ∈ ms) v r → IsMex (· ∈ ns) 0 r)), ns.length, ?_, ?_⟩
    · refine weak_sto ⟨[("least", .int 0 0), ("heap", .ref a)], _, ns, 0, rfl, rfl, hh, rfl, hl, rfl, rfl, fun _ m => m⟩ ⟨rfl, rfl, trivial⟩ ?_
      rw [H.set_same ha]; exact fun _ _ e => e
    · rintro n σ ⟨l, h', ms, v, rfl, rfl, hms, rfl, hn, l1, l2, hr⟩
      have eA : (h.set a (.list (vInts ms))) a = some (.list (vInts ms)) := H.set_self ..
      refine look l1 (v_truList eA (by rw [vInts_length]; omega) ⟨fun ht => ?_, fun hf => ?_⟩)
      · have h0 : 0 < ms.length := by
          rw [vInts_length] at ht
          have : ms.length ≠ 0 := by simpa using ht
          omega
        have hlen := heapPop_len hms h0
        refine look l1 ⟨a, ms, rfl, eA, h0, by omega, look l2 ?_⟩
        have hst := fun r => mex_step hms h0 (l := v) (r := r)
        simp only [sto_h, H.set_set, sto_mk]
        refine v_eq (v_tru ⟨fun he => ?_, fun he => ?_⟩)
        · have he : ms.getD 0 0 = (v : Int) := by simpa using he
          refine look l2 (v_aAdd ⟨(heapPop ms).length, by omega, ?_⟩)
          dsimp only [sto_put]
          refine weak_sto ⟨[("least", .int (v + 1 : Nat) 0), ("heap", .ref a)], _, heapPop ms, v + 1, rfl, rfl, (pop_spec hms h0).2, rfl, by omega, rfl, rfl, fun r m => hr r (hst r ?_)⟩ ⟨rfl, l1, trivial⟩ fun _ _ e => e
          rw [if_pos he]; exact m
        · have he : ¬ ms.getD 0 0 = (v : Int) := by simpa using he
          refine ⟨(heapPop ms).length, by omega, ?_⟩
          refine weak_sto ⟨[("least", .int v 0), ("heap", .ref a)], _, heapPop ms, v, rfl, rfl, (pop_spec hms h0).2, rfl, by omega, rfl, rfl, fun r m => hr r (hst r ?_)⟩ ⟨l2, l1, trivial⟩ fun _ _ e => e
          rw [if_neg he]; exact m
      · have h0 : ms = [] := by
          rw [vInts_length] at hf
          exact List.length_eq_zero_iff.mp (by simpa using hf)
        subst h0
        exact look l2 ⟨_, fun _ _ e => e, hq v (hr v ⟨Nat.le_refl _, fun u h1 h2 => by omega, by simp⟩)⟩
noncomputable def S_told : Spec := fun args Q h => Ex5 fun u s us ms (first : Nat) => All9 (args = [.ref u, .ref s, .int first 0]) (h u = some (.list (nInts us))) (Garden us) (h s = some (.list (nInts ms))) ((∀ m ∈ ms, m < 32)) (ms.Nodup) (ms.length ≤ 1000) (first < 28) (∀ h' TD, WD h' TD first ms (tw us) → (∀ a o, h a = some o → h' a = some o) → h TD = none → Q (.ref TD) h')
theorem ok_told (g : Gn) : CallOK g.G 3 (.ref 211) S_told := by
  have h204 := ok_words g
  refine' callOK_def (n := 2) (BS := bsPlain [Str.ofString "ups", Str.ofString "stands", Str.ofString "first"]) (lk__law_told g) rfl (cd__law_told g) rfl rfl (bindOK3 fun _ _ _ => rfl) (kind_plain (by rfl)) ?r ?s
  case r =>
    intro A L outer hroom hA
    (repeat' (first | (with_reducible first | exact RS_nil | exact R_Break | exact R_Continue | exact R_Pass | exact R_dead (st := .Raise _ _ _) | exact R_dead (st := .Assert _ _ _) | exact R_dead (st := .For _ (.Call (.Attribute _ "items" _) _ _ _) _ _ _) | exact R_Dict | exact allTrue_and_nil | exact allTrue_or_nil | exact RArg_nil | exact RSp_nil | exact RT_nil rfl) | (with_reducible first | apply RS_one | apply RS_consJ (st := .If _ _ _ _) | apply RS_cons | apply R_Return | apply R_If | apply R_Assign_Comp | apply R_Assign_Name | apply R_Assign_Two | apply R_Assign_Item | apply D_Aug_Name | apply D_Aug_Item | apply R_Del | apply R_While | apply D_For | apply R_TryNext | apply R_Expr | apply R_Const | apply gg_COMPILER_FLAG_NAMES | apply gg_NODE_OUT | apply gg_NODE_DONE | apply gg_pretty_flags | apply gg_heappush | apply gg_heappop | apply gg_siftdown | apply gg_siftup | apply gg_law_ups | apply gg_law_falls | apply gg_law_stands | apply gg_law_word | apply gg_law_words | apply gg_law_told | apply gg_law_least | apply gg_law_played | apply gg_NodeInfo | apply gg_CycleError | apply gg_TopologicalSorter | apply gb_range | apply gb_len | apply gb_hex | apply gb_sum | apply gb_min | apply gb_max | apply gb_sorted | apply gb_iter | apply gb_tuple | apply gb_list | apply gb_set | apply gb_bool | apply gb_StopIteration | apply R_Name | apply D_BinOp | apply D_UnaryOp | apply D_cmp2 | apply R_IfExp | apply D_Bool2 | apply R_SliceFrom | apply R_Sub | apply R_Named | apply R_ListComp | apply R_List | apply D_attr_d (st_n2i _) | apply D_st_d (st_n2i _) | apply D_aug_d (st_n2i _) | apply D_attr_d (st_rdy _) | apply D_st_d (st_rdy _) | apply D_aug_d (st_rdy _) | apply D_attr_d (st_npo _) | apply D_st_d (st_npo _) | apply D_aug_d (st_npo _) | apply D_attr_d (st_nfi _) | apply D_st_d (st_nfi _) | apply D_aug_d (st_nfi _) | apply D_attr_s (st_node _) | apply D_st_s (st_node _) | apply D_aug_s (st_node _) | apply D_attr_s (st_npred _) | apply D_st_s (st_npred _) | apply D_aug_s (st_npred _) | apply D_attr_s (st_succ _) | apply D_st_s (st_succ _) | apply D_aug_s (st_succ _) | apply D_method (hst := st_m_info _) (hkp := st_k_get_info _) | apply D_method (hst := st_m_cyc _) (hkp := st_k_find_cycle _) | apply D_method (hst := st_m_prep _) (hkp := st_k_prepare _) | apply D_method (hst := st_m_ready _) (hkp := st_k_get_ready _) | apply D_method (hst := st_m_act _) (hkp := st_k_is_active _) | apply D_setadd (o := .Name "seen" _) | apply D_methodStar (args := [_, .Starred _ _]) (hst := st_b_add _) | apply D_methodStar (args := [.Starred _ _]) (hst := st_b_done _) | apply D_attr_next | apply D_append | apply D_pop | apply D_clear | apply D_get | apply D_join | apply D_split | apply D_len (func := .Name "len" _) | apply D_hex (func := .Name "hex" _) | apply D_sorted (func := .Name "sorted" _) | apply D_iter (func := .Name "iter" _) | apply D_tuple (func := .Name "tuple" _) | apply D_list (func := .Name "list" _) | apply D_set (func := .Name "set" _) | apply D_bool (func := .Name "bool" _) | apply D_sum (func := .Name "sum" _) | apply D_min (func := .Name "min" _) | apply D_max (func := .Name "max" _) | apply D_call (func := .Name "pretty_flags" _) (hk := kk_pretty_flags _) | apply D_call (func := .Name "heappush" _) (hk := kk_heappush _) | apply D_call (func := .Name "heappop" _) (hk := kk_heappop _) | apply D_call (func := .Name "_siftdown" _) (hk := kk_siftdown _) | apply D_call (func := .Name "_siftup" _) (hk := kk_siftup _) | apply D_call (func := .Name "_law_ups" _) (hk := kk_law_ups _) | apply D_call (func := .Name "_law_falls" _) (hk := kk_law_falls _) | apply D_call (func := .Name "_law_stands" _) (hk := kk_law_stands _) | apply D_call (func := .Name "_law_word" _) (hk := kk_law_word _) | apply D_call (func := .Name "_law_words" _) (hk := kk_law_words _) | apply D_call (func := .Name "_law_told" _) (hk := kk_law_told _) | apply D_call (func := .Name "_law_least" _) (hk := kk_law_least _) | apply D_call (func := .Name "_law_played" _) (hk := kk_law_played _) | apply D_call (func := .Name "_NodeInfo" _) (hk := kk_NodeInfo _) | apply D_call (func := .Name "CycleError" _) (hk := kk_CycleError _) | apply D_call (func := .Name "TopologicalSorter" _) (hk := kk_TopologicalSorter _) | apply DB_cmp2 | apply RB_Not | apply RB_Bool | apply allTrue_and | apply allTrue_or | apply RB_If | apply DB_plain | apply RArg_lone | apply RArg_cons | apply RSp_star | apply RSp_cons | apply D_range1 (fn := .Name "range" _) | apply RI_range3 | apply RI_values | apply RI_val | apply RT_one) | assumption | with_unfolding_all rfl | (with_reducible intro _; with_unfolding_all rfl) | decide | exact Room.handled (by assumption) | intro _))
  case s =>
    rintro args Q h ⟨u, s, us, ms, first, rfl, hu, ⟨hul, hug⟩, hs, hms, hnd, hml, hf, hq⟩
    refine ⟨rfl, ?_⟩
    simp only [bindsSt_sto, seqM, seqJ, asgM, augM, augItemM, augAttrM, bindM, pureM, varM, exprM, retM, stAttrM, stItemM, iteM, failM, boolM, andB, orB, stTwoM, methM, consM, starM, callM, initS, whileM, forM, compM, putM, delM, testM, newM, listM]
    refine .inl fun ep TD hTD => ?_
    dsimp only [sto_h] at hTD
    dsimp only [sto_seth, sto_put]
    have e0 : ∀ a o, h a = some o → (h.set TD (.sd [] ep)) a = some o := fun a o e => H.set_fresh e hTD
    refine look rfl (v_iterList (e0 _ _ hs) ?_)
    refine ⟨fun i σ => Ex2 fun l h' => All6 (σ = sto l h') (WD h' TD first (ms.take i) (tw us)) ((∀ a o, h a = some o → h' a = some o)) (nm l "told" = some (.ref TD)) (nm l "ups" = some (.ref u)) (nm l "first" = some (.int first 0)), ?_, ?_, ?_⟩
    · exact weak_sto ⟨[("told", .ref TD), ("ups", .ref u), ("first", .int first 0)], _, rfl, TDict.new (H.set_self ..), e0, rfl, rfl, rfl⟩ ⟨rfl, rfl, rfl, trivial⟩ fun _ _ e => e
    · rintro i v σ ⟨l, h1, rfl, w, sub, l1, l2, l3⟩ hi
      refine ⟨.inl (sub _ _ hs), ?_⟩
      have hil : i < ms.length := by
        have := (List.getElem?_eq_some_iff.mp hi).1
        rwa [nInts_length] at this
      have hv : v = .int (ms[i] : Nat) 0 := by
        unfold nInts at hi
        rw [List.getElem?_map, List.getElem?_eq_getElem hil] at hi
        exact (Option.some.inj hi).symm
      subst hv
      have hm32 : ms[i] < 32 := hms _ (List.getElem_mem hil)
      have htk : ms.take (i + 1) = ms.take i ++ [ms[i]] := by rw [List.take_add_one, List.getElem?_eq_getElem hil]; rfl
      have hmi : ms[i] ∉ ms.take i := fun q => by
        have h1 : (ms.take i ++ ms.drop i).Nodup := by rw [List.take_append_drop]; exact hnd
        rw [List.nodup_append] at h1
        exact h1.2.2 _ q _ (by rw [List.drop_eq_getElem_cons hil]; exact .head _) rfl
      generalize ms[i] = m at *
      dsimp only [sto_put]
      refine ⟨by decide, fun D0 hD0 => ?_⟩
      dsimp only [sto_h] at hD0
      dsimp only [sto_seth]
      refine v_repl (H.set_self ..) (by decide) (by decide) fun W hW => ?_
      dsimp only [sto_h] at hW
      dsimp only [sto_seth, sto_put]
      have sub1 : ∀ a o, h1 a = some o → ∀ xs, (H.set (H.set h1 D0 (.list [.int 0 0])) W (.list xs)) a = some o := fun a o e xs => H.set_fresh (H.set_fresh e hD0) hW
      generalize H.set h1 D0 (.list [.int 0 0]) = h2 at *
      refine ⟨rfl, by decide, by decide, ?_⟩
      refine ⟨fun j σ => Ex2 fun l' h3 => All8 (σ = sto l' h3) (h3 = h2.set W (.list (nInts (([4, 3, 2, 1, 0].take j).foldl (wStep us m) (0, [0, 0, 0, 0, 0, 0])).2))) (nm l' "ties" = some (.int ((([4, 3, 2, 1, 0].take j).foldl (wStep us m) (0, [0, 0, 0, 0, 0, 0])).1 : Nat) 0)) (nm l' "worth" = some (.ref W)) (nm l' "m" = some (.int m 0)) (nm l' "told" = some (.ref TD)) (nm l' "ups" = some (.ref u)) (nm l' "first" = some (.int first 0)), ?_, ?_, ?_⟩
      · exact weak_sto ⟨[("ties", .int 0 0), ("worth", .ref W), ("m", .int m 0), ("told", .ref TD), ("ups", .ref u), ("first", .int first 0)], _, rfl, rfl, rfl, rfl, rfl, rfl, rfl, rfl⟩ ⟨rfl, rfl, rfl, l1, l2, l3, trivial⟩ fun _ _ e => e
      · rintro j v σ ⟨l', h3, rfl, rfl, k1, k2, k3, k4, k5, k6⟩ hj
        obtain ⟨hj, rfl⟩ := down_at (n := 5) hj
        refine ⟨trivial, ?_⟩
        dsimp only [sto_put]
        have ets : ([4, 3, 2, 1, 0].take (j + 1)).foldl (wStep us m) (0, [0, 0, 0, 0, 0, 0]) = wStep us m (([4, 3, 2, 1, 0].take j).foldl (wStep us m) (0, [0, 0, 0, 0, 0, 0])) (5 - 1 - j) := by
          match j, hj with
          | 0, _ => rfl
          | 1, _ => rfl
          | 2, _ => rfl
          | 3, _ => rfl
          | 4, _ => rfl
        have hwl : (([4, 3, 2, 1, 0].take j).foldl (wStep us m) (0, [0, 0, 0, 0, 0, 0])).2.length = 6 := foldW_len us m _ _
        have hk : 5 - 1 - j < 5 := by omega
        generalize ([4, 3, 2, 1, 0].take j).foldl (wStep us m) (0, [0, 0, 0, 0, 0, 0]) = p at *
        obtain ⟨ti, ws⟩ := p
        dsimp only at hwl k1 ⊢
        have hg := hug (5 - 1 - j) hk
        generalize 5 - 1 - j = k at *
        refine look k3 (look rfl (v_shrN (v_andN (m := 1) (v_tru ?_))))
        rw [mod2, tru_toNat]
        have eW : (h2.set W (.list (nInts ws))) W = some (.list (nInts ws)) := H.set_self ..
        have eU := sub1 _ _ (sub _ _ hu) (nInts ws)
        refine ⟨fun hb => ?_, fun hb => ?_⟩
        · refine look k1 (v_aAdd ?_)
          dsimp only [sto_put]
          refine look k2 (look k5 (look rfl (v_item (xs := nInts us) eU (at_nInts (by omega) (by omega)) (v_item (xs := nInts ws) eW (at_nInts (by omega) (by omega)) (look k2 (look rfl (v_addN (m := 1) (v_item (xs := nInts ws) eW (at_nInts (by omega) (by omega)) (v_addN (m := 1) (v_aXorN (v_setItem (xs := nInts ws) eW (setAt_nInts (by omega) (by omega)) ?_)))))))))))
          simp only [sto_seth, H.set_set]
          refine weak_sto ⟨[("ties", .int (ti + 1 : Nat) 0), ("worth", .ref W), ("m", .int m 0), ("told", .ref TD), ("ups", .ref u), ("first", .int first 0)], _, rfl, ?_, ?_, rfl, rfl, rfl, rfl, rfl⟩ ⟨rfl, k2, k3, k4, k5, k6, trivial⟩ fun _ _ e => e
          · rw [ets]; unfold wStep; rw [if_pos hb]; rfl
          · rw [ets]; unfold wStep; rw [if_pos hb]; rfl
        · refine weak_sto ⟨[("ties", .int (ti : Nat) 0), ("worth", .ref W), ("m", .int m 0), ("told", .ref TD), ("ups", .ref u), ("first", .int first 0)], _, rfl, ?_, ?_, rfl, rfl, rfl, rfl, rfl⟩ ⟨k1, k2, k3, k4, k5, k6, trivial⟩ fun _ _ e => e
          · rw [ets]; unfold wStep; rw [if_neg (by rw [hb]; decide)]; rfl
          · rw [ets]; unfold wStep; rw [if_neg (by rw [hb]; decide)]; rfl
      · rintro σ ⟨l', h3, rfl, rfl, k1, k2, k3, k4, k5, k6⟩
        refine ⟨trivial, ?_⟩
        have hr5 : (rangeVals 4 (-1) (4 - -1 : Int).toNat).length = 5 := by simp [rangeVals]
        rw [hr5] at k1 ⊢
        have hwl : (wFold us m).2.length = 6 := foldW_len us m _ _
        have ew : ([4, 3, 2, 1, 0].take 5).foldl (wStep us m) (0, [0, 0, 0, 0, 0, 0]) = wFold us m := rfl
        rw [ew] at k1 ⊢
        have hti : (wFold us m).1 = (tw us m).1 := rfl
        have htw : (wFold us m).2.getD 0 0 = (tw us m).2 := rfl
        refine look k1 (look k2 (v_item (xs := nInts (wFold us m).2) (k := ((0 : Nat) : Int)) (H.set_self ..) (at_nInts (by omega) (by omega)) ⟨(show (2 : Nat) ≤ 1000000 by decide), fun R hR => ?_⟩))
        dsimp only [sto_h] at hR
        dsimp only [sto_seth]
        refine look k4 (look k3 (look k6 ⟨m, first, rfl, hm32, hf, ?_⟩))
        dsimp only [sto_h, sto_mk]
        have sub2 : ∀ a o, h1 a = some o → (H.set (H.set h2 W (.list (nInts (wFold us m).2))) R (.list [.int ((wFold us m).1 : Nat) 0, .int ((wFold us m).2.getD 0 0 : Nat) 0])) a = some o := fun a o e => H.set_fresh (sub1 _ _ e _) hR
        refine v_wdSet (m := m) (w.ext sub2) hf (fun n hn => hms n (List.mem_of_mem_take hn)) hm32 hmi (by rw [List.length_take]; omega) (H.set_self ..) fun h4 w4 k => ?_
        refine weak_sto ⟨[("told", .ref TD), ("ups", .ref u), ("first", .int first 0)], h4, rfl, by rw [htk]; exact w4, fun a o e => (k a fun q => by rw [q, hTD] at e; cases e).trans (sub2 _ _ (sub a o e)), rfl, rfl, rfl⟩ ⟨k4, k5, k6, trivial⟩ fun _ _ e => e
    · rintro σ ⟨l, h1, rfl, w, sub, l1, l2, l3⟩
      rw [nInts_length, List.take_length] at w
      exact ⟨.inl (sub _ _ hs), look l1 ⟨h1, fun _ _ e => e, hq h1 TD w sub hTD⟩⟩
noncomputable def S_new : Spec := fun args Q h => args = [] ∧ ∀ h' x L, SA 145 48 h' x L T0 → (∀ a o, h a = some o → h' a = some o) → (∀ a, L.fp x T0 a → h a = none) → Q (.ref x) h'
theorem ok_new (g : Gn) : CallOK g.G 2 (.ref 145) S_new := by
  have h145 : CallOK g.G 2 (.ref 145) _ := callOK_class (st_make_ts g) (st_init_ts g) (st_fn_ts_init g) (ok_tinit g)
  intro A outer keep h s args Q hr hon hR hS
  refine h145 A outer keep h s args Q hr hon hR ?_
  obtain ⟨ha, hq⟩ := hS
  rw [ha]
  intro x dx hx hdx hne
  refine ⟨x, dx, rfl, H.set_self .., (H.set_ne _ _ hne).trans (H.set_self ..), fun D ep hDx hDd hD => ⟨rfl, ?_⟩⟩
  rw [H.set_ne _ _ hDx, H.set_ne _ _ hDd] at hD
  generalize hh : H.set (H.set (H.set (H.set h dx _) x _) D _) dx _ = h'
  have e1 : h' x = some (.inst 145 dx []) := by rw [← hh, H.set_ne _ _ hne.symm, H.set_ne _ _ hDx.symm, H.set_self]
  have e2 : h' dx = some (.nd (tsNd D .none 0 0)) := by rw [← hh, H.set_self]
  have e3 : h' D = some (.sd [] ep) := by rw [← hh, H.set_ne _ _ hDd, H.set_self]
  refine hq h' x ⟨dx, D, 0, ep, fun _ => 0, fun _ => 0, fun _ => 0⟩ ⟨e1, e2, e3, by simp [T0], fun v hv => (by cases hv), fun v hv => (by cases hv), fun v hv => (by cases hv), fun v hv => (by cases hv), fun rs e => (by cases e)⟩ ?_ ?_
  · intro a o e
    rw [← hh]
    exact H.set_ne _ _ (fun q => by rw [q, hdx] at e; cases e) |>.trans ((H.set_ne _ _ (fun q => by rw [q, hD] at e; cases e)).trans ((H.set_ne _ _ (fun q => by rw [q, hx] at e; cases e)).trans ((H.set_ne _ _ (fun q => by rw [q, hdx] at e; cases e)).trans e)))
  · rintro a (rfl | rfl | rfl | ⟨e, _⟩ | ⟨v, hv, _⟩)
    · exact hx
    · exact hdx
    · exact hD
    · exact absurd rfl e
    · cases hv
set_option genInjectivity false in
structure PL (l : List (Str × Value)) (s fl : Addr) (first : Nat) (TX WY x : Addr) : Prop where
  a : nm l "stands" = some (.ref s)
  b : nm l "falls" = some (.ref fl)
  c : nm l "first" = some (.int first 0)
  d : nm l "texts" = some (.ref TX)
  e : nm l "ways" = some (.ref WY)
  f : nm l "sorter" = some (.ref x)
noncomputable abbrev pl0 (s fl : Addr) (first : Nat) (TX WY x : Addr) : List (Str × Value) := [("stands", .ref s), ("falls", .ref fl), ("first", .int first 0), ("texts", .ref TX), ("ways", .ref WY), ("sorter", .ref x)]
theorem PL.of {s fl : Addr} {first : Nat} {TX WY x : Addr} : PL (pl0 s fl first TX WY x) s fl first TX WY x := ⟨rfl, rfl, rfl, rfl, rfl, rfl⟩
theorem PL.all {l : List (Str × Value)} {h : H} {s fl : Addr} {first : Nat} {TX WY x : Addr} (d : PL l s fl first TX WY x) : AllIn (sto l h) (pl0 s fl first TX WY x) := ⟨d.a, d.b, d.c, d.d, d.e, d.f, trivial⟩
noncomputable def S_played : Spec := fun args Q h => Ex4 fun s fl us (first : Nat) => All7 (args = [.ref s, .ref fl, .int first 0]) (Garden us) (first < 28) (h s = some (.list (nInts (standsOf us)))) (h fl = some (.list (nInts (fallsOf us)))) (h 22 = some (.rod cfn)) (∀ h' r wd ms, h' r = some (.list [.ref wd, .bool false]) → WD h' wd first ms (tw us) → (∀ m, m ∈ ms ↔ m ∈ standsOf us) → ms.Nodup → (∀ a o, h a = some o → h' a = some o) → Q (.ref r) h')
theorem ok_played (g : Gn) : CallOK g.G 5 (.ref 223) S_played := by
  have h29 := ok_pretty g
  have h145 := ok_new g
  have h95 := ok_add g
  have h100 := ok_prep g
  have h107 := ok_ready g
  have h156 := ok_push g
  have h218 := ok_least g
  have h128 := ok_done g
  have h114 := ok_isact g
  refine' callOK_def (n := 4) (BS := bsPlain [Str.ofString "stands", Str.ofString "falls", Str.ofString "first"]) (lk__law_played g) rfl (cd__law_played g) rfl rfl (bindOK3 fun _ _ _ => rfl) (kind_plain (by rfl)) ?r ?s
  case r =>
    intro A L outer hroom hA
    (repeat' (first | (with_reducible first | exact RS_nil | exact R_Break | exact R_Continue | exact R_Pass | exact R_dead (st := .Raise _ _ _) | exact R_dead (st := .Assert _ _ _) | exact R_dead (st := .For _ (.Call (.Attribute _ "items" _) _ _ _) _ _ _) | exact R_Dict | exact allTrue_and_nil | exact allTrue_or_nil | exact RArg_nil | exact RSp_nil | exact RT_nil rfl) | (with_reducible first | apply RS_one | apply RS_consJ (st := .If _ _ _ _) | apply RS_cons | apply R_Return | apply R_If | apply R_Assign_Comp | apply R_Assign_Name | apply R_Assign_Two | apply R_Assign_Item | apply D_Aug_Name | apply D_Aug_Item | apply R_Del | apply R_While | apply D_For | apply R_TryNext | apply R_Expr | apply R_Const | apply gg_COMPILER_FLAG_NAMES | apply gg_NODE_OUT | apply gg_NODE_DONE | apply gg_pretty_flags | apply gg_heappush | apply gg_heappop | apply gg_siftdown | apply gg_siftup | apply gg_law_ups | apply gg_law_falls | apply gg_law_stands | apply gg_law_word | apply gg_law_words | apply gg_law_told | apply gg_law_least | apply gg_law_played | apply gg_NodeInfo | apply gg_CycleError | apply gg_TopologicalSorter | apply gb_range | apply gb_len | apply gb_hex | apply gb_sum | apply gb_min | apply gb_max | apply gb_sorted | apply gb_iter | apply gb_tuple | apply gb_list | apply gb_set | apply gb_bool | apply gb_StopIteration | apply R_Name | apply D_BinOp | apply D_UnaryOp | apply D_cmp2 | apply R_IfExp | apply D_Bool2 | apply R_SliceFrom | apply R_Sub | apply R_Named | apply R_ListComp | apply R_List | apply D_attr_d (st_n2i _) | apply D_st_d (st_n2i _) | apply D_aug_d (st_n2i _) | apply D_attr_d (st_rdy _) | apply D_st_d (st_rdy _) | apply D_aug_d (st_rdy _) | apply D_attr_d (st_npo _) | apply D_st_d (st_npo _) | apply D_aug_d (st_npo _) | apply D_attr_d (st_nfi _) | apply D_st_d (st_nfi _) | apply D_aug_d (st_nfi _) | apply D_attr_s (st_node _) | apply D_st_s (st_node _) | apply D_aug_s (st_node _) | apply D_attr_s (st_npred _) | apply D_st_s (st_npred _) | apply D_aug_s (st_npred _) | apply D_attr_s (st_succ _) | apply D_st_s (st_succ _) | apply D_aug_s (st_succ _) | apply D_method (hst := st_m_info _) (hkp := st_k_get_info _) | apply D_method (hst := st_m_cyc _) (hkp := st_k_find_cycle _) | apply D_method (hst := st_m_prep _) (hkp := st_k_prepare _) | apply D_method (hst := st_m_ready _) (hkp := st_k_get_ready _) | apply D_method (hst := st_m_act _) (hkp := st_k_is_active _) | apply D_setadd (o := .Name "seen" _) | apply D_methodStar (args := [_, .Starred _ _]) (hst := st_b_add _) | apply D_methodStar (args := [.Starred _ _]) (hst := st_b_done _) | apply D_attr_next | apply D_append | apply D_pop | apply D_clear | apply D_get | apply D_join | apply D_split | apply D_len (func := .Name "len" _) | apply D_hex (func := .Name "hex" _) | apply D_sorted (func := .Name "sorted" _) | apply D_iter (func := .Name "iter" _) | apply D_tuple (func := .Name "tuple" _) | apply D_list (func := .Name "list" _) | apply D_set (func := .Name "set" _) | apply D_bool (func := .Name "bool" _) | apply D_sum (func := .Name "sum" _) | apply D_min (func := .Name "min" _) | apply D_max (func := .Name "max" _) | apply D_call (func := .Name "pretty_flags" _) (hk := kk_pretty_flags _) | apply D_call (func := .Name "heappush" _) (hk := kk_heappush _) | apply D_call (func := .Name "heappop" _) (hk := kk_heappop _) | apply D_call (func := .Name "_siftdown" _) (hk := kk_siftdown _) | apply D_call (func := .Name "_siftup" _) (hk := kk_siftup _) | apply D_call (func := .Name "_law_ups" _) (hk := kk_law_ups _) | apply D_call (func := .Name "_law_falls" _) (hk := kk_law_falls _) | apply D_call (func := .Name "_law_stands" _) (hk := kk_law_stands _) | apply D_call (func := .Name "_law_word" _) (hk := kk_law_word _) | apply D_call (func := .Name "_law_words" _) (hk := kk_law_words _) | apply D_call (func := .Name "_law_told" _) (hk := kk_law_told _) | apply D_call (func := .Name "_law_least" _) (hk := kk_law_least _) | apply D_call (func := .Name "_law_played" _) (hk := kk_law_played _) | apply D_call (func := .Name "_NodeInfo" _) (hk := kk_NodeInfo _) | apply D_call (func := .Name "CycleError" _) (hk := kk_CycleError _) | apply D_call (func := .Name "TopologicalSorter" _) (hk := kk_TopologicalSorter _) | apply DB_cmp2 | apply RB_Not | apply RB_Bool | apply allTrue_and | apply allTrue_or | apply RB_If | apply DB_plain | apply RArg_lone | apply RArg_cons | apply RSp_star | apply RSp_cons | apply D_range1 (fn := .Name "range" _) | apply RI_range3 | apply RI_values | apply RI_val | apply RT_one) | assumption | with_unfolding_all rfl | (with_reducible intro _; with_unfolding_all rfl) | decide | exact Room.handled (by assumption) | intro _))
  case s =>
    rintro args Q h ⟨s, fl, us, first, rfl, hg, hf, hs, hfl, hcf, hq⟩
    refine ⟨rfl, ?_⟩
    simp only [bindsSt_sto, seqM, seqJ, asgM, augM, augItemM, augAttrM, bindM, pureM, varM, exprM, retM, stAttrM, stItemM, iteM, failM, boolM, andB, orB, stTwoM, methM, consM, starM, callM, initS, whileM, forM, compM, putM, delM, testM, newM, listM]
    have hst32 : ∀ m ∈ standsOf us, m < 32 := fun m h => stands_lt h
    have hsnd := stands_nodup us
    have hslen := stands_len us
    have hgf : ∀ m ∈ standsOf us, GF us m := fun m h => gf hg h
    have hgst : ∀ m ∈ standsOf us, ∀ c ∈ cuts us m, c ∈ standsOf us := fun m h => (gf hg h).st
    have hcl := fun m => cuts_len us m
    have htw5 : ∀ m ∈ standsOf us, (tw us m).1 < 6 := fun m h => by have := (hgf m h).le; omega
    generalize hms : standsOf us = ms at *
    have hsi : ∀ i v, (nInts ms)[i]? = some v → ∃ h : i < ms.length, v = .int (ms[i] : Nat) 0 := fun i v hi => by
      have hil : i < ms.length := by
        have := (List.getElem?_eq_some_iff.mp hi).1
        rwa [nInts_length] at this
      unfold nInts at hi
      rw [List.getElem?_map, List.getElem?_eq_getElem hil] at hi
      exact ⟨hil, (Option.some.inj hi).symm⟩
    have htk : ∀ i (h : i < ms.length), ms.take (i + 1) = ms.take i ++ [ms[i]] := fun i h => by rw [List.take_add_one, List.getElem?_eq_getElem h]; rfl
    have hnt : ∀ i (h : i < ms.length), ms[i] ∉ ms.take i := fun i h q => by
      have h1 : (ms.take i ++ ms.drop i).Nodup := by rw [List.take_append_drop]; exact hsnd
      rw [List.nodup_append] at h1
      exact h1.2.2 _ q _ (by rw [List.drop_eq_getElem_cons h]; exact .head _) rfl
    refine .inr fun TX hTX => ?_
    dsimp only [sto_h] at hTX
    dsimp only [sto_seth, sto_put]
    have e0 : ∀ a o, h a = some o → ∀ p, (h.set TX p) a = some o := fun a o e p => H.set_fresh e hTX
    refine look rfl (v_iterList (e0 _ _ hs _) ?_)
    refine ⟨fun i σ => Ex2 fun l h' => All6 (σ = sto l h') (h' = h.set TX (.idt (txl first (ms.take i)))) (nm l "stands" = some (.ref s)) (nm l "falls" = some (.ref fl)) (nm l "first" = some (.int first 0)) (nm l "texts" = some (.ref TX)), ?_, ?_, ?_⟩
    · exact weak_sto ⟨[("stands", .ref s), ("falls", .ref fl), ("first", .int first 0), ("texts", .ref TX)], _, rfl, rfl, rfl, rfl, rfl, rfl⟩ ⟨rfl, rfl, rfl, rfl, trivial⟩ fun _ _ e => e
    · rintro i v σ ⟨l, h', rfl, rfl, l1, l2, l3, l4⟩ hi
      refine ⟨.inl (e0 _ _ hs _), ?_⟩
      obtain ⟨hil, rfl⟩ := hsi i v hi
      have hm32 := hst32 _ (List.getElem_mem hil)
      have h1 := htk i hil
      have h2 := hnt i hil
      generalize ms[i] = m at *
      dsimp only [sto_put]
      refine look rfl (look l3 (v_shlN (by omega) (by omega) ?_))
      refine ⟨m <<< first, rfl, ?_, e0 _ _ hcf _, look l4 (look rfl ?_)⟩
      · rw [Nat.shiftLeft_eq]
        calc m * 2 ^ first ≤ 31 * 2 ^ first := Nat.mul_le_mul_right _ (by omega)
          _ ≤ 31 * 2 ^ 27 := Nat.mul_le_mul_left _ (Nat.pow_le_pow_right (by decide) (by omega))
          _ < 2 ^ 32 := by decide
      dsimp only [sto_h, sto_mk]
      refine v_setI (kvi := txl first (ms.take i)) (H.set_self ..) (by rw [txl, List.length_map, List.length_take]; omega) ?_
      simp only [sto_seth, H.set_set]
      refine weak_sto ⟨[("stands", .ref s), ("falls", .ref fl), ("first", .int first 0), ("texts", .ref TX)], _, rfl, ?_, rfl, rfl, rfl, rfl⟩ ⟨l1, l2, l3, l4, trivial⟩ fun _ _ e => e
      exact (congrArg (fun z => h.set TX (.idt z)) (txl_set h2)).trans (by rw [h1])
    · rintro σ ⟨l, h', rfl, rfl, l1, l2, l3, l4⟩
      rw [nInts_length, List.take_length]
      refine ⟨.inl (e0 _ _ hs _), .inl fun ep WY hWY => ?_⟩
      dsimp only [sto_h] at hWY
      dsimp only [sto_seth, sto_put]
      have e1 : ∀ a o, h a = some o → (H.set (h.set TX (.idt (txl first ms))) WY (.sd [] ep)) a = some o := fun a o e => H.set_fresh (e0 _ _ e _) hWY
      have kTX : (H.set (h.set TX (.idt (txl first ms))) WY (.sd [] ep)) TX = some (.idt (txl first ms)) := H.set_fresh (H.set_self ..) hWY
      have kWY : (H.set (h.set TX (.idt (txl first ms))) WY (.sd [] ep)) WY = some (.sd [] ep) := H.set_self ..
      generalize H.set (h.set TX (.idt (txl first ms))) WY (.sd [] ep) = K1 at *
      refine ⟨rfl, fun h1 x L S0 sub0 fp0 => ?_⟩
      dsimp only [sto_h] at sub0 fp0
      have O0 : Own K1 h1 (L.fp x T0) := ⟨sub0, fun a o e q => by rw [fp0 a q] at e; cases e⟩
      dsimp only [sto_mk, sto_put]
      refine look l1 (v_iterList (O0.get _ _ (e1 _ _ hs)) ?_)
      refine ⟨fun i σ => Ex5 fun l h' K L T => All8 (σ = sto l h') (PL l s fl first TX WY x) (SA 145 48 h' x L T) (Own K h' (L.fp x T)) (Built (gE us first (ms.take i)) (gN us first (ms.take i)) T) ((∀ a o, h a = some o → K a = some o)) (K TX = some (.idt (txl first ms))) (TDict K WY first (ms.take i) (fun m => strVs ((cuts us m).map (textOf first)))), ?_, ?_, ?_⟩
      · exact weak_sto ⟨pl0 s fl first TX WY x, h1, K1, L, T0, rfl, PL.of, S0, O0, built0, e1, kTX, TDict.new kWY⟩ ⟨l1, l2, l3, l4, rfl, rfl, trivial⟩ fun _ _ e => e
      · rintro i v σ ⟨l, h2, K, L, T, rfl, pl, S, O, B, sub, kTX, tdw⟩ hi
        refine ⟨.inl (O.get _ _ (sub _ _ hs)), ?_⟩
        obtain ⟨hil, rfl⟩ := hsi i v hi
        have hmm : ms[i] ∈ ms := List.getElem_mem hil
        have hm32 := hst32 _ hmm
        have q1 := htk i hil
        have q2 := hnt i hil
        have hgm := hgf _ hmm
        generalize ms[i] = m at *
        dsimp only [sto_put]
        refine v_range1 (by decide) (by decide) ⟨fun j ys h' => h' = h2 ∧ j ≤ 5 ∧ ys = strVs (((bitsTo m j).map (cut us m)).map (textOf first)), ⟨rfl, by omega, rfl⟩, ?_⟩
        rintro j ys h' ⟨rfl, hj5, rfl⟩
        have hbl := bitsTo_len m j
        refine ⟨trivial, fun v hv => ?_, fun hn D hD => ?_⟩
        · obtain ⟨hj, rfl⟩ := range_at hv
          have hj : j < 5 := hj
          simp only [comp_sto, sto_put]
          refine look rfl (look rfl (v_shrN (v_andN (m := 1) (v_tru ?_))))
          rw [mod2, tru_toNat]
          refine ⟨fun hb => ?_, fun hb => ⟨rfl, by omega, ?_⟩⟩
          · have hcm : cut us m j ∈ cuts us m := List.mem_map_of_mem (List.mem_filter.mpr ⟨List.mem_range.mpr hj, hb⟩)
            refine look (by show nm (frees _ (("m", _) :: l)) "texts" = _; exact nm_frees pl.d rfl) (look rfl (look (by show nm (frees _ (("m", _) :: l)) "falls" = _; exact nm_frees pl.b rfl) (look rfl (v_item (xs := nInts (fallsOf us)) (O.get _ _ (sub _ _ hfl)) (at_nInts (by show _ < (fallsOf us).length; unfold fallsOf; rw [foldFalls_len]; exact hj) (by omega)) ?_))))
            refine v_inv (v_andNot ?_)
            refine v_itemI (kvi := txl first ms) (O.get _ _ kTX) (v := .str (textOf first (cut us m j)) 0) ?_ ?_
            · exact (txl_at (m := cut us m j)).trans (if_pos (hgst _ hmm _ hcm))
            · refine ⟨by rw [strVs_length, List.length_map, List.length_map]; omega, rfl, by omega, ?_⟩
              rw [strVs_snoc, bitsTo_succ, if_pos hb, List.map_append, List.map_append]; rfl
          · rw [bitsTo_succ, if_neg (by rw [hb]; decide)]
        · have hj : 5 ≤ j := range_end hn
          have hj : j = 5 := by omega
          subst hj
          dsimp only [sto_mk]
          have nD := S.new hD
          have S1 : SA 145 48 (h'.set D (.list (strVs ((cuts us m).map (textOf first))))) x L T := S.keepSet nD
          have O1 : Own (K.set D (.list (strVs ((cuts us m).map (textOf first))))) (h'.set D (.list (strVs ((cuts us m).map (textOf first))))) (L.fp x T) := O.new nD
          have hKD := O.none hD
          have sub1 : ∀ a o, K a = some o → (K.set D (.list (strVs ((cuts us m).map (textOf first))))) a = some o := fun a o e => H.set_fresh e hKD
          have kD : (K.set D (.list (strVs ((cuts us m).map (textOf first))))) D = some (.list (strVs ((cuts us m).map (textOf first)))) := H.set_self ..
          show ∃ v, _
          change SA _ _ (h'.set D (.list (strVs (((bitsTo m 5).map (cut us m)).map (textOf first))))) _ _ _ at S1
          change Own _ (h'.set D (.list (strVs (((bitsTo m 5).map (cut us m)).map (textOf first))))) _ at O1
          generalize h'.set D (.list (strVs (((bitsTo m 5).map (cut us m)).map (textOf first)))) = h3 at *
          have td1 := tdw.ext sub1
          have sub2 := fun a o e => sub1 a o (sub a o e)
          have kTX2 := sub1 _ _ kTX
          generalize K.set D (.list (strVs ((cuts us m).map (textOf first)))) = K3 at *
          have gTX : ∀ (h : H) (K : H) (fp : Addr → Prop), Own K h fp → K TX = some (.idt (txl first ms)) → ∀ (l : List (Str × Value)) (Q : Value → St → Prop), Q (.str (textOf first m) 0) (sto l h) → itemM (.ref TX) (.int (m : Nat) 0) Q (sto l h) := fun h K fp O e l Q hq => v_itemI (O.get _ _ e) ((txl_at (m := m)).trans (if_pos hmm)) hq
          refine look pl.e (look pl.d (look rfl (gTX _ _ _ O1 kTX2 _ _ ?_)))
          refine v_tdSetK (m := m) td1 O1.get hf (fun n hn => hst32 n (List.mem_of_mem_take hn)) hm32 q2 (by rw [List.length_take]; omega) kD fun o td2 => ?_
          obtain ⟨kvs, epw, eWY⟩ := td1.alive
          have O2 := O1.set (o' := o) eWY
          have S2 : SA 145 48 (h3.set WY o) x L T := S1.keepSet (O1.out _ _ eWY)
          have hWYh : h WY = none := by
            cases z : h WY with
            | none => rfl
            | some o' => have z1 := e0 _ _ z (.idt (txl first ms)); rw [hWY] at z1; cases z1
          have sub3 : ∀ a o', h a = some o' → (K3.set WY o) a = some o' := fun a o' e => (H.set_ne _ _ fun q => by rw [q, hWYh] at e; cases e).trans (sub2 a o' e)
          have kTX3 : (K3.set WY o) TX = some (.idt (txl first ms)) := H.set_other kTX2 eWY (by intro q; cases q)
          generalize K3.set WY o = K4 at *
          generalize h3.set WY o = h4 at *
          refine look pl.f ⟨v_isInst S2.hx S2.hdx (by rfl), look pl.d (look rfl (gTX _ _ _ O2 kTX3 _ _ (look pl.e (look pl.d (look rfl (gTX _ _ _ O2 kTX3 _ _ ?_))))))⟩
          have hin : m ∈ ms.take i ++ [m] := List.mem_append_right _ (.head _)
          have h32' : ∀ n ∈ ms.take i ++ [m], n < 32 := fun n hn => (List.mem_append.mp hn).elim (fun z => hst32 n (List.mem_of_mem_take z)) fun z => List.mem_singleton.mp z ▸ hm32
          refine v_tdGetK td2 O2.get hf h32' hin fun r kr => ?_
          unfold itemsOf
          have gr : (sto (("m", .int (m : Nat) 0) :: l) h4).h r = some (.list (strVs ((cuts us m).map (textOf first)))) := O2.get _ _ kr
          simp only [gr]
          have hcm := hcl m
          refine ⟨by rw [strVs_length, List.length_map]; omega, ?_⟩
          have hsub' : ∀ n ∈ ms.take i, n ∈ standsOf us := fun n hn => hms ▸ List.mem_of_mem_take hn
          have hnames : T.names.length ≤ 32 := by
            have := nodup_len (N := ms.map (textOf first)) S2.nd fun v hv => by
              obtain ⟨n, hn, rfl⟩ := gN_text hg hsub' ((B.mem v).mp hv)
              exact List.mem_map_of_mem (hms ▸ hn)
            rw [List.length_map] at this; omega
          have hEl : (gE us first (ms.take i)).length ≤ 160 := by
            have h1 := gE_len us first (ms.take i)
            have h2 : (ms.take i).length ≤ 32 := by rw [List.length_take]; omega
            omega
          refine ⟨x, textOf first m, L, T, (cuts us m).map (textOf first), by rw [List.append_nil], S2, by rw [List.length_map]; omega, B.blank, B.rdy, fun w => ?_, fun h5 L5 S5 F5 => ?_⟩
          · rw [B.succ, List.length_map]
            have := outs_len (gE us first (ms.take i)) w
            omega
          · have B5 := B.add (textOf first m) ((cuts us m).map (textOf first))
            rw [← gE_snoc, ← gN_snoc, ← q1] at B5
            rw [← q1] at td2
            exact weak_sto ⟨pl0 s fl first TX WY x, h5, K4, L5, _, rfl, PL.of, S5, O2.frame F5, B5, sub3, kTX3, td2⟩ ⟨pl.a, pl.b, pl.c, pl.d, pl.e, pl.f, trivial⟩ fun _ _ e => e
      · rintro σ ⟨l, h2, K, L, T, rfl, pl, S, O, B, sub, kTX, tdw⟩
        rw [nInts_length, List.take_length] at B tdw
        refine ⟨.inl (O.get _ _ (sub _ _ hs)), ?_⟩
        have hnames : T.names.length ≤ 32 := by
          have := nodup_len (N := ms.map (textOf first)) S.nd fun v hv => by
            obtain ⟨n, hn, rfl⟩ := gN_text hg (fun m h => hms ▸ h) ((B.mem v).mp hv)
            exact List.mem_map_of_mem (hms ▸ hn)
          rw [List.length_map] at this; omega
        have hEl : (gE us first ms).length ≤ 160 := by
          have h1 := gE_len us first ms
          omega
        have hsl : ∀ p, (T.succ p).length ≤ 160 := fun p => by rw [B.succ]; exact Nat.le_trans (outs_len _ _) hEl
        have hcls : ∀ v ∈ T.names, ∀ s ∈ T.succ v, s ∈ T.names := fun v _ s hs => by
          rw [B.succ] at hs
          exact (B.mem s).mpr (B.cl _ (outs_mem.mp hs)).2
        refine look pl.f ⟨v_isInst S.hx S.hdx (by rfl), x, L, T, rfl, S, by omega, B.rdy, hcls, fun v _ => Nat.le_trans (hsl v) (by decide), fun v _ => ?_, fun h3 L3 S3 F3 => ?_⟩
        · rw [show T.succ = outs (gE us first ms) from funext B.succ, ← hms]; exact g_noRing hg hf v
        have R3 := B.prep S.nd
        have O3 := O.frame F3
        dsimp only [sto_mk]
        refine .inl fun epw WT hWT => ?_
        dsimp only [sto_h] at hWT
        dsimp only [sto_seth, sto_put]
        have nWT := S3.new hWT
        have hKWT := O3.none hWT
        have hWT0 : h WT = none := by
          cases z : h WT with
          | none => rfl
          | some o => have := sub _ _ z; rw [hKWT] at this; cases this
        have hWne : WY ≠ WT := fun q => by
          obtain ⟨_, _, z⟩ := tdw.alive
          rw [q, hKWT] at z; cases z
        refine v_range1 (by decide) (by decide) ?_
        have sub4 : ∀ a o, K a = some o → (K.set WT (.sd [] epw)) a = some o := fun a o e => H.set_fresh e hKWT
        refine ⟨fun t σ => Ex8 fun l h' K L T D rs dn => All13 (σ = sto l h') (PL l s fl first TX WY x) (nm l "worths" = some (.ref WT)) (SA 145 48 h' x L T) (Own K h' (L.fp x T)) (Rd (gE us first ms) (gN us first ms) D T rs) ((∀ a o, h a = some o → K a = some o)) (K TX = some (.idt (txl first ms))) (TDict K WY first ms (fun m => strVs ((cuts us m).map (textOf first)))) ((∀ m ∈ ms, D (textOf first m) = decide ((tw us m).1 < t))) (WD K WT first dn (tw us)) (dn.Nodup) ((∀ m, m ∈ dn ↔ m ∈ ms ∧ (tw us m).1 < t)), ?_, ?_, ?_⟩
        · exact weak_sto ⟨("worths", .ref WT) :: pl0 s fl first TX WY x, _, K.set WT (.sd [] epw), L3, _, _, _, [], rfl, ⟨rfl, rfl, rfl, rfl, rfl, rfl⟩, rfl, S3.keepSet nWT, O3.new nWT, R3, fun a o e => sub4 _ _ (sub a o e), sub4 _ _ kTX, tdw.ext sub4, fun m hm => by simp, TDict.new (H.set_self ..), by simp, fun m => by simp⟩ ⟨rfl, pl.a, pl.b, pl.c, pl.d, pl.e, pl.f, trivial⟩ fun _ _ e => e
        · rintro t v σ ⟨l, h4, K, L, T, D, rs, dn, rfl, pl, lw, S, O, R, sub, kTX, tdw, hD, wd, hdn, hdm⟩ hi
          obtain ⟨ht, rfl⟩ := range_at hi
          have ht : t < 6 := ht
          refine ⟨trivial, ?_⟩
          dsimp only [sto_put]
          have hsub : ∀ v ∈ rs, v ∈ T.names := R.sub
          have hnames : T.names.length ≤ 32 := by
            have := nodup_len (N := ms.map (textOf first)) S.nd fun v hv => by
              obtain ⟨n, hn, rfl⟩ := gN_text hg (fun m h => hms ▸ h) ((R.mem v).mp hv)
              exact List.mem_map_of_mem (hms ▸ hn)
            rw [List.length_map] at this; omega
          have hrl : rs.length ≤ 32 := Nat.le_trans (nodup_len R.nod hsub) hnames
          refine look pl.f ⟨v_isInst S.hx S.hdx (by rfl), x, L, T, rs, rfl, S, R.rdy, hsub, by omega, fun h5 L5 tp S5 F5 etp ntp htp => ?_⟩
          obtain ⟨rm, hrm, hrmn, hrmm⟩ : ∃ rm : List Nat, rs = rm.map (textOf first) ∧ rm.Nodup ∧ ∀ m, m ∈ rm ↔ m ∈ ms ∧ (tw us m).1 = t := by
            rw [← hms] at R hD ⊢
            exact g_turn hg hf R hD
          have O5 := O.frame F5
          have hKtp := O.none htp
          have O6 : Own (K.set tp (.tup (strVs rs))) h5 (L5.fp x (readyT T rs)) := ⟨fun a o e => by
            by_cases q : a = tp
            · subst q; rw [H.set_self] at e; rw [← e]; exact etp
            · rw [H.set_ne _ _ q] at e; exact O5.get a o e, fun a o e => by
            by_cases q : a = tp
            · subst q; exact ntp
            · rw [H.set_ne _ _ q] at e; exact O5.out a o e⟩
          have sub6 : ∀ a o, K a = some o → (K.set tp (.tup (strVs rs))) a = some o := fun a o e => H.set_fresh e hKtp
          have ktp : (K.set tp (.tup (strVs rs))) tp = some (.tup (strVs rs)) := H.set_self ..
          have tdw6 := tdw.ext sub6
          have wd6 := wd.ext sub6
          have kTX6 := sub6 _ _ kTX
          have subh6 := fun a o e => sub6 a o (sub a o e)
          generalize K.set tp (.tup (strVs rs)) = K6 at *
          dsimp only [sto_mk, sto_put]
          refine look rfl (v_iterTup etp ?_)
          have hrmlen : rm.length = rs.length := by rw [hrm, List.length_map]
          refine ⟨fun i σ => Ex3 fun l h' K => All12 (σ = sto l h') (PL l s fl first TX WY x) (nm l "worths" = some (.ref WT)) (nm l "turn" = some (.int t 0)) (nm l "now" = some (.ref tp)) (SA 145 48 h' x L5 (readyT T rs)) (Own K h' (L5.fp x (readyT T rs))) ((∀ a o, h a = some o → K a = some o)) (K TX = some (.idt (txl first ms))) (K tp = some (.tup (strVs rs))) (TDict K WY first ms (fun m => strVs ((cuts us m).map (textOf first)))) (WD K WT first (dn ++ rm.take i) (tw us)), ?_, ?_, ?_⟩
          · exact weak_sto ⟨("worths", .ref WT) :: ("turn", .int t 0) :: ("now", .ref tp) :: pl0 s fl first TX WY x, h5, K6, rfl, ⟨rfl, rfl, rfl, rfl, rfl, rfl⟩, rfl, rfl, rfl, S5, O6, subh6, kTX6, ktp, tdw6, by rw [List.take_zero, List.append_nil]; exact wd6⟩ ⟨lw, rfl, rfl, pl.a, pl.b, pl.c, pl.d, pl.e, pl.f, trivial⟩ fun _ _ e => e
          · rintro i v σ ⟨l, h6, K, rfl, pl, lw, lt, ln, S, O, sub, kTX, ktp, tdw, wd⟩ hi
            refine ⟨O.get _ _ ktp, ⟨by decide, fun HL hHL => ?_⟩⟩
            have hil : i < rm.length := by
              have := (List.getElem?_eq_some_iff.mp hi).1
              rwa [strVs_length, ← hrmlen] at this
            have hv : v = .str (textOf first rm[i]) 0 := by
              rw [hrm, strVs, List.getElem?_map, List.getElem?_map, List.getElem?_eq_getElem hil] at hi
              exact (Option.some.inj hi).symm
            subst hv
            have hmr : rm[i] ∈ rm := List.getElem_mem hil
            have hmm := (hrmm _).mp hmr
            have q1 : rm.take (i + 1) = rm.take i ++ [rm[i]] := by rw [List.take_add_one, List.getElem?_eq_getElem hil]; rfl
            have q2 : rm[i] ∉ dn ++ rm.take i := fun q => by
              rcases List.mem_append.mp q with q | q
              · have := ((hdm _).mp q).2; omega
              · have h1 : (rm.take i ++ rm.drop i).Nodup := by rw [List.take_append_drop]; exact hrmn
                rw [List.nodup_append] at h1
                exact h1.2.2 _ q _ (by rw [List.drop_eq_getElem_cons hil]; exact .head _) rfl
            have hgm := hgf _ hmm.1
            have hm32 := hst32 _ hmm.1
            generalize rm[i] = m at *
            dsimp only [sto_put, sto_h] at hHL
            dsimp only [sto_seth, sto_put]
            have nHL := S.new hHL
            have hKHL := O.none hHL
            have S7 : SA 145 48 (h6.set HL (.list [])) x L5 (readyT T rs) := S.keepSet nHL
            have O7 : Own (K.set HL (.list (vInts []))) (h6.set HL (.list (vInts []))) (L5.fp x (readyT T rs)) := O.new nHL
            have sub7 : ∀ a o, K a = some o → ∀ ns, (K.set HL (.list (vInts ns))) a = some o := fun a o e ns => H.set_fresh e hKHL
            have h32 : ∀ n ∈ dn ++ rm.take i, n < 32 := fun n hn => (List.mem_append.mp hn).elim (fun z => hst32 n ((hdm n).mp z).1) fun z => hst32 n ((hrmm n).mp (List.mem_of_mem_take z)).1
            refine look pl.e (look rfl (v_tdGetK tdw (fun a o e => O7.get a o (sub7 a o e [])) hf hst32 hmm.1 fun wy kwy => ?_))
            have hwH : wy ≠ HL := fun q => by rw [q, hKHL] at kwy; cases kwy
            have gwy : ∀ ns, (h6.set HL (.list (vInts ns))) wy = some (.list (strVs ((cuts us m).map (textOf first)))) := fun ns => (H.set_ne _ _ hwH).trans (O.get _ _ kwy)
            have gK : ∀ ns a o, K a = some o → (h6.set HL (.list (vInts ns))) a = some o := fun ns a o e => (H.set_ne _ _ fun q => by rw [q, hKHL] at e; cases e).trans (O.get _ _ e)
            refine v_iterList (gwy []) ?_
            refine ⟨fun j σ => Ex3 fun l h' ns => All11 (σ = sto l h') (h' = h6.set HL (.list (vInts ns))) (PL l s fl first TX WY x) (nm l "worths" = some (.ref WT)) (nm l "turn" = some (.int t 0)) (nm l "now" = some (.ref tp)) (nm l "heap" = some (.ref HL)) (nm l "text" = some (.str (textOf first m) 0)) (HeapL ns) (ns.length = j) ((∀ v : Int, v ∈ ns ↔ ∃ c ∈ (cuts us m).take j, v = ((tw us c).2 : Nat))), ?_, ?_, ?_⟩
            · exact weak_sto ⟨("heap", .ref HL) :: ("text", .str (textOf first m) 0) :: ("worths", .ref WT) :: ("turn", .int t 0) :: ("now", .ref tp) :: pl0 s fl first TX WY x, _, [], rfl, rfl, ⟨rfl, rfl, rfl, rfl, rfl, rfl⟩, rfl, rfl, rfl, rfl, rfl, heapL_nil, rfl, fun v => by simp⟩ ⟨rfl, rfl, lw, lt, ln, pl.a, pl.b, pl.c, pl.d, pl.e, pl.f, trivial⟩ fun _ _ e => e
            · rintro j v σ ⟨l, h', ns, rfl, rfl, pl, lw, lt, ln, lh, lx, hns, hnl, hnm⟩ hj
              refine ⟨.inl (gwy ns), ?_⟩
              have hjl : j < (cuts us m).length := by
                have := (List.getElem?_eq_some_iff.mp hj).1
                rwa [strVs_length, List.length_map] at this
              have hv : v = .str (textOf first (cuts us m)[j]) 0 := by
                rw [strVs, List.getElem?_map, List.getElem?_map, List.getElem?_eq_getElem hjl] at hj
                exact (Option.some.inj hj).symm
              subst hv
              have hcc : (cuts us m)[j] ∈ cuts us m := List.getElem_mem hjl
              have q3 : (cuts us m).take (j + 1) = (cuts us m).take j ++ [(cuts us m)[j]] := by rw [List.take_add_one, List.getElem?_eq_getElem hjl]; rfl
              generalize (cuts us m)[j] = c at *
              have hcd : c ∈ dn := (hdm c).mpr ⟨hgst _ hmm.1 c hcc, by have := hgm.lt c hcc; omega⟩
              dsimp only [sto_put]
              refine look lh (look lw (look rfl (v_tdGetK wd (gK ns) hf h32 (List.mem_append_left _ hcd) fun r kr => ?_)))
              refine v_item (xs := nInts [(tw us c).1, (tw us c).2]) (k := ((1 : Nat) : Int)) (gK ns _ _ kr) (at_nInts (show 1 < 2 by decide) (by decide)) ?_
              have hcl5 := hcl m
              refine ⟨HL, ns, ((tw us c).2 : Nat), rfl, H.set_self .., by omega, ?_⟩
              simp only [sto_h, sto_mk, H.set_set]
              have hp := push_spec (x := (((tw us c).2 : Nat) : Int)) hns
              refine weak_sto ⟨("heap", .ref HL) :: ("text", .str (textOf first m) 0) :: ("worths", .ref WT) :: ("turn", .int t 0) :: ("now", .ref tp) :: pl0 s fl first TX WY x, _, heapPush ns ((tw us c).2 : Nat), rfl, rfl, ⟨rfl, rfl, rfl, rfl, rfl, rfl⟩, rfl, rfl, rfl, rfl, rfl, hp.2, ?_, fun v => ?_⟩ ⟨lh, lx, lw, lt, ln, pl.a, pl.b, pl.c, pl.d, pl.e, pl.f, trivial⟩ fun _ _ e => e
              · rw [heapPush_len hns, hnl]
              · rw [hp.1.mem_iff, List.mem_cons, hnm v, q3]
                constructor
                · rintro (z | ⟨c', hc', z⟩)
                  · exact ⟨c, List.mem_append_right _ (.head _), z⟩
                  · exact ⟨c', List.mem_append_left _ hc', z⟩
                · rintro ⟨c', hc', z⟩
                  rcases List.mem_append.mp hc' with y | y
                  · exact .inr ⟨c', y, z⟩
                  · rw [List.mem_singleton] at y; subst y; exact .inl z
            · rintro σ ⟨l, h', ns, rfl, rfl, pl, lw, lt, ln, lh, lx, hns, hnl, hnm⟩
              rw [strVs_length, List.length_map] at hnl hnm
              rw [List.take_length] at hnm
              have hcl5 := hcl m
              refine ⟨.inl (gwy ns), look lt (look lh ⟨HL, ns, rfl, H.set_self .., hns, by omega, fun r mx => ?_⟩)⟩
              have hr : r = (tw us m).2 := mex_unique mx (fun v hv => by
                obtain ⟨c, hc, e⟩ := hgm.all v hv
                exact (hnm _).mpr ⟨c, hc, by rw [e]⟩) (fun z => by
                obtain ⟨c, hc, e⟩ := (hnm _).mp z
                exact hgm.ne c hc (by omega))
              subst hr
              simp only [sto_h, sto_mk, H.set_set]
              refine ⟨(show (2 : Nat) ≤ 1000000 by decide), fun D hD => ?_⟩
              dsimp only [sto_seth, sto_h]
              have O8 : Own (K.set HL (.list [])) (h6.set HL (.list [])) (L5.fp x (readyT T rs)) := O7
              have S8 : SA 145 48 (h6.set HL (.list [])) x L5 (readyT T rs) := S7
              have sub8 : ∀ a o, K a = some o → (K.set HL (.list [])) a = some o := fun a o e => sub7 a o e []
              generalize h6.set HL (.list []) = h8 at *
              generalize K.set HL (.list []) = K8 at *
              have nD := S8.new hD
              have hKD := O8.none hD
              have S9 : SA 145 48 (h8.set D (.list [.int t 0, .int ((tw us m).2 : Nat) 0])) x L5 (readyT T rs) := S8.keepSet nD
              have O9 : Own (K8.set D (.list [.int t 0, .int ((tw us m).2 : Nat) 0])) (h8.set D (.list [.int t 0, .int ((tw us m).2 : Nat) 0])) (L5.fp x (readyT T rs)) := O8.new nD
              have sub9 : ∀ a o, K a = some o → (K8.set D (.list [.int t 0, .int ((tw us m).2 : Nat) 0])) a = some o := fun a o e => H.set_fresh (sub8 a o e) hKD
              have kD : (K8.set D (.list [.int t 0, .int ((tw us m).2 : Nat) 0])) D = some (.list (nInts [(tw us m).1, (tw us m).2])) := by rw [H.set_self, hmm.2]; rfl
              generalize h8.set D (.list [.int t 0, .int ((tw us m).2 : Nat) 0]) = h9 at *
              generalize K8.set D (.list [.int t 0, .int ((tw us m).2 : Nat) 0]) = K9 at *
              have hdl : (dn ++ rm.take i).length ≤ 100000 := by
                have h1 := nodup_len hdn (N := ms) (fun m hm => ((hdm m).mp hm).1)
                rw [List.length_append, List.length_take]; omega
              refine look lw (look lx (v_tdSetK (m := m) (wd.ext sub9) O9.get hf h32 hm32 q2 hdl kD fun o wd' => ?_))
              obtain ⟨kvs, epw, eWT⟩ := (wd.ext sub9).alive
              have O10 := O9.set (o' := o) eWT
              have S10 : SA 145 48 (h9.set WT o) x L5 (readyT T rs) := S9.keepSet (O9.out _ _ eWT)
              obtain ⟨kvw, epx, eWY⟩ := tdw.alive
              obtain ⟨kvz, epz, eWT0⟩ := wd.alive
              have hWTh : h WT = none := hWT0
              have hne : WY ≠ WT := hWne
              have keep : ∀ a o', K a = some o' → a ≠ WT → (K9.set WT o) a = some o' := fun a o' e q => (H.set_ne _ _ q).trans (sub9 a o' e)
              have tdw' : TDict (K9.set WT o) WY first ms (fun m => strVs ((cuts us m).map (textOf first))) := (tdw.ext sub9).other eWT hne.symm (fun m _ => by intro q; cases q)
              rw [List.append_assoc, ← q1] at wd'
              refine weak_sto ⟨("worths", .ref WT) :: ("turn", .int t 0) :: ("now", .ref tp) :: pl0 s fl first TX WY x, _, K9.set WT o, rfl, ⟨rfl, rfl, rfl, rfl, rfl, rfl⟩, rfl, rfl, rfl, S10, O10, fun a o' e => keep a o' (sub a o' e) (fun q => by rw [q, hWTh] at e; cases e), keep _ _ kTX (fun q => by rw [q, eWT0] at kTX; cases kTX), keep _ _ ktp (fun q => by rw [q, eWT0] at ktp; cases ktp), tdw', wd'⟩ ⟨lw, lt, ln, pl.a, pl.b, pl.c, pl.d, pl.e, pl.f, trivial⟩ fun _ _ e => e
          · rintro σ ⟨l, h6, K, rfl, pl, lw, lt, ln, S, O, sub, kTX, ktp, tdw, wd⟩
            rw [strVs_length, ← hrmlen, List.take_length] at wd
            refine ⟨O.get _ _ ktp, look pl.f ⟨v_isInst S.hx S.hdx (by rfl), look ln ?_⟩⟩
            unfold itemsOf
            have gtp : (sto l h6).h tp = some (.tup (strVs rs)) := O.get _ _ ktp
            simp only [gtp]
            refine ⟨by rw [strVs_length]; omega, x, L5, readyT T rs, [], rs, 160, rfl, S, rfl, hsub, fun v hv s hs => ?_, fun v _ => ?_, ?_, by omega, fun j hj => R.minus j hj, fun h7 L7 S7 F7 => ?_⟩
            · rw [show (readyT T rs).succ v = outs _ v from R.succ v] at hs
              exact (R.mem s).mpr (R.cl _ (outs_mem.mp hs)).2
            · rw [show (readyT T rs).succ v = outs _ v from R.succ v]; exact Nat.le_trans (outs_len _ _) hEl
            · show 0 + (rs.length + 1) * 160 ≤ 1000000
              omega
            · obtain ⟨rs', R'⟩ := R.turn
              refine weak_sto ⟨("worths", .ref WT) :: pl0 s fl first TX WY x, h7, K, L7, _, _, rs', dn ++ rm, rfl, ⟨rfl, rfl, rfl, rfl, rfl, rfl⟩, rfl, S7, O.frame F7, R', sub, kTX, tdw, fun m hm => ?_, wd, ?_, fun m => ?_⟩ ⟨lw, pl.a, pl.b, pl.c, pl.d, pl.e, pl.f, trivial⟩ fun _ _ e => e
              · unfold orD
                rw [hD m hm]
                have : (textOf first m ∈ rs) = ((tw us m).1 = t) := by
                  apply propext
                  rw [hrm]
                  constructor
                  · intro q
                    obtain ⟨n, hn, e⟩ := List.mem_map.mp q
                    have := text_inj hf (hst32 n ((hrmm n).mp hn).1) (hst32 m hm) e
                    subst this
                    exact ((hrmm n).mp hn).2
                  · exact fun q => List.mem_map_of_mem ((hrmm m).mpr ⟨hm, q⟩)
                simp only [this]
                rw [← Bool.decide_or]
                exact decide_eq_decide.mpr (by omega)
              · rw [List.nodup_append]
                refine ⟨hdn, hrmn, fun a ha b hb hab => ?_⟩
                subst hab
                have h1 := ((hdm a).mp ha).2
                have h2 := ((hrmm a).mp hb).2
                omega
              · rw [List.mem_append, hdm, hrmm]
                constructor
                · rintro (⟨h1, h2⟩ | ⟨h1, h2⟩)
                  · exact ⟨h1, by omega⟩
                  · exact ⟨h1, by omega⟩
                · rintro ⟨h1, h2⟩
                  by_cases z : (tw us m).1 < t
                  · exact .inl ⟨h1, z⟩
                  · exact .inr ⟨h1, by omega⟩
        · rintro σ ⟨l, h4, K, L, T, D, rs, dn, rfl, pl, lw, S, O, R, sub, kTX, tdw, hD, wd, hdn, hdm⟩
          rw [range_len] at hD hdm
          refine ⟨trivial, look lw (look pl.f ⟨v_isInst S.hx S.hdx (by rfl), ?_⟩)⟩
          have hrs : rs = [] := by
            cases q : rs with
            | nil => rfl
            | cons v r =>
              obtain ⟨a1, a2, _⟩ := (R.rs v).mp (by rw [q]; exact .head _)
              obtain ⟨n, hn, rfl⟩ := gN_text hg (fun m h => hms ▸ h) a1
              rw [hD n (hms ▸ hn)] at a2
              have := htw5 n (hms ▸ hn)
              have := of_decide_eq_false a2
              omega
          subst hrs
          have hdx := S.hdx
          rw [show rvOf L T = .ref L.r by unfold rvOf; rw [R.rdy]] at hdx
          refine ⟨x, L.dx, L.D, L.r, T.npo, T.nfi, [], rfl, S.hx, hdx, (S.hr [] R.rdy).1, by simp, ?_⟩
          have : decide (T.nfi < T.npo) = false := decide_eq_false (by rw [R.even]; omega)
          rw [this]
          dsimp only [sto_mk]
          refine ⟨(show (2 : Nat) ≤ 1000000 by decide), fun r hr => ?_⟩
          dsimp only [sto_h] at hr
          dsimp only [sto_seth]
          have sub' : ∀ a o, K a = some o → (h4.set r (.list [.ref WT, .bool (false || ([] : List Value).length != 0)])) a = some o := fun a o e => H.set_fresh (O.get a o e) hr
          exact ⟨_, fun _ _ e => e, hq _ r WT dn (H.set_self ..) (wd.ext sub') (fun m => (hdm m).trans ⟨fun z => hms ▸ z.1, fun z => ⟨hms ▸ z, htw5 m (hms ▸ z)⟩⟩) hdn fun a o e => sub' a o (sub a o e)⟩
noncomputable def S_law : Spec := fun args Q h => Ex2 fun s script => All5 (args = [.ref s]) (h s = some (.ro (vInts script))) (script.length ≤ 63) (h 22 = some (.rod cfn)) (Q (.bool true) h)
theorem vInts_all (ns : List Int) : (vInts ns).all isInt = true := by
  unfold vInts
  rw [List.all_eq_true]
  intro v hv
  obtain ⟨n, _, rfl⟩ := List.mem_map.mp hv
  rfl
theorem ok_law (g : Gn) : CallOK g.G 6 (.ref 230) S_law := by
  have h182 := ok_ups g
  have h192 := ok_stands g
  have h187 := ok_falls g
  have h223 := ok_played g
  have h211 := ok_told g
  refine' callOK_def (n := 5) (BS := bsPlain [Str.ofString "script"]) (lk_law g) rfl (cd_law g) rfl rfl (bindOK1 fun _ => rfl) (kind_plain (by rfl)) ?r ?s
  case r =>
    intro A L outer hroom hA
    (repeat' (first | (with_reducible first | exact RS_nil | exact R_Break | exact R_Continue | exact R_Pass | exact R_dead (st := .Raise _ _ _) | exact R_dead (st := .Assert _ _ _) | exact R_dead (st := .For _ (.Call (.Attribute _ "items" _) _ _ _) _ _ _) | exact R_Dict | exact allTrue_and_nil | exact allTrue_or_nil | exact RArg_nil | exact RSp_nil | exact RT_nil rfl) | (with_reducible first | apply RS_one | apply RS_consJ (st := .If _ _ _ _) | apply RS_cons | apply R_Return | apply R_If | apply R_Assign_Comp | apply R_Assign_Name | apply R_Assign_Two | apply R_Assign_Item | apply D_Aug_Name | apply D_Aug_Item | apply R_Del | apply R_While | apply D_For | apply R_TryNext | apply R_Expr | apply R_Const | apply gg_COMPILER_FLAG_NAMES | apply gg_NODE_OUT | apply gg_NODE_DONE | apply gg_pretty_flags | apply gg_heappush | apply gg_heappop | apply gg_siftdown | apply gg_siftup | apply gg_law_ups | apply gg_law_falls | apply gg_law_stands | apply gg_law_word | apply gg_law_words | apply gg_law_told | apply gg_law_least | apply gg_law_played | apply gg_NodeInfo | apply gg_CycleError | apply gg_TopologicalSorter | apply gb_range | apply gb_len | apply gb_hex | apply gb_sum | apply gb_min | apply gb_max | apply gb_sorted | apply gb_iter | apply gb_tuple | apply gb_list | apply gb_set | apply gb_bool | apply gb_StopIteration | apply R_Name | apply D_BinOp | apply D_UnaryOp | apply D_cmp2 | apply R_IfExp | apply D_Bool2 | apply R_SliceFrom | apply R_Sub | apply R_Named | apply R_ListComp | apply R_List | apply D_attr_d (st_n2i _) | apply D_st_d (st_n2i _) | apply D_aug_d (st_n2i _) | apply D_attr_d (st_rdy _) | apply D_st_d (st_rdy _) | apply D_aug_d (st_rdy _) | apply D_attr_d (st_npo _) | apply D_st_d (st_npo _) | apply D_aug_d (st_npo _) | apply D_attr_d (st_nfi _) | apply D_st_d (st_nfi _) | apply D_aug_d (st_nfi _) | apply D_attr_s (st_node _) | apply D_st_s (st_node _) | apply D_aug_s (st_node _) | apply D_attr_s (st_npred _) | apply D_st_s (st_npred _) | apply D_aug_s (st_npred _) | apply D_attr_s (st_succ _) | apply D_st_s (st_succ _) | apply D_aug_s (st_succ _) | apply D_method (hst := st_m_info _) (hkp := st_k_get_info _) | apply D_method (hst := st_m_cyc _) (hkp := st_k_find_cycle _) | apply D_method (hst := st_m_prep _) (hkp := st_k_prepare _) | apply D_method (hst := st_m_ready _) (hkp := st_k_get_ready _) | apply D_method (hst := st_m_act _) (hkp := st_k_is_active _) | apply D_setadd (o := .Name "seen" _) | apply D_methodStar (args := [_, .Starred _ _]) (hst := st_b_add _) | apply D_methodStar (args := [.Starred _ _]) (hst := st_b_done _) | apply D_attr_next | apply D_append | apply D_pop | apply D_clear | apply D_get | apply D_join | apply D_split | apply D_len (func := .Name "len" _) | apply D_hex (func := .Name "hex" _) | apply D_sorted (func := .Name "sorted" _) | apply D_iter (func := .Name "iter" _) | apply D_tuple (func := .Name "tuple" _) | apply D_list (func := .Name "list" _) | apply D_set (func := .Name "set" _) | apply D_bool (func := .Name "bool" _) | apply D_sum (func := .Name "sum" _) | apply D_min (func := .Name "min" _) | apply D_max (func := .Name "max" _) | apply D_call (func := .Name "pretty_flags" _) (hk := kk_pretty_flags _) | apply D_call (func := .Name "heappush" _) (hk := kk_heappush _) | apply D_call (func := .Name "heappop" _) (hk := kk_heappop _) | apply D_call (func := .Name "_siftdown" _) (hk := kk_siftdown _) | apply D_call (func := .Name "_siftup" _) (hk := kk_siftup _) | apply D_call (func := .Name "_law_ups" _) (hk := kk_law_ups _) | apply D_call (func := .Name "_law_falls" _) (hk := kk_law_falls _) | apply D_call (func := .Name "_law_stands" _) (hk := kk_law_stands _) | apply D_call (func := .Name "_law_word" _) (hk := kk_law_word _) | apply D_call (func := .Name "_law_words" _) (hk := kk_law_words _) | apply D_call (func := .Name "_law_told" _) (hk := kk_law_told _) | apply D_call (func := .Name "_law_least" _) (hk := kk_law_least _) | apply D_call (func := .Name "_law_played" _) (hk := kk_law_played _) | apply D_call (func := .Name "_NodeInfo" _) (hk := kk_NodeInfo _) | apply D_call (func := .Name "CycleError" _) (hk := kk_CycleError _) | apply D_call (func := .Name "TopologicalSorter" _) (hk := kk_TopologicalSorter _) | apply DB_cmp2 | apply RB_Not | apply RB_Bool | apply allTrue_and | apply allTrue_or | apply RB_If | apply DB_plain | apply RArg_lone | apply RArg_cons | apply RSp_star | apply RSp_cons | apply D_range1 (fn := .Name "range" _) | apply RI_range3 | apply RI_values | apply RI_val | apply RT_one) | assumption | with_unfolding_all rfl | (with_reducible intro _; with_unfolding_all rfl) | decide | exact Room.handled (by assumption) | intro _))
  case s =>
    rintro args Q h ⟨s, script, rfl, hs, hl, hcf, hq⟩
    refine ⟨rfl, ?_⟩
    simp only [bindsSt_sto, seqM, seqJ, asgM, augM, augItemM, augAttrM, bindM, pureM, varM, exprM, retM, stAttrM, stItemM, iteM, failM, boolM, andB, orB, stTwoM, methM, consM, starM, callM, initS, whileM, forM, compM, putM, delM, testM, newM, listM]
    refine look rfl ?_
    unfold sumM
    have g0 : (sto ([Str.ofString "script"].zip [Value.ref s]).reverse h).h s = some (.ro (vInts script)) := hs
    simp only [g0]
    refine ⟨vInts_all script, v_add (v_mod (by decide) ?_)⟩
    obtain ⟨first, hf, he⟩ : ∃ first : Nat, first < 28 ∧ (7 + ((vInts script).map intOf).sum) % 28 = (first : Int) := by
      have h1 := Int.emod_nonneg (7 + ((vInts script).map intOf).sum) (show (28 : Int) ≠ 0 by decide)
      have h2 := Int.emod_lt_of_pos (7 + ((vInts script).map intOf).sum) (show (0 : Int) < 28 by decide)
      exact ⟨((7 + ((vInts script).map intOf).sum) % 28).toNat, by omega, by omega⟩
    rw [he]
    dsimp only [sto_put]
    refine look rfl ⟨s, script, rfl, hs, hl, fun us hg u hu => ?_⟩
    try dsimp only [sto_h] at hu
    try dsimp only [sto_h, sto_mk, sto_put]
    have sub1 : ∀ a o, h a = some o → (h.set u (.list (nInts us))) a = some o := fun a o e => H.set_fresh e hu
    have ku : (h.set u (.list (nInts us))) u = some (.list (nInts us)) := H.set_self ..
    generalize h.set u (.list (nInts us)) = h1 at *
    refine look rfl ⟨u, us, rfl, ku, hg, fun st hst => ?_⟩
    try dsimp only [sto_h] at hst
    try dsimp only [sto_h, sto_mk, sto_put]
    have sub2 : ∀ a o, h1 a = some o → (h1.set st (.list (nInts (standsOf us)))) a = some o := fun a o e => H.set_fresh e hst
    have kst : (h1.set st (.list (nInts (standsOf us)))) st = some (.list (nInts (standsOf us))) := H.set_self ..
    generalize h1.set st (.list (nInts (standsOf us))) = h2 at *
    refine look rfl (look rfl ⟨u, us, rfl, sub2 _ _ ku, hg, fun fl hfl => look rfl ?_⟩)
    try dsimp only [sto_h] at hfl
    have sub3 : ∀ a o, h2 a = some o → (h2.set fl (.list (nInts (fallsOf us)))) a = some o := fun a o e => H.set_fresh e hfl
    have kfl : (h2.set fl (.list (nInts (fallsOf us)))) fl = some (.list (nInts (fallsOf us))) := H.set_self ..
    try dsimp only [sto_h]
    generalize h2.set fl (.list (nInts (fallsOf us))) = h3 at *
    refine ⟨st, fl, us, first, rfl, hg, hf, sub3 _ _ kst, kfl, sub3 _ _ (sub2 _ _ (sub1 _ _ hcf)), fun h4 r wd ms hr hwd hms hnd sub4 => ?_⟩
    refine look rfl (look rfl (look rfl ⟨u, st, us, standsOf us, first, rfl, sub4 _ _ (sub3 _ _ (sub2 _ _ ku)), hg, sub4 _ _ (sub3 _ _ kst), fun m hm => stands_lt hm, stands_nodup us, by have := stands_len us; omega, hf, fun h5 TD htd sub5 hTD => ?_⟩))
    refine ⟨(show (2 : Nat) ≤ 1000000 by decide), fun D hD => ?_⟩
    try dsimp only [sto_seth, sto_mk, sto_put]
    have sub6 : ∀ a o, h5 a = some o → (h5.set D (.list [.ref TD, .bool false])) a = some o := fun a o e => H.set_fresh e hD
    have kD : (h5.set D (.list [.ref TD, .bool false])) D = some (.list [.ref TD, .bool false]) := H.set_self ..
    generalize h5.set D (.list [.ref TD, .bool false]) = h6 at *
    refine v_eqL (xs := [.ref wd, .bool false]) (ys := [.ref TD, .bool false]) (sub6 _ _ (sub5 _ _ hr)) kD rfl (fun j v u h1 h2 => ?_) ⟨h, fun a o e => sub6 _ _ (sub5 _ _ (sub4 _ _ (sub3 _ _ (sub2 _ _ (sub1 _ _ e))))), hq⟩
    match j with
    | 0 =>
      cases h1; cases h2
      have hlen : ms.length = (standsOf us).length := Nat.le_antisymm (nodup_len hnd fun m hm => (hms m).mp hm) (nodup_len (stands_nodup us) fun m hm => (hms m).mpr hm)
      exact wd_eqv (n := 13) (hwd.ext fun a o e => sub6 _ _ (sub5 _ _ e)) (htd.ext sub6) hf (fun n hn => stands_lt hn) hlen (fun m hm => ⟨(hms m).mp hm, rfl⟩)
    | 1 => cases h1; cases h2; exact Eqv.atom rfl
    | n + 2 => cases h1
noncomputable def cfn' : List (Int × Value) := [(1, .str (Str.ofString "OPTIMIZED") 197), (2, .str (Str.ofString "NEWLOCALS") 199), (4, .str (Str.ofString "VARARGS") 201), (8, .str (Str.ofString "VARKEYWORDS") 203), (16, .str (Str.ofString "NESTED") 205), (32, .str (Str.ofString "GENERATOR") 207), (64, .str (Str.ofString "NOFREE") 209),
  (128, .str (Str.ofString "COROUTINE") 211), (256, .str (Str.ofString "ITERABLE_COROUTINE") 213), (512, .str (Str.ofString "ASYNC_GENERATOR") 215)]
theorem cfn_rep (g : Gn) : RepA g.prog g.w g.h₀ 22 (.rod cfn) := by
  refine ⟨by decide, cfn', ?_, by rfl⟩
  refine ⟨cfnObj, _, _, g.X _ _ (lk_cfn g), by first | exact ⟨rfl, rfl, rfl⟩ | exact rfl | decide, rfl, ?_, ?_, by decide⟩
  · intro e he
    simp only [List.mem_toArray, List.mem_cons, List.not_mem_nil, or_false, Array.mem_toList_iff] at he
    rcases he with rfl | rfl | rfl | rfl | rfl | rfl | rfl | rfl | rfl | rfl
    · exact ⟨1, rfl, rfl⟩
    · exact ⟨2, rfl, rfl⟩
    · exact ⟨4, rfl, rfl⟩
    · exact ⟨8, rfl, rfl⟩
    · exact ⟨16, rfl, rfl⟩
    · exact ⟨32, rfl, rfl⟩
    · exact ⟨64, rfl, rfl⟩
    · exact ⟨128, rfl, rfl⟩
    · exact ⟨256, rfl, rfl⟩
    · exact ⟨512, rfl, rfl⟩
  · repeat' (first | exact Pairs.nil | refine Pairs.cons rfl rfl ?_)
theorem ints_er : ∀ {vs : List Value} {ns : List Int}, IntsAre vs ns → vs.map er = vInts ns
  | _, _, .nil => rfl
  | _, _, .cons i t h => by
    rw [List.map_cons, ints_er h]; rfl
theorem run_law (g : Gn) {l : Addr} {vs : List Value} {ns : List Int} {s : Shared} (hs : s.heap = g.h₀) (hg : s.gens = #[]) (ho : s.os = g.os₀) (hl : g.h₀.IsList l vs.toArray) (hi : IntsAre vs ns) (hlen : ns.length ≤ 63) {E : Value → Shared → Prop} {Q : Value → Shared → Prop}
    (hq : ∀ s', (∀ b o, s.heap.get? b = some o → s'.heap.get? b = some o) → s'.gens = #[] → s'.os = s.os → Q (.bool true) s') : wpAny (model g.prog g.w) callerA (call (.ref 230) [.ref l]) Q E s := by
  have hne : l ≠ 22 := by
    rintro rfl
    obtain ⟨o, h1, h2, n, h3⟩ := hl
    have h4 := g.X _ _ (lk_cfn g)
    rw [h4] at h1
    have h5 := Option.some.inj h1
    rw [← h5] at h3
    cases h3
  let h : H := fun a => if a = l then some (.ro (vInts ns)) else if a = 22 then some (.rod cfn) else none
  have hl' : h l = some (.ro (vInts ns)) := if_pos rfl
  have hc' : h 22 = some (.rod cfn) := (if_neg hne.symm).trans (if_pos rfl)
  have hR : HR g.G [] h s := by
    refine ⟨fun b o e => by rw [hs]; exact e, by rw [hs]; exact Nat.le_refl _, fun p hp => (by cases hp), fun a ao e => ?_, fun a ao e p hp => (by cases hp), fun a ao e hf => ?_, hg, ho⟩
    · rw [hs]
      by_cases q : a = l
      · subst q
        rw [hl'] at e
        cases e
        exact ⟨_, hl, by rw [List.toList_toArray]; exact ints_er hi⟩
      · have e' : (if a = 22 then some (AObj.rod cfn) else none) = some ao := (if_neg q).symm.trans e
        by_cases z : a = 22
        · rw [if_pos z] at e'
          cases e'
          rw [z]; exact cfn_rep g
        · rw [if_neg z] at e'; cases e'
    · by_cases q : a = l
      · subst q; rw [hl'] at e; cases e; cases hf
      · have e' : (if a = 22 then some (AObj.rod cfn) else none) = some ao := (if_neg q).symm.trans e
        by_cases z : a = 22
        · rw [if_pos z] at e'
          cases e'; cases hf
        · rw [if_neg z] at e'; cases e'
  have hroom : Room 6 callerA := ⟨by decide, by decide, rfl⟩
  have hon : Around.On callerA g.G [] [] := ⟨rfl, fun env he => by cases he⟩
  refine wpAny_call (codeAny_mono (ok_law g callerA [] [] h s [.ref l] (fun v _ => v = .bool true) hroom hon hR ⟨l, ns, rfl, hl', hlen, hc', rfl⟩) fun r s' ⟨v, h', e, R', hv⟩ => ?_)
  subst e
  rw [er_bool hv]
  exact hq s' (by rw [hs]; exact R'.base) R'.gens (by rw [ho]; exact R'.os)
theorem joined : PySem.Challenge.rw_oy0274_01.Holds := by
  refine head (by rfl) (by rfl) (by rfl) ?_
  intro w s₀ s₁ mg mb G Y fa o pm cd doc dV kV ho hd hcd hD hmg hg args vals as hpre hlay hrd hwl hlo
  obtain ⟨K, KX, KE⟩ := Y
  have hlow := G.low
  have T := G.T
  clear hd hcd hD ho
  wrow_args hpre hlay hrd hwl hlo
  rename_i ns hs hlay0 hL1 hr1 hl2 w4 w3 l vs w2 hL ra w1 r0 hI hr hc1 hc2
  have e : mg "law" = some (.ref 230) := mg_of KX T.g (Option.some.inj (congrArg (fun y : Seen => y.2.1[19]?) KE))
  have hfa : fa = 230 := by
    have h2 := hmg.symm.trans e
    exact Value.ref.inj (Option.some.inj h2)
  subst hfa
  have hlen : ns.length ≤ 63 := by
    have : ¬ (63 : Int) < (ns.length : Int) := hc1
    omega
  refine run_law ⟨_, w, s₁.heap, s₁.os, mg, mb, K, KX, KE, T.g, T.b, T.nolimit, T.builtins, hlow⟩ rfl hg rfl hL hI hlen fun s' k1 k2 k3 => GoodW.toG ?_
  refine ⟨.inl ⟨.bool true, .bool true, [], rfl, raisesW_false ?_, ReadsW.bool true, ?_, fun _ => ⟨by simp, fun a ha => by cases ha⟩⟩, k1, k3, k2⟩
  · wrow_none_raised
  · wrow_post
end Mine
theorem PySem.Challenge.cw_oy0274_01_holds : PySem.Challenge.rw_oy0274_01.Holds := by
  exact Mine.joined
