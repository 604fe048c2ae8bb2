import PyProof.Rows.All
import Wide.All
import OpenK.AllK
import Wide.FinOn
import Lean
import PySem.Challenge.RW_rs0126_01
set_option Elab.async false
set_option maxRecDepth 100000
set_option linter.all false
set_option linter.unusedVariables false
set_option linter.unusedSimpArgs false
-- lia writes shorter proofs than omega
local macro_rules | `(tactic| omega) => `(tactic| first | lia | omega (config := {}))
namespace Qp
open PySem PySem.Calls PyProof.Rows

/-- plain data -/
inductive D where
  | none
  | bool (b : Bool)
  | int (i : Int)
  | str (x : Str)
  | list (l : List D)
  | tup (l : List D)
  | range (a b : Int)
  | val (v : Value)

mutual
noncomputable def Rep (F : Addr → Prop) (h : Heap) (v : Value) : D → Prop
  | .none => v = .none
  | .bool b => v = .bool b
  | .int i => ∃ t, v = .int i t
  | .str x => ∃ t, v = .str x t
  | .list l => ∃ a vs, v = .ref a ∧ ¬ F a ∧ h.IsList a vs.toArray ∧ Reps F h vs l
  | .tup l => ∃ a vs, v = .ref a ∧ ¬ F a ∧ h.IsTuple a vs.toArray ∧ Reps F h vs l
  | .range x y => ∃ a t u z, v = .ref a ∧ ¬ F a ∧ IsRange h a x y 1 t u z
  | .val u => v = u
noncomputable def Reps (F : Addr → Prop) (h : Heap) (vs : List Value) : List D → Prop
  | [] => vs = []
  | d :: ds => ∃ v vs', vs = v :: vs' ∧ Rep F h v d ∧ Reps F h vs' ds
end

section
variable {F F' : Addr → Prop} {h h' : Heap}
mutual
theorem Rep.keep (k : ∀ b o, ¬ F b → h.get? b = some o → h'.get? b = some o) : ∀ (d : D) {v : Value}, Rep F h v d → Rep F h' v d
  | .none, _, x => x
  | .bool _, _, x => x
  | .int _, _, x => x
  | .str _, _, x => x
  | .val _, _, x => x
  | .range _ _, _, x => by
    simp only [Rep] at x ⊢
    obtain ⟨a, t, u, z, e, nf, il⟩ := x
    exact ⟨a, t, u, z, e, nf, k a _ nf il⟩
  | .list l, _, x => by
    simp only [Rep] at x ⊢
    obtain ⟨a, vs, e, nf, il, rs⟩ := x
    exact ⟨a, vs, e, nf, il.at fun o => k a o nf, Reps.keep k l rs⟩
  | .tup l, _, x => by
    simp only [Rep] at x ⊢
    obtain ⟨a, vs, e, nf, il, rs⟩ := x
    exact ⟨a, vs, e, nf, il.at fun o => k a o nf, Reps.keep k l rs⟩
theorem Reps.keep (k : ∀ b o, ¬ F b → h.get? b = some o → h'.get? b = some o) : ∀ (ds : List D) {vs : List Value}, Reps F h vs ds → Reps F h' vs ds
  | [], _, x => x
  | d :: ds, _, x => by
    simp only [Reps] at x ⊢
    obtain ⟨v, vs', e, r, rs⟩ := x
    exact ⟨v, vs', e, Rep.keep k d r, Reps.keep k ds rs⟩
end
mutual
theorem Rep.sub (k : ∀ a, F' a → F a ∨ h.get? a = none) : ∀ (d : D) {v : Value}, Rep F h v d → Rep F' h v d
  | .none, _, x => x
  | .bool _, _, x => x
  | .int _, _, x => x
  | .str _, _, x => x
  | .val _, _, x => x
  | .range _ _, _, x => by
    simp only [Rep] at x ⊢
    obtain ⟨a, t, u, z, e, nf, il⟩ := x
    exact ⟨a, t, u, z, e, fun q => (k a q).elim nf fun g => (by have il' : h.get? a = some _ := il; rw [g] at il'; cases il'), il⟩
  | .list l, _, x => by
    simp only [Rep] at x ⊢
    obtain ⟨a, vs, e, nf, il, rs⟩ := x
    exact ⟨a, vs, e, fun q => (k a q).elim nf fun g => let ⟨o, ho, _⟩ := il; (by rw [g] at ho; cases ho), il, Reps.sub k l rs⟩
  | .tup l, _, x => by
    simp only [Rep] at x ⊢
    obtain ⟨a, vs, e, nf, il, rs⟩ := x
    exact ⟨a, vs, e, fun q => (k a q).elim nf fun g => let ⟨o, ho, _⟩ := il; (by rw [g] at ho; cases ho), il, Reps.sub k l rs⟩
theorem Reps.sub (k : ∀ a, F' a → F a ∨ h.get? a = none) : ∀ (ds : List D) {vs : List Value}, Reps F h vs ds → Reps F' h vs ds
  | [], _, x => x
  | d :: ds, _, x => by
    simp only [Reps] at x ⊢
    obtain ⟨v, vs', e, r, rs⟩ := x
    exact ⟨v, vs', e, Rep.sub k d r, Reps.sub k ds rs⟩
end
end

noncomputable def Ext (h h' : Heap) : Prop := ∀ b o, h.get? b = some o → h'.get? b = some o
theorem Ext.refl (h : Heap) : Ext h h := fun _ _ e => e
theorem Ext.trans {a b c : Heap} (x : Ext a b) (y : Ext b c) : Ext a c := fun _ _ e => y _ _ (x _ _ e)
theorem Ext.push (h : Heap) (o : Obj) : Ext h (h.push o) := fun _ _ e => Heap.get?_push_of_some o e
theorem fresh_at (h : Heap) : h.get? h.objs.size = none := by
  cases e : h.get? h.objs.size with
  | none => rfl
  | some o => exact absurd (Heap.lt_size e) (Nat.lt_irrefl _)
theorem fresh_ge {h : Heap} {a : Addr} (g : h.objs.size ≤ a) : h.get? a = none := by
  cases e : h.get? a with
  | none => rfl
  | some o => exact absurd (Heap.lt_size e) (Nat.not_lt.mpr g)
theorem Ext.none {h h' : Heap} (x : Ext h h') {a : Addr} (e : h'.get? a = none) : h.get? a = none := by
  cases q : h.get? a with
  | none => rfl
  | some o => rw [x _ _ q] at e; cases e
theorem Rep.ext {F : Addr → Prop} {h h' : Heap} {v : Value} {d : D} (r : Rep F h v d) (x : Ext h h') : Rep F h' v d := Rep.keep (fun b o _ => x b o) d r
theorem Reps.ext {F : Addr → Prop} {h h' : Heap} {v : List Value} {d : List D} (r : Reps F h v d) (x : Ext h h') : Reps F h' v d := Reps.keep (fun b o _ => x b o) d r
theorem Reps.length {F : Addr → Prop} {h : Heap} : ∀ {d : List D} {v : List Value}, Reps F h v d → v.length = d.length
  | [], _, x => by simp only [Reps] at x; subst x; rfl
  | d :: ds, _, x => by
    simp only [Reps] at x
    obtain ⟨v, vs', rfl, _, rs⟩ := x
    simp [Reps.length rs]
theorem Reps.get {F : Addr → Prop} {h : Heap} : ∀ {ds : List D} {vs : List Value}, Reps F h vs ds → ∀ {i : Nat} {d : D}, ds[i]? = some d → ∃ v, vs[i]? = some v ∧ Rep F h v d
  | [], _, _, i, d, e => by simp at e
  | d :: ds, _, x, i, d', e => by
    simp only [Reps] at x
    obtain ⟨v, vs', rfl, r, rs⟩ := x
    cases i with
    | zero => simp at e; subst e; exact ⟨v, by simp, r⟩
    | succ i => simp at e; simpa using Reps.get rs e
theorem Reps.append {F : Addr → Prop} {h : Heap} : ∀ {ds : List D} {vs : List Value} {ds' : List D} {vs' : List Value}, Reps F h vs ds → Reps F h vs' ds' → Reps F h (vs ++ vs') (ds ++ ds')
  | [], _, _, _, x, y => by simp only [Reps] at x; subst x; exact y
  | d :: ds, _, _, _, x, y => by
    simp only [Reps] at x
    obtain ⟨v, vs', rfl, r, rs⟩ := x
    simp only [List.cons_append, Reps]
    exact ⟨v, _, rfl, r, Reps.append rs y⟩
theorem Reps.one {F : Addr → Prop} {h : Heap} {v : Value} {d : D} (r : Rep F h v d) : Reps F h [v] [d] := by simp only [Reps]; exact ⟨v, [], rfl, r, rfl⟩
theorem Reps.cons {F : Addr → Prop} {h : Heap} {v : Value} {d : D} {vs : List Value} {ds : List D} (r : Rep F h v d) (rs : Reps F h vs ds) : Reps F h (v :: vs) (d :: ds) := by simp only [Reps]; exact ⟨v, vs, rfl, r, rs⟩
theorem Reps.nil {F : Addr → Prop} {h : Heap} : Reps F h [] [] := by simp only [Reps]
theorem Reps.drop {F : Addr → Prop} {h : Heap} : ∀ (n : Nat) {ds : List D} {vs : List Value}, Reps F h vs ds → Reps F h (vs.drop n) (ds.drop n)
  | 0, _, _, x => x
  | _ + 1, [], _, x => by simp only [Reps] at x; subst x; simp [Reps]
  | n + 1, d :: ds, _, x => by
    simp only [Reps] at x
    obtain ⟨v, vs', rfl, _, rs⟩ := x
    simpa using Reps.drop n rs
theorem Reps.take {F : Addr → Prop} {h : Heap} : ∀ (n : Nat) {ds : List D} {vs : List Value}, Reps F h vs ds → Reps F h (vs.take n) (ds.take n)
  | 0, _, _, _ => by simp [Reps]
  | _ + 1, [], _, x => by simp only [Reps] at x; subst x; simp [Reps]
  | n + 1, d :: ds, _, x => by
    simp only [Reps] at x
    obtain ⟨v, vs', rfl, r, rs⟩ := x
    simp only [List.take_succ_cons, Reps]
    exact ⟨v, _, rfl, r, Reps.take n rs⟩
theorem Reps.mem {F : Addr → Prop} {h : Heap} : ∀ {ds : List D} {vs : List Value}, Reps F h vs ds → ∀ v ∈ vs, ∃ d ∈ ds, Rep F h v d
  | [], _, x, v, hv => by simp only [Reps] at x; subst x; simp at hv
  | d :: ds, _, x, v, hv => by
    simp only [Reps] at x
    obtain ⟨v', vs', rfl, r, rs⟩ := x
    rcases List.mem_cons.mp hv with rfl | hv
    · exact ⟨d, List.mem_cons_self, r⟩
    · obtain ⟨d', hd, r'⟩ := Reps.mem rs v hv
      exact ⟨d', List.mem_cons_of_mem _ hd, r'⟩

structure Cx where
  prog : Program
  w : World
  hT : Heap
  mg : Str → Option Value
  mb : Str → Option Value

/-- what the top's heap says -/
structure Cx.Good (c : Cx) : Prop where
  g : c.hT.Ns mainGlobals c.mg
  b : c.hT.Ns builtinsNs c.mb
  nolimit : c.hT.NoLimit
  nodigits : ∃ mc, c.hT.Ns cStatics mc ∧ mc "sys.int_max_str_digits" = none

structure Room (A : Around) (n : Nat) : Prop where
  handled : A.handled = none
  depth : A.depth + n < recursionLimit
  units : A.units + 10 * n < cLine
theorem Room.mono {A : Around} {n m : Nat} (r : Room A n) (h : m ≤ n) : Room A m := ⟨r.1, by have := r.2; omega, by have := r.3; omega⟩
theorem Room.u {A : Around} {n : Nat} (r : Room A n) : A.units < cLine := by have := r.units; omega
theorem Room.d {A : Around} {n : Nat} (r : Room A n) : A.depth < recursionLimit := by have := r.depth; omega
theorem Room.in1 {A : Around} {n : Nat} (r : Room A (n + 1)) : Room A.in1 n := ⟨r.1, by show A.depth + n < _; have := r.2; omega, by show A.units + 1 + 10 * n < _; have := r.3; omega⟩

structure Ok (c : Cx) (n : Nat) (F : Addr → Prop) (A : Around) (h : Heap) : Prop where
  room : Room A n
  keep : ∀ b o, c.hT.get? b = some o → h.get? b = some o
  lo : ∀ a, F a → c.hT.get? a = none
  hi : ∀ a, F a → ∃ o, h.get? a = some o
theorem Ok.ext {c : Cx} {n : Nat} {F : Addr → Prop} {A : Around} {h h' : Heap} (k : Ok c n F A h) (x : Ext h h') : Ok c n F A h' :=
  ⟨k.1, fun b o e => x b o (k.2 b o e), k.3, fun a q => let ⟨o, e⟩ := k.4 a q; ⟨o, x _ _ e⟩⟩
theorem Ok.new {c : Cx} {n : Nat} {F : Addr → Prop} {A : Around} {h : Heap} (k : Ok c n F A h) {a : Addr} (e : h.get? a = none) : ¬ F a := fun q => by obtain ⟨o, g⟩ := k.hi a q; rw [g] at e; cases e
theorem Ok.mono {c : Cx} {n m : Nat} {F : Addr → Prop} {A : Around} {h : Heap} (k : Ok c n F A h) (x : m ≤ n) : Ok c m F A h := ⟨k.1.mono x, k.2, k.3, k.4⟩

noncomputable def W (c : Cx) (A : Around) (s : Shared) {α : Type} (t : Sem α) (Q : α → Heap → Prop) : Prop :=
  wpAny (model c.prog c.w) A t (fun a s' => ∃ h' tk, s' = { s with heap := h', toks := tk } ∧ Ext s.heap h' ∧ Q a h') (fun _ _ => False) s

section
variable {c : Cx} {A : Around} {s : Shared} {α β : Type}
theorem W.mono {t : Sem α} {Q Q' : α → Heap → Prop} (x : W c A s t Q) (h : ∀ a h', Ext s.heap h' → Q a h' → Q' a h') : W c A s t Q' :=
  wpAny_mono x (fun a s' q => let ⟨h', tk, e, ex, q⟩ := q; ⟨h', tk, e, ex, h a h' ex q⟩) fun _ _ f => f
theorem W.pure {a : α} {Q : α → Heap → Prop} (q : Q a s.heap) : W c A s (pure a) Q := wpAny_pure ⟨s.heap, s.toks, rfl, Ext.refl _, q⟩
theorem W.bind {m : Sem α} {f : α → Sem β} {Q : β → Heap → Prop} (x : W c A s m fun a h₁ => ∀ tk, W c A { s with heap := h₁, toks := tk } (f a) Q) : W c A s (m >>= f) Q := by
  refine wpAny_bind (wpAny_mono x (fun a s' q => ?_) fun _ _ f => f)
  obtain ⟨h₁, tk, rfl, ex, q⟩ := q
  exact wpAny_mono (q tk) (fun b s'' r => let ⟨h₂, tk', e, ex', r⟩ := r; ⟨h₂, tk', e, ex.trans ex', r⟩) fun _ _ f => f
/-- into a CPS goal -/
theorem W.use {t : Sem α} {Q : α → Heap → Prop} {Q' : α → Shared → Prop} {E : Value → Shared → Prop} (x : W c A s t Q) (h : ∀ a h' tk, Ext s.heap h' → Q a h' → Q' a { s with heap := h', toks := tk }) :
    wpAny (model c.prog c.w) A t Q' E s :=
  wpAny_mono x (fun a s' q => let ⟨h', tk, e, ex, q⟩ := q; e ▸ h a h' tk ex q) fun _ _ f => f.elim
theorem W.in1 {t : Sem α} {Q : α → Heap → Prop} (x : W c A.in1 s t Q) : W c A s t Q := wpAny_of_in1 x
end

/-- the frame at hand -/
structure FrOK (F : Addr → Prop) (env : Env) (ρ : Str → Option D) (h : Heap) : Prop where
  ns : ∃ m, h.Ns env.locals m ∧ ∀ x d, env.kindOf x = some .local → ρ x = some d → ∃ v, m x = some v ∧ Rep F h v d
  cl : ∀ x d, (env.kindOf x = some .cell ∨ env.kindOf x = some .free) → ρ x = some d → ∃ a o v, env.cells.lookup x = some a ∧ h.get? a = some o ∧ o.data = .cell (some v) ∧ Rep F h v d
  lv : ∀ x a, env.cells.lookup x = some a → ∃ o, h.get? a = some o
theorem FrOK.ext {F : Addr → Prop} {env : Env} {ρ : Str → Option D} {h h' : Heap} (f : FrOK F env ρ h) (x : Ext h h') : FrOK F env ρ h' where
  ns := let ⟨m, n, k⟩ := f.ns; ⟨m, n.keeps x, fun y d e r => let ⟨v, e', q⟩ := k y d e r; ⟨v, e', q.ext x⟩⟩
  cl := fun y d e r => let ⟨a, o, v, l, g, hd, q⟩ := f.cl y d e r; ⟨a, o, v, l, x _ _ g, hd, q.ext x⟩
  lv := fun y a l => let ⟨o, e⟩ := f.lv y a l; ⟨o, x _ _ e⟩

structure EnvOK (env : Env) : Prop where
  kind : env.scope.kind = .function
  globals : env.globals = mainGlobals
  builtins : env.builtins = builtinsNs
  apart : env.cells.Pairwise fun x y => x.2 ≠ y.2
structure At (c : Cx) (n : Nat) (F : Addr → Prop) (A : Around) (env : Env) (sc : Scope) (ρ : Str → Option D) (h : Heap) : Prop where
  ok : Ok c n F A h
  scope : env.scope = sc
  eok : EnvOK env
  fr : FrOK F env ρ h
theorem At.ext {c : Cx} {n : Nat} {F : Addr → Prop} {A : Around} {env : Env} {sc : Scope} {ρ : Str → Option D} {h h' : Heap} (k : At c n F A env sc ρ h) (x : Ext h h') : At c n F A env sc ρ h' := ⟨k.1.ext x, k.2, k.3, k.4.ext x⟩

noncomputable def Ev (c : Cx) (n : Nat) (sc : Scope) (ρ : Str → Option D) (e : Expr) (d : D) : Prop :=
  ∀ (F : Addr → Prop) (A : Around) (s : Shared) (env : Env), At c n F A env sc ρ s.heap → W c A s (eval e env) fun v h' => Rep F h' v d
noncomputable def Tr (c : Cx) (n : Nat) (sc : Scope) (ρ : Str → Option D) (e : Expr) (b : Bool) : Prop :=
  ∀ (F : Addr → Prop) (A : Around) (s : Shared) (env : Env), At c n F A env sc ρ s.heap → W c A s (isTrue e env (eval e env)) fun r _ => r = b
noncomputable def Op1 (c : Cx) (n : Nat) (f : Value → Sem Value) (a r : D) : Prop :=
  ∀ (F : Addr → Prop) (A : Around) (s : Shared) (va : Value), Ok c n F A s.heap → Rep F s.heap va a → W c A s (f va) fun v h' => Rep F h' v r
noncomputable def Op2 (c : Cx) (n : Nat) (f : Value → Value → Sem Value) (a b r : D) : Prop :=
  ∀ (F : Addr → Prop) (A : Around) (s : Shared) (va vb : Value), Ok c n F A s.heap → Rep F s.heap va a → Rep F s.heap vb b → W c A s (f va vb) fun v h' => Rep F h' v r
noncomputable def Tru (c : Cx) (n : Nat) (a : D) (b : Bool) : Prop :=
  ∀ (F : Addr → Prop) (A : Around) (s : Shared) (va : Value), Ok c n F A s.heap → Rep F s.heap va a → W c A s (truthy va) fun r _ => r = b
noncomputable def Fn (c : Cx) (n : Nat) (f : Value) (as : List D) (r : D) : Prop :=
  ∀ (F : Addr → Prop) (A : Around) (s : Shared) (vs : List Value), Ok c n F A s.heap → Reps F s.heap vs as → W c A s (call f vs) fun v h' => Rep F h' v r
noncomputable def Evs (c : Cx) (n : Nat) (sc : Scope) (ρ : Str → Option D) (es : List Expr) (ds : List D) : Prop :=
  ∀ (F : Addr → Prop) (A : Around) (s : Shared) (env : Env) (pos : Pos), At c n F A env sc ρ s.heap → W c A s (spliced (backTo pos (starEach es env))) fun vs h' => Reps F h' vs ds

section
variable {c : Cx} {n : Nat} {sc : Scope} {ρ : Str → Option D}
theorem Ev.int {i : Int} {k : Nat} {pos : Pos} : Ev c n sc ρ (.Constant (.int i) k pos) (.int i) := fun _ _ s _ _ => wpAny_Constant_int ⟨s.heap, _, rfl, Ext.refl _, _, rfl⟩
theorem Ev.str {x : Str} {k : Nat} {pos : Pos} : Ev c n sc ρ (.Constant (.str x) k pos) (.str x) := fun _ _ s _ _ => wpAny_Constant_str ⟨s.heap, _, rfl, Ext.refl _, _, rfl⟩
theorem Ev.bool {b : Bool} {k : Nat} {pos : Pos} : Ev c n sc ρ (.Constant (.bool b) k pos) (.bool b) := fun _ _ s _ _ => wpAny_Constant_bool ⟨s.heap, s.toks, rfl, Ext.refl _, rfl⟩

theorem Ev.localName {x : Str} {pos : Pos} {d : D} (hl : sc.names.lookup x = some .local) (hr : ρ x = some d) (hd : (x == ("__debug__" : Str)) = false) : Ev c n sc ρ (.Name x pos) d :=
  fun F A s env k => by
    obtain ⟨m, hn, q⟩ := k.fr.ns
    have hl' : env.kindOf x = some .local := by unfold Env.kindOf; rw [k.scope]; exact hl
    obtain ⟨v, e, r⟩ := q x d hl' hr
    exact wpAny_Name (wpAny_loadName_local k.eok.kind hl' hn e ⟨s.heap, s.toks, rfl, Ext.refl _, r⟩) hd
theorem Ev.cellName {x : Str} {pos : Pos} {d : D} (hl : sc.names.lookup x = some .cell ∨ sc.names.lookup x = some .free) (hr : ρ x = some d) (hd : (x == ("__debug__" : Str)) = false) (hc : (x == ("__classdict__" : Str)) = false) : Ev c n sc ρ (.Name x pos) d :=
  fun F A s env k => by
    have hl' : env.kindOf x = some .cell ∨ env.kindOf x = some .free := by unfold Env.kindOf; rw [k.scope]; exact hl
    obtain ⟨a, o, v, l, g, hd', q⟩ := k.fr.cl x d hl' hr
    have ic : s.heap.IsCell a (some v) := ⟨o, g, hd'⟩
    rcases hl' with h1 | h1
    · exact wpAny_Name (wpAny_loadName_cell k.eok.kind h1 l ic ⟨s.heap, s.toks, rfl, Ext.refl _, q⟩) hd
    · exact wpAny_Name (wpAny_loadName_free k.eok.kind h1 l ic ⟨s.heap, s.toks, rfl, Ext.refl _, q⟩ hc) hd
theorem Ev.globalName {x : Str} {pos : Pos} {v : Value} (G : c.Good) (hl : sc.names.lookup x = some .globalImplicit) (hg : c.mg x = some v) (hd : (x == ("__debug__" : Str)) = false) : Ev c n sc ρ (.Name x pos) (.val v) :=
  fun F A s env k => Name_function_global k.eok.kind (by unfold Env.kindOf; rw [k.scope]; exact hl) (loadGlobal_global (by rw [k.eok.globals]; exact G.g.keeps k.ok.keep) hg ⟨s.heap, s.toks, rfl, Ext.refl _, rfl⟩) hd
theorem Ev.builtinName {x : Str} {pos : Pos} {v : Value} (G : c.Good) (hl : sc.names.lookup x = some .globalImplicit) (hg : c.mg x = none) (hb : c.mb x = some v) (hd : (x == ("__debug__" : Str)) = false) : Ev c n sc ρ (.Name x pos) (.val v) :=
  fun F A s env k => Name_function_global k.eok.kind (by unfold Env.kindOf; rw [k.scope]; exact hl) (loadGlobal_builtin (by rw [k.eok.globals]; exact G.g.keeps k.ok.keep) hg (by rw [k.eok.builtins]; exact G.b.keeps k.ok.keep) hb ⟨s.heap, s.toks, rfl, Ext.refl _, rfl⟩) hd
/-- a table of the top as data -/
theorem Ev.asData {e : Expr} {v : Value} {d : D} (x : Ev c n sc ρ e (.val v)) (r : ∀ F : Addr → Prop, (∀ a, F a → c.hT.get? a = none) → Rep F c.hT v d) : Ev c n sc ρ e d :=
  fun F A s env k => (x F A s env k).mono fun v' h' ex q => by
    have q' : v' = v := q
    subst q'
    exact Rep.keep (fun b o _ e => ex b o (k.ok.keep b o e)) d (r F k.ok.lo)

theorem Ev.binop {l r : Expr} {op : Operator} {pos : Pos} {a b d : D} (x : Ev c n sc ρ l a) (y : Ev c n sc ρ r b) (f : Op2 c n (binaryOp op) a b d) : Ev c n sc ρ (.BinOp l op r pos) d :=
  fun F A s env k => wpAny_BinOp ((x F A s env k).use fun va h₁ t₁ e₁ ra => (y F A { s with heap := h₁, toks := t₁ } env (k.ext e₁)).use fun vb h₂ t₂ e₂ rb =>
    (f F A { s with heap := h₂, toks := t₂ } va vb ((k.ok.ext e₁).ext e₂) (ra.ext e₂) rb).use fun v h₃ t₃ e₃ rv => ⟨h₃, t₃, rfl, (e₁.trans e₂).trans e₃, rv⟩)
theorem Ev.cmp {l r : Expr} {op : CmpOp} {pos : Pos} {a b d : D} (x : Ev c n sc ρ l a) (y : Ev c n sc ρ r b) (f : Op2 c n (compareOp op) a b d) (hm : behindInMarks op r = false) : Ev c n sc ρ (.Compare l [op] [r] pos) d :=
  fun F A s env k => wpAny_Compare1 ((x F A s env k).use fun va h₁ t₁ e₁ ra => (y F A { s with heap := h₁, toks := t₁ } env (k.ext e₁)).use fun vb h₂ t₂ e₂ rb =>
    (f F A { s with heap := h₂, toks := t₂ } va vb ((k.ok.ext e₁).ext e₂) (ra.ext e₂) rb).use fun v h₃ t₃ e₃ rv => ⟨h₃, t₃, rfl, (e₁.trans e₂).trans e₃, rv⟩) hm
theorem Tr.cmp {l r : Expr} {op : CmpOp} {pos : Pos} {a b : D} {z : Bool} (x : Ev c n sc ρ l a) (y : Ev c n sc ρ r b) (f : Op2 c n (compareOp op) a b (.bool z)) (hm : behindInMarks op r = false) : Tr c n sc ρ (.Compare l [op] [r] pos) z :=
  fun F A s env k => wpAny_isTrue_Compare1 ((x F A s env k).use fun va h₁ t₁ e₁ ra => (y F A { s with heap := h₁, toks := t₁ } env (k.ext e₁)).use fun vb h₂ t₂ e₂ rb =>
    (f F A { s with heap := h₂, toks := t₂ } va vb ((k.ok.ext e₁).ext e₂) (ra.ext e₂) rb).use fun v h₃ t₃ e₃ rv => by
      have rv' : v = .bool z := rv
      subst rv'
      exact wpAny_truthy_bool ⟨h₃, t₃, rfl, (e₁.trans e₂).trans e₃, rfl⟩) hm
theorem Tr.not {x : Expr} {pos : Pos} {b : Bool} (h : Tr c n sc ρ x b) : Tr c n sc ρ (.UnaryOp .Not x pos) (!b) :=
  fun F A s env k => wpAny_isTrue_Not ((h F A s env k).use fun r h₁ t₁ e₁ q => ⟨h₁, t₁, rfl, e₁, by rw [q]⟩)
theorem Tr.value {x : Expr} {a : D} {b : Bool} (h : Ev c n sc ρ x a) (t : Tru c n a b) (he : ∀ env whole, isTrue x env whole = (do let v ← whole; standAt x.pos; holding [v] (truthy v))) : Tr c n sc ρ x b :=
  fun F A s env k => wpAny_isTrue_value ((h F A s env k).use fun va h₁ t₁ e₁ ra => (t F A { s with heap := h₁, toks := t₁ } va (k.ok.ext e₁) ra).use fun r h₂ t₂ e₂ q => ⟨h₂, t₂, rfl, e₁.trans e₂, q⟩) (he _ _)
theorem Tr.andT {x : Expr} {rest : List Expr} {pos : Pos} {b : Bool} (h : Tr c n sc ρ x true) (t : Tr c n sc ρ (.BoolOp .And rest pos) b) : Tr c n sc ρ (.BoolOp .And (x :: rest) pos) b :=
  fun F A s env k => wpAny_isTrue_BoolOp (wpAny_allTrue_And_cons ((h F A s env k).use fun r h₁ t₁ e₁ q => by
    subst q
    have z := t F A { s with heap := h₁, toks := t₁ } env (k.ext e₁)
    unfold W at z
    rw [arm_isTrue_BoolOp] at z
    exact wpAny_mono z (fun r s' q => let ⟨h₂, t₂, e, e₂, q⟩ := q; ⟨h₂, t₂, e, e₁.trans e₂, q⟩) fun _ _ f => f))
theorem Tr.andF {x : Expr} {rest : List Expr} {pos : Pos} (h : Tr c n sc ρ x false) : Tr c n sc ρ (.BoolOp .And (x :: rest) pos) false :=
  fun F A s env k => wpAny_isTrue_BoolOp (wpAny_allTrue_And_cons ((h F A s env k).use fun r h₁ t₁ e₁ q => by subst q; exact ⟨h₁, t₁, rfl, e₁, rfl⟩))
theorem Tr.andN {pos : Pos} : Tr c n sc ρ (.BoolOp .And [] pos) true :=
  fun F A s env k => wpAny_isTrue_BoolOp (wpAny_allTrue_And_nil ⟨s.heap, s.toks, rfl, Ext.refl _, rfl⟩)
theorem Tr.orF {x : Expr} {rest : List Expr} {pos : Pos} {b : Bool} (h : Tr c n sc ρ x false) (t : Tr c n sc ρ (.BoolOp .Or rest pos) b) : Tr c n sc ρ (.BoolOp .Or (x :: rest) pos) b :=
  fun F A s env k => wpAny_isTrue_BoolOp (wpAny_allTrue_Or_cons ((h F A s env k).use fun r h₁ t₁ e₁ q => by
    subst q
    have z := t F A { s with heap := h₁, toks := t₁ } env (k.ext e₁)
    unfold W at z
    rw [arm_isTrue_BoolOp] at z
    exact wpAny_mono z (fun r s' q => let ⟨h₂, t₂, e, e₂, q⟩ := q; ⟨h₂, t₂, e, e₁.trans e₂, q⟩) fun _ _ f => f))
theorem Tr.orT {x : Expr} {rest : List Expr} {pos : Pos} (h : Tr c n sc ρ x true) : Tr c n sc ρ (.BoolOp .Or (x :: rest) pos) true :=
  fun F A s env k => wpAny_isTrue_BoolOp (wpAny_allTrue_Or_cons ((h F A s env k).use fun r h₁ t₁ e₁ q => by subst q; exact ⟨h₁, t₁, rfl, e₁, rfl⟩))
theorem Tr.orN {pos : Pos} : Tr c n sc ρ (.BoolOp .Or [] pos) false :=
  fun F A s env k => wpAny_isTrue_BoolOp (wpAny_allTrue_Or_nil ⟨s.heap, s.toks, rfl, Ext.refl _, rfl⟩)
/-- two tests and their and, or, in one value -/
theorem Tr.and2 {x y : Expr} {pos : Pos} {a b : Bool} (h : Tr c n sc ρ x a) (t : a = true → Tr c n sc ρ y b) : Tr c n sc ρ (.BoolOp .And [x, y] pos) (a && b) := by
  cases a with
  | false => exact Tr.andF h
  | true => cases b with
    | false => exact Tr.andT h (Tr.andF (t rfl))
    | true => exact Tr.andT h (Tr.andT (t rfl) Tr.andN)
theorem Tr.or2 {x y : Expr} {pos : Pos} {a b : Bool} (h : Tr c n sc ρ x a) (t : a = false → Tr c n sc ρ y b) : Tr c n sc ρ (.BoolOp .Or [x, y] pos) (a || b) := by
  cases a with
  | true => exact Tr.orT h
  | false => cases b with
    | false => exact Tr.orF h (Tr.orF (t rfl) Tr.orN)
    | true => exact Tr.orF h (Tr.orT (t rfl))
theorem Ev.ifexp {t a b : Expr} {pos : Pos} {z : Bool} {d : D} (h : Tr c n sc ρ t z) (x : z = true → Ev c n sc ρ a d) (y : z = false → Ev c n sc ρ b d) : Ev c n sc ρ (.IfExp t a b pos) d :=
  fun F A s env k => wpAny_IfExp ((h F A s env k).use fun r h₁ t₁ e₁ q => by
    subst q
    cases r with
    | true => exact (x rfl F A { s with heap := h₁, toks := t₁ } env (k.ext e₁)).use fun v h₂ t₂ e₂ q => ⟨h₂, t₂, rfl, e₁.trans e₂, q⟩
    | false => exact (y rfl F A { s with heap := h₁, toks := t₁ } env (k.ext e₁)).use fun v h₂ t₂ e₂ q => ⟨h₂, t₂, rfl, e₁.trans e₂, q⟩)
theorem Ev.unary {x : Expr} {op : UnaryOp} {pos : Pos} {a d : D} (h : Ev c n sc ρ x a) (f : Op1 c n (unaryOp op) a d) : Ev c n sc ρ (.UnaryOp op x pos) d :=
  fun F A s env k => wpAny_UnaryOp ((h F A s env k).use fun va h₁ t₁ e₁ ra => (f F A { s with heap := h₁, toks := t₁ } va (k.ok.ext e₁) ra).use fun v h₂ t₂ e₂ q => ⟨h₂, t₂, rfl, e₁.trans e₂, q⟩)
theorem Evs.nil : Evs c n sc ρ [] [] := fun F A s env pos k => wpAny_items_nil ⟨s.heap, s.toks, rfl, Ext.refl _, Reps.nil⟩
theorem Evs.cons {e : Expr} {es : List Expr} {d : D} {ds : List D} (x : Ev c n sc ρ e d) (y : Evs c n sc ρ es ds) (he : ∀ env, starEach (e :: es) env = (false, eval e env) :: starEach es env := by intro _; rfl) : Evs c n sc ρ (e :: es) (d :: ds) :=
  fun F A s env pos k => wpAny_items_cons ((x F A s env k).use fun va h₁ t₁ e₁ ra => (y F A { s with heap := h₁, toks := t₁ } env pos (k.ext e₁)).use fun vs h₂ t₂ e₂ rs => ⟨h₂, t₂, rfl, e₁.trans e₂, Reps.cons (ra.ext e₂) rs⟩) (he _)
theorem Ev.list {es : List Expr} {pos : Pos} {ds : List D} (h : Evs c n sc ρ es ds) (hl : ds.length ≤ sizeLine) : Ev c n sc ρ (.List es pos) (.list ds) :=
  fun F A s env k => wpAny_List ((h F A s env pos k).use fun vs h₁ t₁ e₁ rs => ⟨by rw [rs.length]; exact hl, _, t₁, rfl, e₁.trans (Ext.push _ _), by
    simp only [Rep]
    exact ⟨h₁.objs.size, vs, rfl, (k.ok.ext e₁).new (fresh_at _), ⟨_, Heap.get?_push_size _ rfl, rfl, _, rfl⟩, rs.ext (Ext.push _ _)⟩⟩)
theorem Ev.tup {es : List Expr} {kk : Nat} {pos : Pos} {ds : List D} (h : Evs c n sc ρ es ds) (hl : ds.length ≤ sizeLine) : Ev c n sc ρ (.Tuple es kk pos) (.tup ds) :=
  fun F A s env k => wpAny_Tuple ((h F A s env pos k).use fun vs h₁ t₁ e₁ rs => ⟨by rw [rs.length]; exact hl, _, t₁, rfl, e₁.trans (Ext.push _ _), by
    simp only [Rep]
    exact ⟨h₁.objs.size, vs, rfl, (k.ok.ext e₁).new (fresh_at _), ⟨_, Heap.get?_push_size _ rfl, rfl, _, rfl⟩, rs.ext (Ext.push _ _)⟩⟩)
theorem Ev.mono {e : Expr} {d : D} {m : Nat} (x : Ev c m sc ρ e d) (h : m ≤ n) : Ev c n sc ρ e d := fun F A s env k => x F A s env ⟨k.1.mono h, k.2, k.3, k.4⟩
end

section
variable {c : Cx} {n : Nat}
theorem Op2.addInt (a b : Int) : Op2 c n (binaryOp .Add) (.int a) (.int b) (.int (a + b)) := fun F A s va vb _ x y => by
  obtain ⟨t, rfl⟩ := x; obtain ⟨u, rfl⟩ := y; exact add_int ⟨s.heap, _, rfl, Ext.refl _, _, rfl⟩
theorem Op2.subInt (a b : Int) : Op2 c n (binaryOp .Sub) (.int a) (.int b) (.int (a - b)) := fun F A s va vb _ x y => by
  obtain ⟨t, rfl⟩ := x; obtain ⟨u, rfl⟩ := y; exact sub_int ⟨s.heap, _, rfl, Ext.refl _, _, rfl⟩
theorem Op2.modInt (a b : Int) (hb : b ≠ 0) : Op2 c n (binaryOp .Mod) (.int a) (.int b) (.int (a.fmod b)) := fun F A s va vb _ x y => by
  obtain ⟨t, rfl⟩ := x; obtain ⟨u, rfl⟩ := y; exact mod_int' hb ⟨s.heap, _, rfl, Ext.refl _, _, rfl⟩
theorem Op2.divInt (a b : Int) (hb : b ≠ 0) (hs : Builtin.divisionGoesByPylong a b = false) : Op2 c n (binaryOp .FloorDiv) (.int a) (.int b) (.int (a.fdiv b)) := fun F A s va vb _ x y => by
  obtain ⟨t, rfl⟩ := x; obtain ⟨u, rfl⟩ := y; exact floordiv_int hb ⟨s.heap, _, rfl, Ext.refl _, _, rfl⟩ (.inl hs)
theorem Op2.powInt (a b : Int) (hn : 0 ≤ b) (hn2 : b ≤ 1000000) (ha : a.natAbs < 2 ^ 64) : Op2 c n (binaryOp .Pow) (.int a) (.int b) (.int (a ^ b.toNat)) := fun F A s va vb _ x y => by
  obtain ⟨t, rfl⟩ := x; obtain ⟨u, rfl⟩ := y; exact pow_int_small hn hn2 ha ⟨s.heap, _, rfl, Ext.refl _, _, rfl⟩
theorem Op2.mulInt (a b : Int) (hm : IntMulOk a b) : Op2 c n (binaryOp .Mult) (.int a) (.int b) (.int (a * b)) := fun F A s va vb _ x y => by
  obtain ⟨t, rfl⟩ := x; obtain ⟨u, rfl⟩ := y; exact PyProof.Rows.mul_int ⟨s.heap, _, rfl, Ext.refl _, _, rfl⟩ hm
theorem Op2.addStr (a b : Str) (hs : a.length + b.length ≤ sizeLine) : Op2 c n (binaryOp .Add) (.str a) (.str b) (.str (a ++ b)) := fun F A s va vb _ x y => by
  obtain ⟨t, rfl⟩ := x; obtain ⟨u, rfl⟩ := y; exact PyProof.Rows.add_str (fun t' tk => ⟨s.heap, tk, rfl, Ext.refl _, _, rfl⟩) hs
theorem Op2.eqInt (a b : Int) : Op2 c n (compareOp .Eq) (.int a) (.int b) (.bool (a == b)) := fun F A s va vb _ x y => by
  obtain ⟨t, rfl⟩ := x; obtain ⟨u, rfl⟩ := y; exact eq_int ⟨s.heap, s.toks, rfl, Ext.refl _, rfl⟩
theorem Op2.neInt (a b : Int) : Op2 c n (compareOp .NotEq) (.int a) (.int b) (.bool (a != b)) := fun F A s va vb _ x y => by
  obtain ⟨t, rfl⟩ := x; obtain ⟨u, rfl⟩ := y; exact ne_int ⟨s.heap, s.toks, rfl, Ext.refl _, rfl⟩
theorem Op2.ltInt (a b : Int) : Op2 c n (compareOp .Lt) (.int a) (.int b) (.bool (decide (a < b))) := fun F A s va vb _ x y => by
  obtain ⟨t, rfl⟩ := x; obtain ⟨u, rfl⟩ := y; exact lt_int ⟨s.heap, s.toks, rfl, Ext.refl _, rfl⟩
theorem Op2.leInt (a b : Int) : Op2 c n (compareOp .LtE) (.int a) (.int b) (.bool (decide (a ≤ b))) := fun F A s va vb _ x y => by
  obtain ⟨t, rfl⟩ := x; obtain ⟨u, rfl⟩ := y; exact le_int ⟨s.heap, s.toks, rfl, Ext.refl _, rfl⟩
theorem Op2.geInt (a b : Int) : Op2 c n (compareOp .GtE) (.int a) (.int b) (.bool (decide (b ≤ a))) := fun F A s va vb _ x y => by
  obtain ⟨t, rfl⟩ := x; obtain ⟨u, rfl⟩ := y; exact PyProof.Rows.ge_int ⟨s.heap, s.toks, rfl, Ext.refl _, rfl⟩
theorem Op2.eqStr (a b : Str) : Op2 c n (compareOp .Eq) (.str a) (.str b) (.bool (a == b)) := fun F A s va vb _ x y => by
  obtain ⟨t, rfl⟩ := x; obtain ⟨u, rfl⟩ := y; exact PyProof.Rows.eq_str ⟨s.heap, s.toks, rfl, Ext.refl _, rfl⟩
theorem Op2.neStr (a b : Str) : Op2 c n (compareOp .NotEq) (.str a) (.str b) (.bool (a != b)) := fun F A s va vb _ x y => by
  obtain ⟨t, rfl⟩ := x; obtain ⟨u, rfl⟩ := y; exact PyProof.Rows.ne_str ⟨s.heap, s.toks, rfl, Ext.refl _, rfl⟩
theorem Tru.bool (b : Bool) : Tru c n (.bool b) b := fun F A s va _ x => by
  have x' : va = .bool b := x
  subst x'; exact wpAny_truthy_bool ⟨s.heap, s.toks, rfl, Ext.refl _, rfl⟩
end
end Qp
namespace Qp
open PySem PySem.Calls PyProof.Rows PySem.W

structure ExtP (P : Addr → Prop) (h h' : Heap) : Prop where
  keep : ∀ b o, ¬ P b → h.get? b = some o → h'.get? b = some o
  live : ∀ b o, h.get? b = some o → ∃ o', h'.get? b = some o'
theorem ExtP.refl (P : Addr → Prop) (h : Heap) : ExtP P h h := ⟨fun _ _ _ e => e, fun _ o e => ⟨o, e⟩⟩
theorem Ext.p {P : Addr → Prop} {h h' : Heap} (x : Ext h h') : ExtP P h h' := ⟨fun b o _ e => x b o e, fun b o e => ⟨o, x b o e⟩⟩
theorem ExtP.trans {P : Addr → Prop} {a b c : Heap} (x : ExtP P a b) (y : ExtP P b c) : ExtP P a c :=
  ⟨fun i o n e => y.1 i o n (x.1 i o n e), fun i o e => let ⟨o', e'⟩ := x.2 i o e; y.2 i o' e'⟩
theorem ExtP.mono {P P' : Addr → Prop} {h h' : Heap} (x : ExtP P h h') (k : ∀ a, P a → P' a) : ExtP P' h h' := ⟨fun b o n e => x.1 b o (fun q => n (k b q)) e, x.2⟩
/-- what is new does not count -/
theorem ExtP.shrink {P P' : Addr → Prop} {h h' : Heap} (x : ExtP P' h h') (k : ∀ a, P' a → P a ∨ h.get? a = none) : ExtP P h h' :=
  ⟨fun b o n e => x.1 b o (fun q => (k b q).elim n fun z => by rw [z] at e; cases e) e, x.2⟩
theorem Ok.extP {c : Cx} {n : Nat} {F P : Addr → Prop} {A : Around} {h h' : Heap} (k : Ok c n F A h) (x : ExtP P h h') (sub : ∀ a, P a → F a) : Ok c n F A h' :=
  ⟨k.1, fun b o e => x.1 b o (fun q => by rw [k.lo b (sub b q)] at e; cases e) (k.2 b o e), k.3, fun a q => let ⟨o, e⟩ := k.4 a q; x.2 a o e⟩

noncomputable def upd (ρ : Str → Option D) (x : Str) (d : D) : Str → Option D := fun y => if y = x then some d else ρ y
noncomputable def upds (ρ : Str → Option D) : List Str → List D → Str → Option D
  | x :: xs, d :: ds => upds (upd ρ x d) xs ds
  | _, _ => ρ

/-- a frame that may be stored to -/
structure Fm (F P : Addr → Prop) (env : Env) (own : Str → Prop) (ρ : Str → Option D) (h : Heap) : Prop where
  fr : FrOK F env ρ h
  sub : ∀ a, P a → F a
  loc : P env.locals
  apart : env.cells.Pairwise fun x y => x.2 ≠ y.2
  cell : ∀ x, own x → env.kindOf x = some .cell ∧ ∃ a v, env.cells.lookup x = some a ∧ h.IsCell a v ∧ P a

noncomputable def FrameP (env : Env) (own : Str → Prop) (a : Addr) : Prop := a = env.locals ∨ ∃ x, own x ∧ env.cells.lookup x = some a
theorem Fm.frameP {F P : Addr → Prop} {env : Env} {own : Str → Prop} {ρ : Str → Option D} {h : Heap} (f : Fm F P env own ρ h) {a : Addr} (q : FrameP env own a) : P a := by
  rcases q with rfl | ⟨x, o, l⟩
  · exact f.loc
  · obtain ⟨_, b, _, l', _, p⟩ := f.cell x o
    rw [l] at l'; cases l'; exact p
theorem FrOK.weak {F : Addr → Prop} {env : Env} {ρ ρ' : Str → Option D} {h : Heap} (f : FrOK F env ρ h) (k : ∀ x d, ρ' x = some d → ρ x = some d) : FrOK F env ρ' h where
  ns := let ⟨m, n, q⟩ := f.ns; ⟨m, n, fun y d e r => q y d e (k y d r)⟩
  cl := fun y d e r => f.cl y d e (k y d r)
  lv := f.lv
theorem Fm.weak {F P : Addr → Prop} {env : Env} {own : Str → Prop} {ρ ρ' : Str → Option D} {h : Heap} (f : Fm F P env own ρ h) (k : ∀ x d, ρ' x = some d → ρ x = some d) : Fm F P env own ρ' h :=
  ⟨f.fr.weak k, f.sub, f.loc, f.apart, f.cell⟩
theorem Fm.ext {F P : Addr → Prop} {env : Env} {own : Str → Prop} {ρ : Str → Option D} {h h' : Heap} (f : Fm F P env own ρ h) (x : Ext h h') : Fm F P env own ρ h' :=
  ⟨f.fr.ext x, f.sub, f.loc, f.apart, fun y q => let ⟨k, a, v, l, ic, p⟩ := f.cell y q; ⟨k, a, v, l, ic.keeps x, p⟩⟩
/-- private things that are not the frame's own turn -/
theorem Fm.off {F P : Addr → Prop} {env : Env} {own : Str → Prop} {ρ : Str → Option D} {h h' : Heap} (f : Fm F P env own ρ h) (wr : Addr → Prop) (hw : ∀ b, wr b → F b) (hl : ¬ wr env.locals)
    (hc : ∀ x a, env.cells.lookup x = some a → ¬ wr a) (k : ∀ b o, ¬ wr b → h.get? b = some o → h'.get? b = some o) : Fm F P env own ρ h' where
  fr := {
    ns := let ⟨m, n, q⟩ := f.fr.ns; ⟨m, n.at' fun o e => k _ o hl e, fun y d e r => let ⟨v, e', z⟩ := q y d e r; ⟨v, e', Rep.keep (fun b o nf e => k b o (fun w => nf (hw b w)) e) d z⟩⟩
    cl := fun y d e r => let ⟨a, o, v, l, g, hd, z⟩ := f.fr.cl y d e r; ⟨a, o, v, l, k _ _ (hc y a l) g, hd, Rep.keep (fun b o nf e => k b o (fun w => nf (hw b w)) e) d z⟩
    lv := fun y a l => let ⟨o, e⟩ := f.fr.lv y a l; ⟨o, k _ _ (hc y a l) e⟩ }
  sub := f.sub
  loc := f.loc
  apart := f.apart
  cell := fun y q => let ⟨kk, a, v, l, ⟨o, g, hd⟩, p⟩ := f.cell y q; ⟨kk, a, v, l, ⟨o, k _ _ (hc y a l) g, hd⟩, p⟩

theorem ns_ne_cell {h : Heap} {L a : Addr} {m : Str → Option Value} {o : Obj} {v : Option Value} (n : h.Ns L m) (g : h.get? a = some o) (hd : o.data = .cell v) : a ≠ L := by
  rintro rfl
  obtain ⟨o', es, ep, e, hd', _⟩ := n
  rw [g] at e; cases e
  rw [hd] at hd'; cases hd'

theorem Fm.store {M : Model} {A : Around} {E : Value → Shared → Prop} {s : Shared} {F P : Addr → Prop} {env : Env} {own : Str → Prop} {ρ : Str → Option D} {x : Str} {v : Value} {d : D} {Q : Unit → Shared → Prop}
    (f : Fm F P env own ρ s.heap) (hk : env.scope.kind = .function) (hx : env.kindOf x = some .local ∨ own x) (r : Rep F s.heap v d)
    (h : ∀ h' tk, ExtP (FrameP env own) s.heap h' → Fm F P env own (upd ρ x d) h' → Q () { s with heap := h', toks := tk }) : wpAny M A (storeName env x v) Q E s := by
  obtain ⟨m, hn, q⟩ := f.fr.ns
  rcases hx with hl | ho
  · refine wpAny_storeName_local hl hn (fun h' hn' hs => h h' _ ?_ ?_) (by rw [hk]; rfl)
    · refine ⟨fun b o nb e => hs.extBut b o (fun z => nb (.inl z)) e, fun b o e => ?_⟩
      by_cases z : b = env.locals
      · subst z; obtain ⟨o', _, _, e', _⟩ := hn'; exact ⟨o', e'⟩
      · exact ⟨o, hs.extBut b o z e⟩
    · have kp : ∀ (d : D) {v : Value}, Rep F s.heap v d → Rep F h' v d := Rep.keep fun b o nf e => hs.extBut b o (fun z => nf (f.sub _ (z ▸ f.loc))) e
      refine ⟨⟨⟨_, hn', fun y d' e' r' => ?_⟩, fun y d' e' r' => ?_, fun y b l => ?_⟩, f.sub, f.loc, f.apart, fun y o' => ?_⟩
      · unfold upd at r'
        by_cases z : y = x
        · subst z; rw [if_pos rfl] at r'; cases r'; exact ⟨v, by simp, kp _ r⟩
        · rw [if_neg z] at r'
          obtain ⟨v', e'', z'⟩ := q y d' e' r'
          exact ⟨v', by simp [z, e''], kp _ z'⟩
      · unfold upd at r'
        by_cases z : y = x
        · subst z; rcases e' with e' | e' <;> (rw [hl] at e'; cases e')
        · rw [if_neg z] at r'
          obtain ⟨a, o, v', l, g, hd, z'⟩ := f.fr.cl y d' e' r'
          exact ⟨a, o, v', l, hs.extBut _ _ (ns_ne_cell hn g hd) g, hd, kp _ z'⟩
      · obtain ⟨o, e⟩ := f.fr.lv y b l
        by_cases z : b = env.locals
        · subst z; obtain ⟨o', _, _, e', _⟩ := hn'; exact ⟨o', e'⟩
        · exact ⟨o, hs.extBut b o z e⟩
      · obtain ⟨k, a, v', l, ⟨o, g, hd⟩, p⟩ := f.cell y o'
        exact ⟨k, a, v', l, ⟨o, hs.extBut _ _ (ns_ne_cell hn g hd) g, hd⟩, p⟩
  · obtain ⟨hl, a, v₀, la, ic, pa⟩ := f.cell x ho
    obtain ⟨o₀, g₀, hd₀⟩ := id ic
    have hne := ns_ne_cell hn g₀ hd₀
    refine wpAny_storeName_cell hk hl la ic fun h' ic' hs => h h' s.toks ?_ ?_
    · refine ⟨fun b o nb e => hs.extBut b o (fun z => nb (.inr ⟨x, ho, z ▸ la⟩)) e, fun b o e => ?_⟩
      by_cases z : b = a
      · subst z; obtain ⟨o', e', _⟩ := ic'; exact ⟨o', e'⟩
      · exact ⟨o, hs.extBut b o z e⟩
    · have kp : ∀ (d : D) {v : Value}, Rep F s.heap v d → Rep F h' v d := Rep.keep fun b o nf e => hs.extBut b o (fun z => nf (f.sub _ (z ▸ pa))) e
      have other : ∀ y b, env.cells.lookup y = some b → y ≠ x → b ≠ a := fun y b lb ny z => ny (name_of_addr f.apart (mem_of_lookup lb) (z ▸ mem_of_lookup la))
      refine ⟨⟨⟨m, hn.sameBut hs (Ne.symm hne), fun y d' e' r' => ?_⟩, fun y d' e' r' => ?_, fun y b l => ?_⟩, f.sub, f.loc, f.apart, fun y o' => ?_⟩
      · unfold upd at r'
        by_cases z : y = x
        · subst z; rw [hl] at e'; cases e'
        · rw [if_neg z] at r'
          obtain ⟨v', e'', z'⟩ := q y d' e' r'
          exact ⟨v', e'', kp _ z'⟩
      · unfold upd at r'
        by_cases z : y = x
        · subst z; rw [if_pos rfl] at r'; cases r'
          obtain ⟨o', g', hd'⟩ := ic'
          exact ⟨a, o', v, la, g', hd', kp _ r⟩
        · rw [if_neg z] at r'
          obtain ⟨b, o, v', l, g, hd, z'⟩ := f.fr.cl y d' e' r'
          exact ⟨b, o, v', l, hs.extBut _ _ (other y b l z) g, hd, kp _ z'⟩
      · obtain ⟨o, e⟩ := f.fr.lv y b l
        by_cases z : b = a
        · subst z; obtain ⟨o', e', _⟩ := ic'; exact ⟨o', e'⟩
        · exact ⟨o, hs.extBut b o z e⟩
      · obtain ⟨k, b, v', l, ⟨o, g, hd⟩, p⟩ := f.cell y o'
        by_cases z : y = x
        · subst z; rw [la] at l; cases l; exact ⟨k, a, some v, la, ic', pa⟩
        · exact ⟨k, b, v', l, ⟨o, hs.extBut _ _ (other y b l z) g, hd⟩, p⟩

/-- a target and its names -/
inductive Tgt : Expr → List Str → Prop
  | name (x : Str) (pos : Pos) : Tgt (.Name x pos) [x]
  | two (x y : Str) (p q r : Pos) (k : Nat) : Tgt (.Tuple [.Name x p, .Name y q] k r) [x, y]
  | three (x y z : Str) (p q u r : Pos) (k : Nat) : Tgt (.Tuple [.Name x p, .Name y q, .Name z u] k r) [x, y, z]

noncomputable def RowAt (F : Addr → Prop) (h : Heap) (v : Value) (target : Expr) (row : List D) : Prop := match target with
  | .Name _ _ => ∃ d, row = [d] ∧ Rep F h v d
  | .Tuple _ _ _ => ∃ T vs, v = .ref T ∧ h.IsTuple T vs.toArray ∧ Reps F h vs row
  | _ => False

theorem len_two {α : Type} {l : List α} (h : l.length = 2) : ∃ a b, l = [a, b] := by
  match l, h with
  | [a, b], _ => exact ⟨a, b, rfl⟩
theorem len_three {α : Type} {l : List α} (h : l.length = 3) : ∃ a b c, l = [a, b, c] := by
  match l, h with
  | [a, b, c], _ => exact ⟨a, b, c, rfl⟩
section
variable {prog : Program} {w : World} {A : Around} {E : Value → Shared → Prop} {s : Shared} {F P : Addr → Prop} {env : Env} {own : Str → Prop} {ρ : Str → Option D} {Q : Unit → Shared → Prop}
theorem assign_row {target : Expr} {xs : List Str} {v : Value} {row : List D} (t : Tgt target xs) (f : Fm F P env own ρ s.heap) (hh : A.handled = none) (hk : env.scope.kind = .function)
    (hx : ∀ x ∈ xs, env.kindOf x = some .local ∨ own x) (hlen : row.length = xs.length) (r : RowAt F s.heap v target row)
    (h : ∀ h' tk, ExtP (FrameP env own) s.heap h' → Fm F P env own (upds ρ xs row) h' → Q () { s with heap := h', toks := tk }) : wpAny (model prog w) A (assign target env v) Q E s := by
  cases t with
  | name x pos =>
    obtain ⟨d, rfl, r⟩ := r
    exact wpAny_assign_Name (f.store hk (hx x (by simp)) r h)
  | two x y p q u k =>
    obtain ⟨T, vs, rfl, it, rs⟩ := r
    obtain ⟨d₁, d₂, rfl⟩ := len_two hlen
    · simp only [Reps] at rs
      obtain ⟨v₁, _, rfl, r₁, v₂, _, rfl, r₂, rfl⟩ := rs
      refine wpAny_assign_Tuple hh it rfl rfl fun h₁ x₁ => ?_
      have e₁ : Ext s.heap h₁ := fun b o e => x₁ b o (Nat.ne_of_lt (Heap.lt_size e)) e
      show wpAny _ A (do holding [v₂] (assign (.Name x p) env v₁); holding [] (assign (.Name y q) env v₂); pure ()) Q E _
      refine wpAny_bind (wpAny_holding (wpAny_assign_Name (Fm.store (s := { s with heap := h₁ }) (f.ext e₁) hk (hx x (by simp)) (r₁.ext e₁) fun h₂ t₂ x₂ f₂ => ?_)))
      have k₂ := Rep.keep (F := F) (h := h₁) (h' := h₂) (fun b o nf e => x₂.1 b o (fun z => nf (f.sub _ (f.frameP z))) e)
      refine wpAny_bind (wpAny_holding (wpAny_assign_Name (Fm.store (s := { s with heap := h₂, toks := t₂ }) f₂ hk (hx y (by simp)) (k₂ _ (r₂.ext e₁)) fun h₃ t₃ x₃ f₃ => wpAny_pure (h h₃ t₃ ((e₁.p.trans x₂).trans x₃) f₃))))
  | three x y z p q u' u k =>
    obtain ⟨T, vs, rfl, it, rs⟩ := r
    obtain ⟨d₁, d₂, d₃, rfl⟩ := len_three hlen
    · simp only [Reps] at rs
      obtain ⟨v₁, _, rfl, r₁, v₂, _, rfl, r₂, v₃, _, rfl, r₃, rfl⟩ := rs
      refine wpAny_assign_Tuple hh it rfl rfl fun h₁ x₁ => ?_
      have e₁ : Ext s.heap h₁ := fun b o e => x₁ b o (Nat.ne_of_lt (Heap.lt_size e)) e
      show wpAny _ A (do holding [v₂, v₃] (assign (.Name x p) env v₁); holding [v₃] (assign (.Name y q) env v₂); holding [] (assign (.Name z u') env v₃); pure ()) Q E _
      refine wpAny_bind (wpAny_holding (wpAny_assign_Name (Fm.store (s := { s with heap := h₁ }) (f.ext e₁) hk (hx x (by simp)) (r₁.ext e₁) fun h₂ t₂ x₂ f₂ => ?_)))
      have k₂ := Rep.keep (F := F) (h := h₁) (h' := h₂) (fun b o nf e => x₂.1 b o (fun z => nf (f.sub _ (f.frameP z))) e)
      refine wpAny_bind (wpAny_holding (wpAny_assign_Name (Fm.store (s := { s with heap := h₂, toks := t₂ }) f₂ hk (hx y (by simp)) (k₂ _ (r₂.ext e₁)) fun h₃ t₃ x₃ f₃ => ?_)))
      have k₃ := Rep.keep (F := F) (h := h₂) (h' := h₃) (fun b o nf e => x₃.1 b o (fun z => nf (f.sub _ (f.frameP z))) e)
      refine wpAny_bind (wpAny_holding (wpAny_assign_Name (Fm.store (s := { s with heap := h₃, toks := t₃ }) f₃ hk (hx z (by simp)) (k₃ _ (k₂ _ (r₃.ext e₁))) fun h₄ t₄ x₄ f₄ => wpAny_pure (h h₄ t₄ (((e₁.p.trans x₂).trans x₃).trans x₄) f₄))))
end
end Qp
namespace Qp
open PySem PySem.Calls PyProof.Rows PySem.W

/-- an iterator that hands out rows -/
noncomputable def Src (c : Cx) (A : Around) (F : Addr → Prop) (target : Expr) (h₀ h : Heap) (it : Value) (rows : List (List D)) : Prop :=
  ∃ (I : Addr) (fp wr : List Addr) (P Md : Nat → Value → Heap → Prop) (St : Nat → Heap → Prop),
    it = .ref I ∧ KTurns c.prog c.w A target I fp wr rows.length P Md St ∧ St 0 h ∧
    (∀ b ∈ fp, ¬ F b ∧ ∃ o, h.get? b = some o) ∧ (∀ b ∈ wr, h₀.get? b = none) ∧ (∀ i h, St i h → ∀ b ∈ wr, ∃ o, h.get? b = some o) ∧
    (∀ i (s : Shared) (Q : Value → Shared → Prop) (E : Value → Shared → Prop), St i s.heap → Q (.ref I) s → wpAny (model c.prog c.w) A (pyIter (.ref I)) Q E s) ∧
    (∀ (F' : Addr → Prop) i v h' row, (∀ a, F' a → F a ∨ h₀.get? a = none) → (∀ b o, ¬ F' b → h₀.get? b = some o → h'.get? b = some o) → P i v h' → rows[i]? = some row → RowAt F' h' v target row)

noncomputable def ItEv (c : Cx) (n : Nat) (sc : Scope) (ρ : Str → Option D) (iter target : Expr) (rows : List (List D)) : Prop :=
  ∀ (F : Addr → Prop) (A : Around) (s : Shared) (env : Env), At c n F A env sc ρ s.heap →
    W c A s (eval iter env) fun x h₁ => ∀ tk, W c A { s with heap := h₁, toks := tk } (pyIter x) fun it h₂ => ∃ h₀, Ext s.heap h₀ ∧ Ext h₀ h₂ ∧ Src c A F target h₀ h₂ it rows

structure CompSt (F P : Addr → Prop) (env : Env) (own : Str → Prop) (ρ : Str → Option D) (acc : Addr) (ds : List D) (h : Heap) : Prop where
  fm : Fm F P env own ρ h
  pacc : P acc
  acc : ∃ vs, h.IsList acc vs.toArray ∧ Reps F h vs ds

noncomputable def Act (c : Cx) (n : Nat) (sc : Scope) (own : Str → Prop) (ρ : Str → Option D) (t : Env → Value → Sem Fin → Sem Fin) (outs : List D) : Prop :=
  ∀ (F P : Addr → Prop) (A : Around) (s : Shared) (env : Env) (acc : Addr) (ds : List D) (k : Sem Fin) (Q : Fin → Shared → Prop) (E : Value → Shared → Prop), Ok c n F A s.heap → env.scope = sc → EnvOK env → CompSt F P env own ρ acc ds s.heap → ds.length + outs.length ≤ sizeLine →
    (∀ h' tk, ExtP P s.heap h' → CompSt F P env own ρ acc (ds ++ outs) h' → wpAny (model c.prog c.w) A k Q E { s with heap := h', toks := tk }) →
    wpAny (model c.prog c.w) A (t env (.ref acc) k) Q E s

noncomputable def Ts (c : Cx) (n : Nat) (sc : Scope) (ρ : Str → Option D) : List Expr → Bool → Prop
  | [], b => b = true
  | [t], b => Tr c n sc ρ t b
  | _, _ => False

noncomputable def turnOf (e : Expr) (k : Nat) (p : Pos) (target : Expr) (ifs : List Expr) (inner : Env → Value → Sem Fin → Sem Fin) (it acc : Value) (env : Env) : Sem Fin := do
  standAt p
  match ← pyNext it with
  | none => pure (.done .next)
  | some v =>
    letOwnedTupleGo target it v
    assign target env v
    let mut ok := true
    for c in ifs do
      if ok then ok ← isTrue c env (eval c env)
    if ok then inner env acc (again (.compLoop e k it acc env)) else again (.compLoop e k it acc env)

noncomputable def emit (elt : Expr) (env : Env) (acc : Value) (k : Sem Fin) : Sem Fin := do
  (do let _ ← call (.builtin "list.append") [acc, ← eval elt env])
  k
noncomputable def deeper (e : Expr) (d : Nat) (iter : Expr) (env : Env) (acc : Value) (k : Sem Fin) : Sem Fin := do
  let x ← eval iter env
  standAt iter.pos
  let x ← foldedSetIterable iter env x
  let it ← holding [x] (pyIter x)
  let _ ← runOwn (.compStart e d it acc env) env
  k

theorem turn_one (elt target iter : Expr) (ifs : List Expr) (scope : Scope) (pos : Pos) (it acc : Value) (env : Env) :
    compTurn (.ListComp elt [⟨target, iter, ifs, 0⟩] scope pos) 0 it acc env = turnOf (.ListComp elt [⟨target, iter, ifs, 0⟩] scope pos) 0 iter.pos target ifs (emit elt) it acc env := by rfl
theorem turn_outer (elt target iter target' iter' : Expr) (ifs ifs' : List Expr) (scope : Scope) (pos : Pos) (it acc : Value) (env : Env) :
    compTurn (.ListComp elt [⟨target, iter, ifs, 0⟩, ⟨target', iter', ifs', 0⟩] scope pos) 0 it acc env = turnOf (.ListComp elt [⟨target, iter, ifs, 0⟩, ⟨target', iter', ifs', 0⟩] scope pos) 0 iter.pos target ifs (deeper (.ListComp elt [⟨target, iter, ifs, 0⟩, ⟨target', iter', ifs', 0⟩] scope pos) 1 iter') it acc env := by rfl
theorem turn_inner (elt target iter target' iter' : Expr) (ifs ifs' : List Expr) (scope : Scope) (pos : Pos) (it acc : Value) (env : Env) :
    compTurn (.ListComp elt [⟨target, iter, ifs, 0⟩, ⟨target', iter', ifs', 0⟩] scope pos) 1 it acc env = turnOf (.ListComp elt [⟨target, iter, ifs, 0⟩, ⟨target', iter', ifs', 0⟩] scope pos) 1 iter'.pos target' ifs' (emit elt) it acc env := by rfl

section
variable {c : Cx} {n : Nat} {sc : Scope} {own : Str → Prop} {ρ : Str → Option D}
theorem upds_other : ∀ {xs : List Str} {ρ : Str → Option D} {row : List D} {y : Str}, y ∉ xs → upds ρ xs row y = ρ y
  | [], _, row, _, _ => by cases row <;> rfl
  | x :: xs, ρ, [], y, _ => rfl
  | x :: xs, ρ, d :: row, y, h => by
    show upds (upd ρ x d) xs row y = ρ y
    rw [upds_other fun q => h (List.mem_cons_of_mem _ q)]
    unfold upd
    rw [if_neg (fun q : y = x => h (by rw [q]; exact List.mem_cons_self))]
theorem upds_le {xs : List Str} {row : List D} (h : ∀ x ∈ xs, ρ x = none) : ∀ y d, ρ y = some d → upds ρ xs row y = some d := fun y d e => by
  rw [upds_other fun q => by rw [h y q] at e; cases e]; exact e

theorem CompSt.weak {F P : Addr → Prop} {env : Env} {ρ' : Str → Option D} {acc : Addr} {ds : List D} {h : Heap} (x : CompSt F P env own ρ acc ds h) (k : ∀ y d, ρ' y = some d → ρ y = some d) : CompSt F P env own ρ' acc ds h := ⟨x.fm.weak k, x.pacc, x.acc⟩

theorem list_ne_ns {h : Heap} {L a : Addr} {m : Str → Option Value} {vs : Array Value} (n : h.Ns L m) (g : h.IsList a vs) : a ≠ L := by
  rintro rfl
  obtain ⟨o', es, ep, e, hd', _⟩ := n
  obtain ⟨o, e', _, _, hd⟩ := g
  rw [e] at e'; cases e'
  rw [hd] at hd'; cases hd'
theorem list_ne_cell {h : Heap} {a b : Addr} {o : Obj} {v : Option Value} {vs : Array Value} (g : h.IsList a vs) (e : h.get? b = some o) (hd' : o.data = .cell v) : b ≠ a := by
  rintro rfl
  obtain ⟨o', e', _, _, hd⟩ := g
  rw [e] at e'; cases e'
  rw [hd] at hd'; cases hd'

theorem Act.emit {elt : Expr} {d : D} (x : Ev c n sc ρ elt d) : Act c n sc own ρ (emit elt) [d] := fun F P A s env acc ds k Q E ok hs eo st hl hk => by
  refine wpAny_bind (wpAny_bind ((x F A s env ⟨ok, hs, eo, st.fm.fr⟩).use fun v h₁ t₁ e₁ r => ?_))
  obtain ⟨vs, il, rs⟩ := st.acc
  have hlen := rs.length
  have il₁ : h₁.IsList acc vs.toArray := il.at fun o e => e₁ _ o e
  refine wpAny_bind (wpAny_list_append (s := { s with heap := h₁, toks := t₁ }) il₁ (fun h₂ il₂ hs₂ => wpAny_pure ?_) (by simp only [List.size_toArray, List.length_singleton] at *; omega))
  have f₁ := st.fm.ext e₁
  have kp : ∀ (d : D) {v : Value}, Rep F h₁ v d → Rep F h₂ v d := Rep.keep fun b o nf e => hs₂.extBut b o (fun z => nf (f₁.sub _ (z ▸ st.pacc))) e
  have kps : ∀ (d : List D) {v : List Value}, Reps F h₁ v d → Reps F h₂ v d := Reps.keep fun b o nf e => hs₂.extBut b o (fun z => nf (f₁.sub _ (z ▸ st.pacc))) e
  have e₂ : ExtP P h₁ h₂ := ⟨fun b o nb e => hs₂.extBut b o (fun z => nb (z ▸ st.pacc)) e, fun b o e => by
    by_cases z : b = acc
    · subst z; obtain ⟨o', e', _⟩ := il₂; exact ⟨o', e'⟩
    · exact ⟨o, hs₂.extBut b o z e⟩⟩
  refine hk h₂ t₁ (e₁.p.trans e₂) ⟨?_, st.pacc, vs ++ [v], by simpa using il₂, Reps.append (kps _ (rs.ext e₁)) (Reps.one (kp _ r))⟩
  obtain ⟨m, hn, q⟩ := f₁.fr.ns
  refine ⟨⟨⟨m, hn.sameBut hs₂ (Ne.symm (list_ne_ns hn il₁)), fun y d e r => let ⟨v, e', z⟩ := q y d e r; ⟨v, e', kp _ z⟩⟩, fun y d e r => ?_, fun y b l => let ⟨o, e⟩ := f₁.fr.lv y b l; e₂.2 b o e⟩, f₁.sub, f₁.loc, f₁.apart, fun y o => ?_⟩
  · obtain ⟨a, o, v, l, g, hd, z⟩ := f₁.fr.cl y d e r
    exact ⟨a, o, v, l, hs₂.extBut _ _ (list_ne_cell il₁ g hd) g, hd, kp _ z⟩
  · obtain ⟨kk, a, v, l, ⟨o, g, hd⟩, p⟩ := f₁.cell y o
    exact ⟨kk, a, v, l, ⟨o, hs₂.extBut _ _ (list_ne_cell il₁ g hd) g, hd⟩, p⟩

theorem tests_of {ifs : List Expr} {b : Bool} (t : Ts c n sc ρ ifs b) {F : Addr → Prop} {A : Around} {s : Shared} {env : Env} (a : At c n F A env sc ρ s.heap) {Q : Bool → Shared → Prop} {E : Value → Shared → Prop}
    (h : ∀ h' tk, Ext s.heap h' → Q b { s with heap := h', toks := tk }) :
    wpAny (model c.prog c.w) A (forIn ifs true fun c r => if r = true then do let ok ← isTrue c env (eval c env); pure (ForInStep.yield ok) else pure (ForInStep.yield r)) Q E s := by
  match ifs, t with
  | [], t =>
    have t' : b = true := t
    subst t'
    exact wpAny_tests_nil (h s.heap s.toks (Ext.refl _))
  | [e], t => exact wpAny_tests_one ((t F A s env a).use fun r h' tk x q => by subst q; exact h h' tk x)

structure LoopExt (P : Addr → Prop) (wr : List Addr) (h h' : Heap) : Prop where
  keep : ∀ b o, ¬ P b → b ∉ wr → h.get? b = some o → h'.get? b = some o
  live : ∀ b o, b ∉ wr → h.get? b = some o → ∃ o', h'.get? b = some o'

theorem comp_loop {e : Expr} {k : Nat} {p : Pos} {target : Expr} {ifs : List Expr} {inner : Env → Value → Sem Fin → Sem Fin} {xs : List Str} {rows : List (List D)} {f : List D → List D}
    (t : Tgt target xs) (te : ∀ it acc env, compTurn e k it acc env = turnOf e k p target ifs inner it acc env) (hfr : ∀ it acc env, (Code.compLoop e k it acc env).isFrame = false)
    (hx : ∀ x ∈ xs, sc.names.lookup x = some .local ∨ own x) (hr0 : ∀ x ∈ xs, ρ x = none)
    (hrow : ∀ row ∈ rows, row.length = xs.length ∧ ∃ b, Ts c n sc (upds ρ xs row) ifs b ∧ (b = true → Act c n sc own (upds ρ xs row) inner (f row)) ∧ (b = false → f row = []))
    {F P : Addr → Prop} {A : Around} {s : Shared} {env : Env} {acc : Addr} {ds : List D} {I : Addr} {fp wr : List Addr} {Pk Md : Nat → Value → Heap → Prop} {St : Nat → Heap → Prop}
    (K : KTurns c.prog c.w A target I fp wr rows.length Pk Md St) (hst : St 0 s.heap) (ok : Ok c n F A s.heap) (hsc : env.scope = sc) (eo : EnvOK env)
    (hfp : ∀ b ∈ fp, ¬ P b) (hwF : ∀ b ∈ wr, F b) (hwc : ∀ x a, env.cells.lookup x = some a → a ∉ wr) (hlive : ∀ i h, St i h → ∀ b ∈ wr, ∃ o, h.get? b = some o)
    (hrows : ∀ i v h' row, (∀ b o, ¬ F b → s.heap.get? b = some o → h'.get? b = some o) → Pk i v h' → rows[i]? = some row → RowAt F h' v target row)
    (cs : CompSt F P env own ρ acc ds s.heap) (hlen : ds.length + (rows.flatMap f).length ≤ sizeLine) {R : Result → Shared → Prop}
    (hR : ∀ h' tk, LoopExt P wr s.heap h' → CompSt F P env own ρ acc (ds ++ rows.flatMap f) h' → R (.ok .next) { s with heap := h', toks := tk }) :
    codeAny (model c.prog c.w) A (.compLoop e k (.ref I) (.ref acc) env) R s := by
  have sub' : ∀ a, (P a ∨ a ∈ wr) → F a := fun a q => q.elim (cs.fm.sub a) (hwF a)
  have locw : env.locals ∉ wr := fun q => hfp _ (K.sub _ q) cs.fm.loc
  have accw : acc ∉ wr := fun q => hfp _ (K.sub _ q) cs.pacc
  have hkd : ∀ x ∈ xs, env.kindOf x = some .local ∨ own x := fun x q => (hx x q).imp (fun z => by unfold Env.kindOf; rw [hsc]; exact z) id
  have onwr : ∀ {h h' : Heap} {ds'}, CompSt F P env own ρ acc ds' h → (∀ b o, b ∉ wr → h.get? b = some o → h'.get? b = some o) → CompSt F P env own ρ acc ds' h' := fun {h h'} ds' x kk => by
    refine ⟨x.fm.off (fun b => b ∈ wr) hwF locw hwc kk, x.pacc, ?_⟩
    obtain ⟨vs, il, rs⟩ := x.acc
    exact ⟨vs, il.at fun o e => kk _ o accw e, Reps.keep (fun b o nf e => kk b o (fun q => nf (hwF b q)) e) _ rs⟩
  refine codeAny_loop (by first | rfl | exact rfl) (fun m s' => ∃ i h' tk, s' = { s with heap := h', toks := tk } ∧ i ≤ rows.length ∧ m = rows.length + 1 - i ∧ St i h' ∧ CompSt F P env own ρ acc (ds ++ (rows.take i).flatMap f) h' ∧ ExtP (fun a => P a ∨ a ∈ wr) s.heap h') ?_ (rows.length + 1)
    ⟨0, s.heap, s.toks, rfl, Nat.zero_le _, rfl, hst, by simpa using cs, ExtP.refl _ _⟩
  rintro m s' ⟨i, h', tk, rfl, hi, rfl, hst', cs', ex'⟩
  have hden : (model c.prog c.w).den (.compLoop e k (.ref I) (.ref acc) env) = (compTurn e k (.ref I) (.ref acc) env).onRaise (fun x => do noteFrame x env; theTreesLotGoes x) := by
    show (if (Code.compLoop e k (.ref I) (.ref acc) env).isFrame = true then _ else _) = _
    rw [hfr]; rfl
  rw [hden]
  refine wpAny_noted ?_
  rw [te]
  unfold turnOf
  have hA : A.under (.compLoop e k (.ref I) (.ref acc) env) = A := Around.under_of_weight (by
    have := hfr (.ref I) (.ref acc) env
    simp [Code.weight, Code.frames, this, Code.isCreation, Code.isGuard, Code.isCaller]) (by
    have := hfr (.ref I) (.ref acc) env
    simp [Code.cUnits, Code.frames, this])
  rw [hA]
  have ok' : Ok c n F A h' := ok.extP ex' sub'
  refine wpAny_bind (wpAny_standAt (wpAny_bind ?_))
  by_cases hlt : i < rows.length
  · refine K.item i { s with heap := h', toks := tk } _ _ hlt hst' fun v h₁ t₁ hMd hk₁ => ?_
    refine wpAny_bind (K.go i v { s with heap := h₁, toks := t₁ } _ _ hMd fun h₂ hP hst₂ hk₂ => ?_)
    have cs₂ := onwr (onwr cs' hk₁) hk₂
    have kk₂ : ∀ b o, b ∉ wr → h'.get? b = some o → h₂.get? b = some o := fun b o q e => hk₂ b o q (hk₁ b o q e)
    have ex₂ : ExtP (fun a => P a ∨ a ∈ wr) s.heap h₂ := ⟨fun b o nb e => kk₂ b o (fun q => nb (.inr q)) (ex'.1 b o nb e), fun b o e => by
      by_cases q : b ∈ wr
      · exact hlive _ _ hst₂ b q
      · obtain ⟨o', e'⟩ := ex'.2 b o e; exact ⟨o', kk₂ b o' q e'⟩⟩
    have hrw : rows[i]? = some rows[i] := List.getElem?_eq_getElem hlt
    have hmem : rows[i] ∈ rows := List.getElem_mem hlt
    generalize rows[i] = row at hrw hmem
    obtain ⟨hrl, b, hts, ht, hf⟩ := hrow row hmem
    refine wpAny_bind (assign_row (s := { s with heap := h₂, toks := t₁ }) t cs₂.fm ok.room.handled eo.kind hkd hrl (hrows i v h₂ row (fun b o nf e => ex₂.1 b o (fun q => nf (sub' b q)) e) hP hrw) fun h₃ t₃ x₃ f₃ => ?_)
    have ex₃ : ExtP (fun a => P a ∨ a ∈ wr) s.heap h₃ := ex₂.trans (x₃.mono fun a q => .inl (cs₂.fm.frameP q))
    have cs₃ : CompSt F P env own (upds ρ xs row) acc (ds ++ (rows.take i).flatMap f) h₃ := by
      obtain ⟨vs, il, rs⟩ := cs₂.acc
      refine ⟨f₃, cs₂.pacc, vs, il.at fun o e => x₃.1 _ o (fun q => ?_) e, Reps.keep (fun b o nf e => x₃.1 b o (fun q => nf (cs₂.fm.sub _ (cs₂.fm.frameP q))) e) _ rs⟩
      rcases q with q | ⟨x, ow, l⟩
      · obtain ⟨m, hn, _⟩ := cs₂.fm.fr.ns
        exact list_ne_ns hn il q
      · obtain ⟨_, a, v, l', ⟨o', g, hd⟩, _⟩ := cs₂.fm.cell x ow
        rw [l] at l'; cases l'
        exact list_ne_cell il g hd rfl
    have hst₃ : St (i + 1) h₃ := K.frame _ _ _ hst₂ fun b hb o e => x₃.1 b o (fun q => hfp b hb (cs₂.fm.frameP q)) e
    have htake : (rows.take (i + 1)).flatMap f = (rows.take i).flatMap f ++ f row := by
      rw [List.take_add_one, hrw]
      simp
    have hsum : ((rows.take i).flatMap f).length + (f row).length ≤ (rows.flatMap f).length := by
      rw [← List.length_append, ← htake]
      conv => rhs; rw [← List.take_append_drop (i + 1) rows, List.flatMap_append, List.length_append]
      exact Nat.le_add_right _ _
    refine wpAny_bind (tests_of hts (s := { s with heap := h₃, toks := t₃ }) ⟨ok.extP ex₃ sub', hsc, eo, cs₃.fm.fr⟩ fun h₄ t₄ x₄ => ?_)
    have cs₄ : CompSt F P env own (upds ρ xs row) acc (ds ++ (rows.take i).flatMap f) h₄ := ⟨cs₃.fm.ext x₄, cs₃.pacc, let ⟨vs, il, rs⟩ := cs₃.acc; ⟨vs, il.at fun o e => x₄ _ o e, rs.ext x₄⟩⟩
    have ex₄ := ex₃.trans (x₄.p (P := fun a => P a ∨ a ∈ wr))
    have hst₄ : St (i + 1) h₄ := K.frame _ _ _ hst₃ fun b hb o e => x₄ b o e
    cases b with
    | false =>
      rw [hf rfl, List.append_nil] at htake
      exact wpAny_pure ⟨rfl, _, (by omega : rows.length + 1 - (i + 1) < rows.length + 1 - i), i + 1, h₄, t₄, rfl, hlt, rfl, hst₄, by rw [htake]; exact cs₄.weak (upds_le hr0), ex₄⟩
    | true =>
      show wpAny _ A (inner env (.ref acc) _) _ _ _
      refine ht rfl F P A { s with heap := h₄, toks := t₄ } env acc _ _ _ _ (ok.extP ex₄ sub') hsc eo cs₄ (by rw [List.length_append]; omega) fun h₅ t₅ x₅ cs₅ => ?_
      rw [List.append_assoc, ← htake] at cs₅
      have hst₅ : St (i + 1) h₅ := K.frame _ _ _ hst₄ fun b hb o e => x₅.1 b o (hfp b hb) e
      exact wpAny_pure ⟨rfl, _, (by omega : rows.length + 1 - (i + 1) < rows.length + 1 - i), i + 1, h₅, t₅, rfl, hlt, rfl, hst₅, cs₅.weak (upds_le hr0), ex₄.trans (x₅.mono fun a q => .inl q)⟩
  · obtain rfl : i = rows.length := Nat.le_antisymm hi (Nat.not_lt.mp hlt)
    refine K.done { s with heap := h', toks := tk } _ _ hst' fun h₁ t₁ hk₁ => ?_
    refine wpAny_pure (hR h₁ t₁ ⟨fun b o nb nw e => hk₁ b o nw (ex'.1 b o (fun q => q.elim nb nw) e), fun b o nw e => ?_⟩ ?_)
    · obtain ⟨o', e'⟩ := ex'.2 b o e; exact ⟨o', hk₁ b o' nw e'⟩
    · rw [List.take_length] at cs'
      exact onwr cs' hk₁
end
end Qp
namespace Qp
open PySem PySem.Calls PyProof.Rows PySem.W

noncomputable def relabelS (scope sc : Scope) : Scope :=
  { scope with names := scope.names.map fun (n, k) => if (k == .free && sc.kind == .function && sc.names.lookup n == some .cell) then (n, .cell) else (n, k) }
theorem relabel_eq {scope sc : Scope} {env : Env} (h : env.scope = sc) : relabel scope env = relabelS scope sc := by
  unfold relabel relabelS Env.kindOf; rw [h]

noncomputable def closL (cells : List (Str × Addr)) : List (Str × NameKind) → List (Str × Addr) → List (Str × Addr)
  | [], acc => acc
  | (n, k) :: r, acc => if k == .free then closL cells r ((n, (cells.lookup n).getD 0) :: acc) else closL cells r acc

theorem closure_go {env : Env} (f : Str × NameKind → List (Str × Addr) → Sem (ForInStep (List (Str × Addr))))
    (hf : ∀ name kind cs, f (name, kind) cs = if kind == .free then (do let a ← cellOf env name; pure (.yield ((name, a) :: cs))) else pure (.yield cs)) :
    ∀ (names : List (Str × NameKind)) (acc : List (Str × Addr)), (∀ x ∈ names, x.2 = .free → (env.cells.lookup x.1).isSome = true) → forIn names acc f = pure (closL env.cells names acc)
  | [], acc, _ => by rw [List.forIn_nil]; rfl
  | (n, k) :: r, acc, h => by
    rw [List.forIn_cons, hf]
    unfold closL
    by_cases hk : (k == NameKind.free) = true
    · rw [if_pos hk, if_pos hk]
      have hs := h (n, k) List.mem_cons_self (beq_iff_eq.mp hk)
      obtain ⟨a, ha⟩ := Option.isSome_iff_exists.mp hs
      have ha' : env.cells.lookup n = some a := ha
      rw [ha', Option.getD_some]
      show ((match env.cells.lookup n with | some a => (pure a : Sem Addr) | none => unsupported "internal:no-cell-for-name") >>= _) >>= _ = _
      rw [ha']
      simp only [pure_bind]
      exact closure_go f hf r _ fun x hx => h x (List.mem_cons_of_mem _ hx)
    · rw [if_neg hk, if_neg hk, pure_bind]
      exact closure_go f hf r _ fun x hx => h x (List.mem_cons_of_mem _ hx)
theorem closure_eq {scope : Scope} {env : Env} (h : ∀ x ∈ scope.names, x.2 = .free → (env.cells.lookup x.1).isSome = true) : closureFor scope env = pure (closL env.cells scope.names []) := by
  simp only [closureFor]
  rw [closure_go _ (fun name kind cs => by cases hk : kind == NameKind.free <;> simp [hk]) scope.names [] h]
  rfl

theorem closL_append (cells : List (Str × Addr)) : ∀ (names : List (Str × NameKind)) (acc : List (Str × Addr)), closL cells names acc = closL cells names [] ++ acc
  | [], acc => rfl
  | (n, k) :: r, acc => by
    unfold closL
    split
    · rw [closL_append cells r ((n, (cells.lookup n).getD 0) :: acc), closL_append cells r [(n, (cells.lookup n).getD 0)], List.append_assoc]; rfl
    · exact closL_append cells r acc
theorem closL_mem (cells : List (Str × Addr)) : ∀ {names : List (Str × NameKind)} {x : Str} {a : Addr}, (x, a) ∈ closL cells names [] → (x, NameKind.free) ∈ names ∧ a = (cells.lookup x).getD 0
  | [], x, a, h => by cases h
  | (n, k) :: r, x, a, h => by
    unfold closL at h
    split at h
    · rename_i hk
      rw [closL_append] at h
      rcases List.mem_append.mp h with h | h
      · have := closL_mem cells h; exact ⟨List.mem_cons_of_mem _ this.1, this.2⟩
      · simp at h
        obtain ⟨rfl, rfl⟩ := h
        rw [beq_iff_eq] at hk; subst hk
        exact ⟨List.mem_cons_self, rfl⟩
    · have := closL_mem cells h; exact ⟨List.mem_cons_of_mem _ this.1, this.2⟩
theorem closL_has (cells : List (Str × Addr)) : ∀ {names : List (Str × NameKind)} {x : Str}, (x, NameKind.free) ∈ names → (x, (cells.lookup x).getD 0) ∈ closL cells names []
  | (n, k) :: r, x, h => by
    unfold closL
    rcases List.mem_cons.mp h with h | h
    · cases h
      rw [if_pos (by rfl), closL_append]
      exact List.mem_append_right _ (by simp)
    · split
      · rw [closL_append]; exact List.mem_append_left _ (closL_has cells h)
      · exact closL_has cells h
theorem cellsFrom_append : ∀ (names : List (Str × NameKind)) (n : Nat) (acc : List (Str × Addr)), cellsFrom n names acc = cellsFrom n names [] ++ acc
  | [], n, acc => rfl
  | (x, k) :: r, n, acc => by
    unfold cellsFrom
    split
    · rw [cellsFrom_append r (n + 1) ((x, n) :: acc), cellsFrom_append r (n + 1) [(x, n)], List.append_assoc]; rfl
    · exact cellsFrom_append r n acc
theorem cellsFrom_mem : ∀ {names : List (Str × NameKind)} {n : Nat} {x : Str} {a : Addr}, (x, a) ∈ cellsFrom n names [] → (x, NameKind.cell) ∈ names
  | [], n, x, a, h => by cases h
  | (y, k) :: r, n, x, a, h => by
    unfold cellsFrom at h
    split at h
    · rename_i hk
      rw [cellsFrom_append] at h
      rcases List.mem_append.mp h with h | h
      · exact List.mem_cons_of_mem _ (cellsFrom_mem h)
      · simp at h
        obtain ⟨rfl, rfl⟩ := h
        rw [beq_iff_eq] at hk; subst hk
        exact List.mem_cons_self
    · exact List.mem_cons_of_mem _ (cellsFrom_mem h)
theorem cellsFrom_has : ∀ {names : List (Str × NameKind)} {n : Nat} {x : Str}, (x, NameKind.cell) ∈ names → ∃ a, (x, a) ∈ cellsFrom n names []
  | (y, k) :: r, n, x, h => by
    unfold cellsFrom
    rcases List.mem_cons.mp h with h | h
    · cases h
      rw [if_pos (by rfl), cellsFrom_append]
      exact ⟨n, List.mem_append_right _ (by simp)⟩
    · split
      · rw [cellsFrom_append]; obtain ⟨a, q⟩ := cellsFrom_has (n := n + 1) h; exact ⟨a, List.mem_append_left _ q⟩
      · exact cellsFrom_has h
/-- an association list without a name twice -/
theorem lookup_of_mem {α : Type} : ∀ {l : List (Str × α)} {x : Str} {a : α}, (l.map (·.1)).Nodup → (x, a) ∈ l → l.lookup x = some a
  | (y, b) :: r, x, a, nd, h => by
    rw [List.lookup_cons]
    rcases List.mem_cons.mp h with h' | h'
    · cases h'; simp
    · have hne : x ≠ y := fun e => (List.nodup_cons.mp nd).1 (List.mem_map.mpr ⟨(x, a), h', e⟩)
      rw [beq_eq_false_iff_ne.mpr hne]
      exact lookup_of_mem (List.nodup_cons.mp nd).2 h'
theorem lookup_append {α : Type} (x : Str) : ∀ (l r : List (Str × α)), (l ++ r).lookup x = (l.lookup x).or (r.lookup x) := fun l r => List.lookup_append
theorem lookup_none {α : Type} : ∀ {l : List (Str × α)} {x : Str}, (∀ a, (x, a) ∉ l) → l.lookup x = none
  | [], _, _ => rfl
  | (y, b) :: r, x, h => by
    rw [List.lookup_cons]
    have hne : x ≠ y := fun e => by subst e; exact h b List.mem_cons_self
    rw [beq_eq_false_iff_ne.mpr hne]
    exact lookup_none fun a q => h a (List.mem_cons_of_mem _ q)
theorem lookup_mem_some {α : Type} : ∀ {l : List (Str × α)} {x : Str} {a : α}, (x, a) ∈ l → ∃ b, l.lookup x = some b
  | (y, b) :: r, x, a, h => by
    rw [List.lookup_cons]
    by_cases q : x = y
    · subst q; simp
    · rw [beq_eq_false_iff_ne.mpr q]
      rcases List.mem_cons.mp h with h | h
      · cases h; exact absurd rfl q
      · exact lookup_mem_some h

section
variable {M : Model} {A : Around} {E : Value → Shared → Prop} {s : Shared}
theorem newEnv_comp {scope : Scope} {cl : List (Str × Addr)} {env : Env} {Q : Env → Shared → Prop}
    (h : Q (newEnv scope s.heap.objs.size env.globals (cellsFrom (s.heap.objs.size + 1) scope.names cl) env.qual none .none (some env) builtinsNs) { s with heap := pushCells (s.heap.push { cls := .type "dict", data := .dict #[] }) scope.names }) :
    wpAny M A (newFunctionEnv scope env.globals cl [] env.qual none .none (some env)) Q E s := by
  simp only [newFunctionEnv, Option.isSome_some, if_true]
  refine wpAny_bind (wpAny_alloc ?_)
  refine wpAny_bind (wpAny_layCells _ (fun name kind cells => by cases hkc : kind == NameKind.cell <;> simp [hkc]) _ _ _ _ ?_)
  rw [show ({ s with heap := s.heap.push { cls := .type "dict", data := .dict #[] } } : Shared).heap.objs.size = s.heap.objs.size + 1 from Heap.size_push ..]
  refine wpAny_bind ?_
  rw [List.forIn_nil]
  exact wpAny_pure (wpAny_pure h)
end

theorem relabel_lookup {scope sc : Scope} {x : Str} {k : NameKind} (nd : (scope.names.map (·.1)).Nodup) (h : (x, k) ∈ scope.names) :
    (relabelS scope sc).names.lookup x = some (if (k == .free && sc.kind == .function && sc.names.lookup x == some .cell) then .cell else k) := by
  have : (x, (if (k == NameKind.free && sc.kind == .function && sc.names.lookup x == some .cell) then NameKind.cell else k)) ∈ (relabelS scope sc).names := by
    unfold relabelS
    refine List.mem_map.mpr ⟨(x, k), h, ?_⟩
    dsimp only
    split <;> rfl
  refine lookup_of_mem ?_ this
  have : (relabelS scope sc).names.map (·.1) = scope.names.map (·.1) := by
    unfold relabelS
    rw [List.map_map]
    apply List.map_congr_left
    intro y _
    dsimp only [Function.comp]
    split <;> rfl
  rw [this]; exact nd
theorem relabel_mem {scope sc : Scope} {x : Str} {k : NameKind} (h : (relabelS scope sc).names.lookup x = some k) : ∃ k', (x, k') ∈ scope.names ∧ k = (if (k' == .free && sc.kind == .function && sc.names.lookup x == some .cell) then .cell else k') := by
  have := mem_of_lookup h
  unfold relabelS at this
  obtain ⟨⟨y, k'⟩, hm, e⟩ := List.mem_map.mp this
  dsimp only at e
  split at e
  · rename_i q; cases e; exact ⟨_, hm, by rw [if_pos q]⟩
  · rename_i q; cases e; exact ⟨_, hm, by rw [if_neg q]⟩

noncomputable def restr (ρ : Str → Option D) (scope : Scope) : Str → Option D := fun x => if scope.names.lookup x = some .free then ρ x else none
noncomputable def freeOK (sc : Scope) (ρ : Str → Option D) (scope : Scope) : Bool := scope.names.all fun x => x.2 != .free || ((sc.names.lookup x.1 == some .cell || sc.names.lookup x.1 == some .free) && (ρ x.1).isSome)

theorem compStart_of {c : Cx} {A : Around} {s : Shared} {R : Result → Shared → Prop} {e : Expr} {k : Nat} {it acc : Value} {env : Env} {g : Comprehension} (hg : (clausesOf e)[k]? = some g) (ha : g.is_async = 0) (hfr : (Code.compStart e k it acc env).isFrame = false)
    (h0 : codeAny (model c.prog c.w) A (.compLoop e k it acc env) R s)
    (h : wpAny (model c.prog c.w) A (pyIter it) (fun it' s' => codeAny (model c.prog c.w) A (.compLoop e k it' acc env) R s') (fun _ _ => False) s) :
    codeAny (model c.prog c.w) A (.compStart e k it acc env) R s := by
  refine codeAny_of_tree ?_
  have hA : A.under (.compStart e k it acc env) = A := Around.under_of_weight (by
    simp [Code.weight, Code.frames, hfr, Code.isCreation, Code.isGuard, Code.isCaller]) (by
    simp [Code.cUnits, Code.frames, hfr])
  rw [hA]
  have hden : (model c.prog c.w).den (.compStart e k it acc env) = (compStart e k it acc env).onRaise (fun x => do noteFrame x env; standAt theWindowsPlace) := by
    show (if (Code.compStart e k it acc env).isFrame = true then _ else _) = _
    rw [hfr]; rfl
  rw [hden]
  refine wpAny_onRaise ?_
  unfold compStart
  rw [hg]
  simp only [Option.elim, ha]
  refine wpAny_bind (wpAny_askSetting (wpAny_ite ?_))
  split
  · first
      | exact wpAny_bind (wpAny_pure (wpAny_pure (And.intro rfl h0)))
      | exact wpAny_pure (And.intro rfl h0)
  · refine wpAny_bind (wpAny_rule (wpAny_bind (wpAny_standAt (wpAny_bind (wpAny_mono h (fun it' s' h' => ?_) fun _ _ f => f.elim)))))
    exact wpAny_pure (And.intro rfl h')

section
variable {c : Cx} {n : Nat} {sc : Scope} {ρ : Str → Option D}
theorem comp_core {e : Expr} {p : Pos} {target iter : Expr} {ifs : List Expr} {g : Comprehension} {inner : Env → Value → Sem Fin → Sem Fin} {xs : List Str} {rows : List (List D)} {f : List D → List D} {scope : Scope}
    (t : Tgt target xs) (te : ∀ it acc env, compTurn e 0 it acc env = turnOf e 0 p target ifs inner it acc env) (hfr : ∀ it acc env, (Code.compLoop e 0 it acc env).isFrame = false) (hfs : ∀ it acc env, (Code.compStart e 0 it acc env).isFrame = false)
    (hg : (clausesOf e)[0]? = some g) (hga : g.is_async = 0)
    (src : ItEv c n sc ρ iter target rows) (hk : scope.kind = .function) (nd : (scope.names.map (·.1)).Nodup) (fo : freeOK sc ρ scope = true)
    (hx : ∀ x ∈ xs, (x, NameKind.local) ∈ scope.names ∨ (x, NameKind.cell) ∈ scope.names)
    (hrow : ∀ row ∈ rows, row.length = xs.length ∧ ∃ b, Ts c n (relabelS scope sc) (upds (restr ρ scope) xs row) ifs b ∧
      (b = true → Act c n (relabelS scope sc) (fun x => (x, NameKind.cell) ∈ scope.names) (upds (restr ρ scope) xs row) inner (f row)) ∧ (b = false → f row = []))
    (hlen : (rows.flatMap f).length ≤ sizeLine)
    {F : Addr → Prop} {A : Around} {s : Shared} {env : Env} (at' : At c n F A env sc ρ s.heap) {E : Value → Shared → Prop} {RR : Value → Addr → Result → Shared → Prop}
    (hRR : ∀ acc C h' tk vs m, Ext s.heap h' → s.heap.get? acc = none → s.heap.get? C = none → acc ≠ C → h'.IsList acc vs.toArray → Reps (fun a => F a ∨ a = C ∨ a = acc) h' vs (rows.flatMap f) → h'.Ns C m →
      RR (.ref acc) C (.ok .next) { s with heap := h', toks := tk }) :
    wpAny (model c.prog c.w) A (eval iter env) (fun x s₁ => wpAny (model c.prog c.w) A (pyIter x) (fun it s₂ => wpAny (model c.prog c.w) A (newList []) (fun acc s₃ =>
      wpAny (model c.prog c.w) A (newFunctionEnv scope env.globals (closL env.cells scope.names []) [] env.qual none .none (some env)) (fun cenv s₄ =>
        codeAny (model c.prog c.w) A (.compStart e 0 it acc { cenv with scope := relabel scope env }) (RR acc cenv.locals) s₄) E s₃) E s₂) E s₁) E s := by
  refine (src F A s env at').use fun x h₁ t₁ x₁ q₁ => (q₁ t₁).use fun it h₂ t₂ x₂ q₂ => ?_
  obtain ⟨h₀, x0, x02, I, fp, wr, Pk, Md, St, rfl, K, hst, hfp, hwn, hlv, hself, hrows⟩ := q₂
  refine wpAny_newObj_type (newEnv_comp ?_)
  dsimp only
  generalize hH3 : h₂.push { cls := .type "list", dict := none, data := .seq ([] : List Value).toArray } = H3
  have z3 : H3.objs.size = h₂.objs.size + 1 := by rw [← hH3, Heap.size_push]
  have e3 : Ext h₂ H3 := by rw [← hH3]; exact Ext.push _ _
  have acc3 : H3.get? h₂.objs.size = some { cls := .type "list", dict := none, data := .seq ([] : List Value).toArray } := by rw [← hH3]; exact Heap.get?_push_size _ rfl
  generalize hH4 : pushCells (H3.push { cls := .type "dict", data := .dict #[] }) scope.names = H4
  have e34 : Ext H3 H4 := fun b o e => by rw [← hH4]; exact pushCells_keeps _ _ b o (Heap.get?_push_of_some _ e)
  have okc := cellsFrom_ok scope.names (H3.push { cls := .type "dict", data := .dict #[] }) (H3.objs.size + 1) [] ⟨fun _ _ hm => (nomatch hm), List.Pairwise.nil⟩ (by rw [Heap.size_push]; exact Nat.le_refl _)
  rw [Heap.size_push, hH4] at okc
  have nsC : H4.Ns H3.objs.size (fun _ => none) := by rw [← hH4]; exact (Heap.Ns.new H3 (.type "dict")).keeps (pushCells_keeps _ _)
  have hcl : ∀ {x a}, (x, a) ∈ closL env.cells scope.names [] → env.cells.lookup x = some a ∧ ∃ o v, s.heap.get? a = some o ∧ o.data = .cell (some v) ∧ ∃ d, ρ x = some d ∧ Rep F s.heap v d := fun {x a} hm => by
    obtain ⟨hf, ha⟩ := closL_mem env.cells hm
    have := List.all_eq_true.mp fo (x, .free) hf
    simp only [bne_self_eq_false, Bool.false_or, Bool.and_eq_true, Bool.or_eq_true, beq_iff_eq] at this
    obtain ⟨hk', hs⟩ := this
    obtain ⟨d, hd⟩ := Option.isSome_iff_exists.mp hs
    obtain ⟨a', o, v, l, g', hd', r⟩ := at'.fr.cl x d (by unfold Env.kindOf; rw [at'.scope]; exact hk') hd
    rw [l] at ha
    exact ⟨by rw [l, ha]; rfl, o, v, by rw [ha]; exact g', hd', d, hd, r⟩
  -- the frame of the comprehension
  let C := H3.objs.size
  let accA := h₂.objs.size
  let ownC := cellsFrom (H3.objs.size + 1) scope.names []
  let P : Addr → Prop := fun a => a = C ∨ a = accA ∨ ∃ x, (x, a) ∈ ownC
  let F' : Addr → Prop := fun a => F a ∨ a ∈ wr ∨ P a
  have new2 : ∀ a, h₂.objs.size ≤ a → h₂.get? a = none := fun a => fresh_ge
  have pge : ∀ a, P a → h₂.objs.size ≤ a := fun a q => by
    rcases q with rfl | rfl | ⟨x, q⟩
    · show h₂.objs.size ≤ H3.objs.size; omega
    · exact Nat.le_refl _
    · have := (okc.empty x a q).2; omega
  have eH : Ext s.heap H4 := (x0.trans x02).trans (e3.trans e34)
  have plive : ∀ a, P a → ∃ o, H4.get? a = some o := fun a q => by
    rcases q with rfl | rfl | ⟨x, q⟩
    · obtain ⟨o, _, _, e, _⟩ := nsC; exact ⟨o, e⟩
    · exact ⟨_, e34 _ _ acc3⟩
    · obtain ⟨o, e, _⟩ := (okc.empty x a q).1; exact ⟨o, e⟩
  have hst4 : St 0 H4 := K.frame _ _ _ hst fun b _ o e => e34 _ _ (e3 _ _ e)
  have fpl : ∀ b ∈ fp, ¬ P b := fun b hb q => by
    obtain ⟨o, e⟩ := (hfp b hb).2
    rw [new2 b (pge b q)] at e; cases e
  have hTs : ∀ b, s.heap.get? b = none → c.hT.get? b = none := fun b e => by
    cases q : c.hT.get? b with
    | none => rfl
    | some o => rw [at'.ok.keep b o q] at e; cases e
  have wrn : ∀ b ∈ wr, s.heap.get? b = none := fun b hb => x0.none (hwn b hb)
  have pn : ∀ b, P b → s.heap.get? b = none := fun b q => (x0.trans x02).none (new2 b (pge b q))
  have ok4 : Ok c n F' A H4 := ⟨at'.ok.room, fun b o e => eH b o (at'.ok.keep b o e), fun a q => by
      rcases q with q | q | q
      · exact at'.ok.lo a q
      · exact hTs a (wrn a q)
      · exact hTs a (pn a q), fun a q => by
      rcases q with q | q | q
      · obtain ⟨o, e⟩ := at'.ok.hi a q; exact ⟨o, eH _ _ e⟩
      · exact hlv 0 H4 hst4 a q
      · exact plive a q⟩
  have F'new : ∀ a, F' a → F a ∨ s.heap.get? a = none := fun a q => q.imp id fun q => q.elim (fun z => wrn a z) (pn a)
  have F'new0 : ∀ a, F' a → F a ∨ h₀.get? a = none := fun a q => q.imp id fun q => q.elim (fun z => hwn a z) fun z => x02.none (new2 a (pge a z))
  have hcells : cellsFrom (H3.objs.size + 1) scope.names (closL env.cells scope.names []) = ownC ++ closL env.cells scope.names [] := cellsFrom_append _ _ _
  let cenv : Env := { newEnv scope H3.objs.size env.globals (cellsFrom (H3.objs.size + 1) scope.names (closL env.cells scope.names [])) env.qual none .none (some env) builtinsNs with scope := relabel scope env }
  have cscope : cenv.scope = relabelS scope sc := relabel_eq at'.scope
  have clook : ∀ {x}, (x, NameKind.free) ∈ scope.names → ∃ a, env.cells.lookup x = some a ∧ cenv.cells.lookup x = some a := fun {x} hm => by
    have hh := closL_has env.cells hm
    obtain ⟨l, _⟩ := hcl hh
    refine ⟨_, l, ?_⟩
    show (cellsFrom (H3.objs.size + 1) scope.names (closL env.cells scope.names [])).lookup x = _
    rw [hcells, lookup_append, lookup_none (fun a q => ?_), Option.none_or]
    · obtain ⟨b, hb⟩ := lookup_mem_some hh
      rw [hb]
      exact congrArg some (closL_mem env.cells (mem_of_lookup hb)).2
    · have h1 := lookup_of_mem nd (cellsFrom_mem q)
      rw [lookup_of_mem nd hm] at h1; cases h1
  have olook : ∀ {x}, (x, NameKind.cell) ∈ scope.names → ∃ a, cenv.cells.lookup x = some a ∧ (x, a) ∈ ownC := fun {x} hm => by
    obtain ⟨a, ha⟩ := cellsFrom_has (n := H3.objs.size + 1) hm
    obtain ⟨b, hb⟩ := lookup_mem_some ha
    refine ⟨b, ?_, mem_of_lookup hb⟩
    show (cellsFrom (H3.objs.size + 1) scope.names (closL env.cells scope.names [])).lookup x = _
    rw [hcells, lookup_append, hb]; rfl
  have fm : Fm F' P cenv (fun x => (x, NameKind.cell) ∈ scope.names) (restr ρ scope) H4 := by
    refine ⟨⟨⟨_, nsC, fun x d hl hr => ?_⟩, fun x d hl hr => ?_, fun x a l => ?_⟩, fun a q => .inr (.inr q), .inl rfl, ?_, fun x ho => ?_⟩
    · unfold restr at hr
      split at hr
      · rename_i hf
        exfalso
        have hl' : (relabelS scope sc).names.lookup x = some .local := by rw [← cscope]; exact hl
        rw [relabel_lookup nd (mem_of_lookup hf)] at hl'
        simp only [Option.some.injEq] at hl'
        split at hl' <;> cases hl'
      · cases hr
    · unfold restr at hr
      split at hr
      · rename_i hf
        have hm := mem_of_lookup hf
        obtain ⟨a, l, l'⟩ := clook hm
        have hh := closL_has env.cells hm
        rw [l, Option.getD_some] at hh
        obtain ⟨_, o, v, g', hd, d', hd', r⟩ := hcl hh
        rw [hr] at hd'; cases hd'
        exact ⟨a, o, v, l', eH _ _ g', hd, (Rep.sub F'new _ r).ext eH⟩
      · cases hr
    · have hm' : (x, a) ∈ ownC ++ closL env.cells scope.names [] := by rw [← hcells]; exact mem_of_lookup l
      rcases List.mem_append.mp hm' with q | q
      · obtain ⟨o, e, _⟩ := (okc.empty x a q).1; exact ⟨o, e⟩
      · obtain ⟨_, o, v, g', _⟩ := hcl q
        exact ⟨o, eH _ _ g'⟩
    · show (cellsFrom (H3.objs.size + 1) scope.names (closL env.cells scope.names [])).Pairwise _
      rw [hcells]
      refine List.pairwise_append.mpr ⟨okc.apart, ?_, fun x hx' y hy => ?_⟩
      · -- the captured ones
        have key : ∀ (names : List (Str × NameKind)), (names.map (·.1)).Nodup → (∀ x ∈ names, x.2 = .free → ∃ a, env.cells.lookup x.1 = some a) → (closL env.cells names []).Pairwise fun x y => x.2 ≠ y.2 := by
          intro names
          induction names with
          | nil => intro _ _; exact List.Pairwise.nil
          | cons y r ih =>
            intro nd' hs'
            obtain ⟨nm, kk⟩ := y
            have ih' := ih (List.nodup_cons.mp nd').2 fun x hx => hs' x (List.mem_cons_of_mem _ hx)
            unfold closL
            split
            · rename_i hkk
              rw [closL_append]
              refine List.pairwise_append.mpr ⟨ih', List.pairwise_singleton _ _, fun x hx y hy => ?_⟩
              simp at hy
              subst hy
              obtain ⟨hxf, hxa⟩ := closL_mem env.cells (show (x.1, x.2) ∈ closL env.cells r [] from hx)
              obtain ⟨a, la⟩ := hs' (x.1, .free) (List.mem_cons_of_mem _ hxf) rfl
              obtain ⟨b, lb⟩ := hs' (nm, kk) List.mem_cons_self (beq_iff_eq.mp hkk)
              have la' : env.cells.lookup x.1 = some a := la
              have lb' : env.cells.lookup nm = some b := lb
              rw [hxa, la', lb']
              show a ≠ b
              intro q
              have := name_of_addr at'.eok.apart (mem_of_lookup la') (q ▸ mem_of_lookup lb')
              exact (List.nodup_cons.mp nd').1 (List.mem_map.mpr ⟨(x.1, .free), hxf, this⟩)
            · exact ih'
        exact key scope.names nd fun x hx hf => by
          obtain ⟨y, k'⟩ := x
          have hf' : k' = .free := hf
          subst hf'
          obtain ⟨a, l, _⟩ := clook hx
          exact ⟨a, l⟩
      · obtain ⟨_, o, v, g', _⟩ := hcl (show (y.1, y.2) ∈ _ from hy)
        have h1 : H3.objs.size + 1 ≤ x.2 := (okc.empty x.1 x.2 hx').2
        have h2 : y.2 < h₂.objs.size := Heap.lt_size ((x0.trans x02) _ _ g')
        have h3 : h₂.objs.size ≤ x.2 := Nat.le_trans (by omega) h1
        intro q
        have q' : x.2 = y.2 := q
        rw [q'] at h3
        exact absurd h2 (Nat.not_lt.mpr h3)
    · obtain ⟨a, l, hm⟩ := olook ho
      refine ⟨?_, a, none, l, (okc.empty x a hm).1, .inr (.inr ⟨x, hm⟩)⟩
      show (relabel scope env).names.lookup x = _
      rw [relabel_eq at'.scope, relabel_lookup nd ho]; rfl
  have hwc : ∀ x a, cenv.cells.lookup x = some a → a ∉ wr := fun x a l hw => by
    have hm := mem_of_lookup l
    have hm' : (x, a) ∈ ownC ++ closL env.cells scope.names [] := by rw [← hcells]; exact hm
    rcases List.mem_append.mp hm' with q | q
    · exact fpl a (K.sub a hw) (.inr (.inr ⟨x, q⟩))
    · obtain ⟨_, o, v, g', _⟩ := hcl q
      rw [wrn a hw] at g'; cases g'
  have eo : EnvOK cenv := ⟨by rw [cscope]; exact hk, at'.eok.globals, at'.eok.builtins, fm.apart⟩
  have hxs : ∀ x ∈ xs, (relabelS scope sc).names.lookup x = some .local ∨ (x, NameKind.cell) ∈ scope.names := fun x q => (hx x q).imp (fun z => by rw [relabel_lookup nd z]; rfl) id
  have hr0 : ∀ x ∈ xs, restr ρ scope x = none := fun x q => by
    unfold restr
    rw [if_neg]
    rcases hx x q with z | z <;> (rw [lookup_of_mem nd z]; decide)
  have hrw4 : ∀ i v h' row, (∀ b o, ¬ F' b → H4.get? b = some o → h'.get? b = some o) → Pk i v h' → rows[i]? = some row → RowAt F' h' v target row := fun i v h' row kk hP hr =>
    hrows F' i v h' row F'new0 (fun b o nf e => kk b o nf ((x02.trans (e3.trans e34)) _ _ e)) hP hr
  have cs4 : CompSt F' P cenv (fun x => (x, NameKind.cell) ∈ scope.names) (restr ρ scope) accA [] H4 := ⟨fm, .inr (.inl rfl), [], ⟨_, e34 _ _ acc3, rfl, _, rfl⟩, Reps.nil⟩
  have loop : ∀ tk, codeAny (model c.prog c.w) A (.compLoop e 0 (.ref I) (.ref accA) cenv) (RR (.ref accA) C) { s with heap := H4, toks := tk } := fun tk =>
    comp_loop (s := { s with heap := H4, toks := tk }) t te hfr hxs hr0 hrow K hst4 ok4 cscope eo fpl (fun b hb => .inr (.inl hb)) hwc hlv hrw4 cs4 (by simpa using hlen) fun h' tk' le cs' => by
      obtain ⟨vs, il, rs⟩ := cs'.acc
      obtain ⟨m, hn, _⟩ := cs'.fm.fr.ns
      refine hRR accA C h' tk' vs m (fun b o e => le.1 b o (fun q => by rw [pn b q] at e; cases e) (fun q => by rw [wrn b q] at e; cases e) (eH b o e)) (pn _ (.inr (.inl rfl))) (pn _ (.inl rfl)) ?_ il (Reps.sub (fun a q => .inl ?_) _ (by simpa using rs)) hn
      · show h₂.objs.size ≠ H3.objs.size; omega
      · rcases q with q | q | q
        · exact .inl q
        · exact .inr (.inr (.inl q))
        · exact .inr (.inr (.inr (.inl q)))
  exact compStart_of hg hga (hfs _ _ _) (loop t₂) (hself 0 { s with heap := H4, toks := t₂ } _ _ hst4 (loop t₂))
end
end Qp
namespace Qp
open PySem PySem.Calls PyProof.Rows PySem.W

section
variable {c : Cx} {n : Nat} {sc : Scope} {ρ : Str → Option D}

/-- what a comprehension must keep: its own rules -/
structure CompOK (sc : Scope) (ρ : Str → Option D) (scope : Scope) (xs : List Str) : Prop where
  kind : scope.kind = .function
  nd : (scope.names.map (·.1)).Nodup
  fo : freeOK sc ρ scope = true
  hx : (xs.all fun x => scope.names.contains (x, NameKind.local) || scope.names.contains (x, NameKind.cell)) = true
theorem CompOK.mem {scope : Scope} {xs : List Str} (k : CompOK sc ρ scope xs) : ∀ x ∈ xs, (x, NameKind.local) ∈ scope.names ∨ (x, NameKind.cell) ∈ scope.names := fun x q => by
  have := List.all_eq_true.mp k.hx x q
  rcases Bool.or_eq_true_iff.mp this with z | z
  · exact .inl (List.contains_iff_mem.mp z)
  · exact .inr (List.contains_iff_mem.mp z)

theorem freeCells {F : Addr → Prop} {A : Around} {s : Shared} {env : Env} {scope : Scope} (at' : At c n F A env sc ρ s.heap) (fo : freeOK sc ρ scope = true) : ∀ x ∈ scope.names, x.2 = .free → (env.cells.lookup x.1).isSome = true := fun x hx hf => by
  have := List.all_eq_true.mp fo x hx
  rw [hf] at this
  simp only [bne_self_eq_false, Bool.false_or, Bool.and_eq_true, Bool.or_eq_true, beq_iff_eq] at this
  obtain ⟨hk', hs⟩ := this
  obtain ⟨d, hd⟩ := Option.isSome_iff_exists.mp hs
  obtain ⟨a', o, v, l, _⟩ := at'.fr.cl x.1 d (by unfold Env.kindOf; rw [at'.scope]; exact hk') hd
  rw [l]; rfl

theorem loc_lookup {scope : Scope} (nd : (scope.names.map (·.1)).Nodup) : ∀ x ∈ scope.names, x.2 = .local → scope.names.lookup x.1 = some .local := fun x hx hl => by
  obtain ⟨y, k⟩ := x
  have hl' : k = .local := hl
  subst hl'
  exact lookup_of_mem nd hx

/-- a comprehension as a value, whatever its inner loops -/
theorem Ev.compAny {elt target iter : Expr} {ifs : List Expr} {rest : List Comprehension} {pos : Pos} {p : Pos} {inner : Env → Value → Sem Fin → Sem Fin} {xs : List Str} {rows : List (List D)} {f : List D → List D} {scope : Scope}
    (t : Tgt target xs) (te : ∀ it acc env, compTurn (.ListComp elt (⟨target, iter, ifs, 0⟩ :: rest) scope pos) 0 it acc env = turnOf (.ListComp elt (⟨target, iter, ifs, 0⟩ :: rest) scope pos) 0 p target ifs inner it acc env)
    (src : ItEv c n sc ρ iter target rows) (k : CompOK sc ρ scope xs)
    (hrow : ∀ row ∈ rows, row.length = xs.length ∧ ∃ b, Ts c n (relabelS scope sc) (upds (restr ρ scope) xs row) ifs b ∧
      (b = true → Act c n (relabelS scope sc) (fun x => (x, NameKind.cell) ∈ scope.names) (upds (restr ρ scope) xs row) inner (f row)) ∧ (b = false → f row = []))
    (hlen : (rows.flatMap f).length ≤ sizeLine) (hs : ∀ env x, foldedSetIterable iter env x = pure x) :
    Ev c n sc ρ (.ListComp elt (⟨target, iter, ifs, 0⟩ :: rest) scope pos) (.list (rows.flatMap f)) := fun F A s env at' => by
  show wpAny _ A (eval _ env) _ _ s
  rw [eval_ListComp]
  refine wpAny_comprehension_free (use := none) rfl (hs env) (closure_eq (freeCells at' k.fo)) k.kind (loc_lookup k.nd) (comp_core t te (fun _ _ _ => rfl) (fun _ _ _ => rfl) rfl rfl src k.kind k.nd k.fo k.mem hrow hlen at' ?_)
  intro acc C h' tk vs m ex an cn ne il rs hn
  refine ⟨m, hn, fun h'' hs'' => ⟨h'', tk, rfl, fun b o e => hs''.extBut b o (fun q => by rw [q, cn] at e; cases e) (ex b o e), ?_⟩⟩
  have il' : h''.IsList acc vs.toArray := il.at fun o e => hs''.extBut _ o ne e
  have rs' : Reps (fun a => F a ∨ a = C ∨ a = acc) h'' vs (rows.flatMap f) := Reps.keep (fun b o nf e => hs''.extBut b o (fun q => nf (.inr (.inl q))) e) _ rs
  simp only [Rep]
  exact ⟨acc, vs, rfl, at'.ok.new an, il', Reps.sub (fun a q => .inl (.inl q)) _ rs'⟩

/-- one clause -/
theorem Ev.comp1 {elt target iter : Expr} {ifs : List Expr} {pos : Pos} {xs : List Str} {rows : List (List D)} {f : List D → List D} {scope : Scope}
    (t : Tgt target xs) (src : ItEv c n sc ρ iter target rows) (k : CompOK sc ρ scope xs)
    (hrow : ∀ row ∈ rows, row.length = xs.length ∧ ∃ b, Ts c n (relabelS scope sc) (upds (restr ρ scope) xs row) ifs b ∧
      (b = true → ∃ d, f row = [d] ∧ Ev c n (relabelS scope sc) (upds (restr ρ scope) xs row) elt d) ∧ (b = false → f row = []))
    (hlen : (rows.flatMap f).length ≤ sizeLine) (hs : ∀ env x, foldedSetIterable iter env x = pure x := by intro _ _; rfl) :
    Ev c n sc ρ (.ListComp elt [⟨target, iter, ifs, 0⟩] scope pos) (.list (rows.flatMap f)) :=
  Ev.compAny t (turn_one elt target iter ifs scope pos) src k (fun row hr => by
    obtain ⟨hl, b, ht, h1, h0⟩ := hrow row hr
    exact ⟨hl, b, ht, fun q => by obtain ⟨d, e, x⟩ := h1 q; rw [e]; exact Act.emit x, h0⟩) hlen hs

/-- an inner clause run for one row of the outer one -/
theorem Act.deeper {own : Str → Prop} {elt target iter target' iter' : Expr} {ifs ifs' : List Expr} {scope : Scope} {pos : Pos} {ys : List Str} {rows : List (List D)} {f : List D → List D}
    (t : Tgt target' ys) (src : ItEv c n sc ρ iter' target' rows) (hx : ∀ x ∈ ys, sc.names.lookup x = some .local ∨ own x) (hr0 : ∀ x ∈ ys, ρ x = none)
    (hrow : ∀ row ∈ rows, row.length = ys.length ∧ ∃ b, Ts c n sc (upds ρ ys row) ifs' b ∧ (b = true → ∃ d, f row = [d] ∧ Ev c n sc (upds ρ ys row) elt d) ∧ (b = false → f row = []))
    (hs : ∀ env x, foldedSetIterable iter' env x = pure x := by intro _ _; rfl) :
    Act c n sc own ρ (deeper (.ListComp elt [⟨target, iter, ifs, 0⟩, ⟨target', iter', ifs', 0⟩] scope pos) 1 iter') (rows.flatMap f) := fun F P A s env acc ds k Q E ok hsc eo st hl hk => by
  unfold Qp.deeper
  refine wpAny_bind ((src F A s env ⟨ok, hsc, eo, st.fm.fr⟩).use fun x h₁ t₁ x₁ q₁ => ?_)
  refine wpAny_bind (wpAny_standAt (wpAny_bind (wpAny_of_eq (hs env x) (wpAny_bind (wpAny_holding ((q₁ t₁).use fun it h₂ t₂ x₂ q₂ => ?_))))))
  obtain ⟨h₀, x0, x02, I, fp, wr, Pk, Md, St, rfl, K, hst, hfp, hwn, hlv, hself, hrows⟩ := q₂
  have x12 : Ext s.heap h₂ := x0.trans x02
  let F' : Addr → Prop := fun a => F a ∨ a ∈ wr
  have wrn : ∀ b ∈ wr, s.heap.get? b = none := fun b hb => x0.none (hwn b hb)
  have F'new : ∀ a, F' a → F a ∨ s.heap.get? a = none := fun a q => q.imp id fun z => wrn a z
  have F'new0 : ∀ a, F' a → F a ∨ h₀.get? a = none := fun a q => q.imp id fun z => hwn a z
  have hTs : ∀ b, s.heap.get? b = none → c.hT.get? b = none := fun b e => by
    cases q : c.hT.get? b with
    | none => rfl
    | some o => rw [ok.keep b o q] at e; cases e
  have ok2 : Ok c n F' A h₂ := ⟨ok.room, fun b o e => x12 b o (ok.keep b o e), fun a q => q.elim (ok.lo a) fun z => hTs a (wrn a z), fun a q => by
    rcases q with q | q
    · obtain ⟨o, e⟩ := ok.hi a q; exact ⟨o, x12 _ _ e⟩
    · exact hlv 0 _ hst a q⟩
  have fm2 : Fm F' P env own ρ h₂ := by
    have f := st.fm
    refine ⟨⟨?_, fun y d e r => ?_, fun y a l => let ⟨o, e⟩ := f.fr.lv y a l; ⟨o, x12 _ _ e⟩⟩, fun a q => .inl (f.sub a q), f.loc, f.apart, fun y o => ?_⟩
    · obtain ⟨m, hn, q⟩ := f.fr.ns
      exact ⟨m, hn.keeps x12, fun y d e r => let ⟨v, e', z⟩ := q y d e r; ⟨v, e', (Rep.sub F'new _ z).ext x12⟩⟩
    · obtain ⟨a, o, v, l, g, hd, z⟩ := f.fr.cl y d e r
      exact ⟨a, o, v, l, x12 _ _ g, hd, (Rep.sub F'new _ z).ext x12⟩
    · obtain ⟨kk, a, v, l, ic, p⟩ := f.cell y o
      exact ⟨kk, a, v, l, ic.keeps x12, p⟩
  have cs2 : CompSt F' P env own ρ acc ds h₂ := ⟨fm2, st.pacc, let ⟨vs, il, rs⟩ := st.acc; ⟨vs, il.at fun o e => x12 _ o e, (Reps.sub F'new _ rs).ext x12⟩⟩
  have fpl : ∀ b ∈ fp, ¬ P b := fun b hb q => (hfp b hb).1 (st.fm.sub b q)
  have hwc : ∀ x a, env.cells.lookup x = some a → a ∉ wr := fun x a l hw => by
    obtain ⟨o, e⟩ := st.fm.fr.lv x a l
    rw [wrn a hw] at e; cases e
  have hrw2 : ∀ i v h' row, (∀ b o, ¬ F' b → h₂.get? b = some o → h'.get? b = some o) → Pk i v h' → rows[i]? = some row → RowAt F' h' v target' row := fun i v h' row kk hP hr =>
    hrows F' i v h' row F'new0 (fun b o nf e => kk b o nf (x02 _ _ e)) hP hr
  have fin : ∀ h' tk, LoopExt P wr h₂ h' → CompSt F' P env own ρ acc (ds ++ rows.flatMap f) h' → wpAny (model c.prog c.w) A k Q E { s with heap := h', toks := tk } := fun h' tk le cs' =>
    hk h' tk ⟨fun b o nb e => le.1 b o nb (fun q => by rw [wrn b q] at e; cases e) (x12 _ _ e), fun b o e => le.2 b o (fun q => by rw [wrn b q] at e; cases e) (x12 _ _ e)⟩
      ⟨⟨⟨let ⟨m, hn, q⟩ := cs'.fm.fr.ns; ⟨m, hn, fun y d e r => let ⟨v, e', z⟩ := q y d e r; ⟨v, e', Rep.sub (fun a q => .inl (.inl q)) _ z⟩⟩,
        fun y d e r => let ⟨a, o, v, l, g, hd, z⟩ := cs'.fm.fr.cl y d e r; ⟨a, o, v, l, g, hd, Rep.sub (fun a q => .inl (.inl q)) _ z⟩, cs'.fm.fr.lv⟩, st.fm.sub, cs'.fm.loc, cs'.fm.apart, cs'.fm.cell⟩, cs'.pacc,
        let ⟨vs, il, rs⟩ := cs'.acc; ⟨vs, il, Reps.sub (fun a q => .inl (.inl q)) _ rs⟩⟩
  have loop : codeAny (model c.prog c.w) A (.compLoop (.ListComp elt [⟨target, iter, ifs, 0⟩, ⟨target', iter', ifs', 0⟩] scope pos) 1 (.ref I) (.ref acc) env)
      (fun r s' => match r with | .ok f => wpAny (model c.prog c.w) A k Q E s' | .error e => cameBackBy (model c.prog c.w) A env E e s') { s with heap := h₂, toks := t₂ } :=
    comp_loop (s := { s with heap := h₂, toks := t₂ }) t (turn_inner elt target iter target' iter' ifs ifs' scope pos) (fun _ _ _ => rfl) hx hr0 (fun row hr => by
      obtain ⟨hl, b, ht, h1, h0⟩ := hrow row hr
      exact ⟨hl, b, ht, fun q => by obtain ⟨d, e, x⟩ := h1 q; rw [e]; exact Act.emit x, h0⟩) K hst ok2 hsc eo fpl (fun b hb => .inr hb) hwc hlv hrw2 cs2 hl fin
  refine wpAny_bind (wpAny_runOwn (compStart_of (g := ⟨target', iter', ifs', 0⟩) rfl rfl rfl loop (hself 0 { s with heap := h₂, toks := t₂ } _ _ hst loop)))
end
end Qp
namespace Qp
open PySem PySem.Calls PyProof.Rows PySem.W

/-- a value that may be called plainly -/
noncomputable def Plain (c : Cx) : Value → Prop
  | .builtin _ => True
  | .type _ => True
  | .ref a => ∃ o fd, c.hT.get? a = some o ∧ o.data = .func fd
  | _ => False
theorem keeper_of {c : Cx} {f : Value} (p : Plain c f) {h : Heap} (k : ∀ b o, c.hT.get? b = some o → h.get? b = some o) :
    ∃ k, (k = Keeper.frame ∨ k = Keeper.machine ∨ k = Keeper.boundFrame) ∧ Looks (model c.prog c.w) h (keeperOf f) k := by
  cases f with
  | builtin id => exact ⟨.machine, .inr (.inl rfl), Looks.of_pure rfl⟩
  | type T => exact ⟨.machine, .inr (.inl rfl), Looks.of_pure rfl⟩
  | ref a =>
    obtain ⟨o, fd, e, hd⟩ := p
    refine ⟨.frame, .inl rfl, fun A Q E s k' q => ?_⟩
    unfold keeperOf
    refine wpAny_bind (wpAny_load (k' _ _ (k _ _ e)) ?_)
    rw [hd]
    exact wpAny_pure q
  | _ => exact p.elim

section
variable {c : Cx} {n : Nat} {sc : Scope} {ρ : Str → Option D}
theorem Ev.call {x : Str} {p pos : Pos} {e : Expr} {es : List Expr} {f : Value} {ds : List D} {d : D} (hf : Ev c n sc ρ (.Name x p) (.val f)) (pl : Plain c f) (ha : Evs c n sc ρ (e :: es) ds) (fn : Fn c n f ds d)
    (he : ∀ env, starEach (e :: es) env = (false, eval e env) :: starEach es env := by intro _; rfl) (hp : ∀ env, (backTo pos (starEach es env)).any (·.1) = false := by intro _; rfl) :
    Ev c n sc ρ (.Call (.Name x p) (e :: es) [] pos) d := fun F A s env k => by
  show wpAny _ A (do callWith pos (← eval (.Name x p) env) [] (backTo pos (starEach (e :: es) env)) (backToKw pos (keywordEach [] env))) _ _ s
  refine wpAny_bind ((hf F A s env k).use fun v h₁ t₁ e₁ q => ?_)
  have q' : v = f := q
  subst q'
  rw [show backToKw pos (keywordEach [] env) = [] from rfl]
  have h2 := ha F A { s with heap := h₁, toks := t₁ } env pos (k.ext e₁)
  rw [he] at h2 ⊢
  refine callWith_of (P := fun h => ∀ b o, c.hT.get? b = some o → h.get? b = some o) (by show ((false || (backTo pos (starEach es env)).any (·.1)) || false) = false; rw [hp]; rfl) (fun h hh => keeper_of pl hh) (evalArgs_plain (h2.use fun vs h₂ t₂ e₂ rs => ⟨((k.ext e₁).ext e₂).ok.keep, ?_⟩))
  exact (fn F A { s with heap := h₂, toks := t₂ } vs (((k.ext e₁).ext e₂).ok) rs).use fun v h₃ t₃ e₃ r => ⟨h₃, t₃, rfl, (e₁.trans e₂).trans e₃, r⟩

theorem Reps.oneInv {F : Addr → Prop} {h : Heap} {vs : List Value} {d : D} (r : Reps F h vs [d]) : ∃ v, vs = [v] ∧ Rep F h v d := by
  simp only [Reps] at r; obtain ⟨v, _, rfl, q, rfl⟩ := r; exact ⟨v, rfl, q⟩
theorem Reps.twoInv {F : Addr → Prop} {h : Heap} {vs : List Value} {d d' : D} (r : Reps F h vs [d, d']) : ∃ v v', vs = [v, v'] ∧ Rep F h v d ∧ Rep F h v' d' := by
  simp only [Reps] at r; obtain ⟨v, _, rfl, q, v', _, rfl, q', rfl⟩ := r; exact ⟨v, v', rfl, q, q'⟩
theorem Reps.threeInv {F : Addr → Prop} {h : Heap} {vs : List Value} {d d' d'' : D} (r : Reps F h vs [d, d', d'']) : ∃ v v' v'', vs = [v, v', v''] ∧ Rep F h v d ∧ Rep F h v' d' ∧ Rep F h v'' d'' := by
  simp only [Reps] at r; obtain ⟨v, _, rfl, q, v', _, rfl, q', v'', _, rfl, q'', rfl⟩ := r; exact ⟨v, v', v'', rfl, q, q', q''⟩
theorem Rep.listInv {F : Addr → Prop} {h : Heap} {v : Value} {l : List D} (r : Rep F h v (.list l)) : ∃ a vs, v = .ref a ∧ ¬ F a ∧ h.IsList a vs.toArray ∧ Reps F h vs l := by simpa only [Rep] using r
theorem Rep.tupInv {F : Addr → Prop} {h : Heap} {v : Value} {l : List D} (r : Rep F h v (.tup l)) : ∃ a vs, v = .ref a ∧ ¬ F a ∧ h.IsTuple a vs.toArray ∧ Reps F h vs l := by simpa only [Rep] using r

/-! sources -/
theorem map_row {ds : List D} {i : Nat} {row : List D} (h : (ds.map fun d => [d])[i]? = some row) : ∃ d, ds[i]? = some d ∧ row = [d] := by
  rw [List.getElem?_map] at h
  obtain ⟨d, hd, rfl⟩ := Option.map_eq_some_iff.mp h
  exact ⟨d, hd, rfl⟩

theorem Src.ofWalks {A : Around} {F : Addr → Prop} {x : Str} {px : Pos} {h₀ h : Heap} {I : Addr} {fp wr : List Addr} {m : Nat} {P : Nat → Value → Prop} {St : Nat → Heap → Prop} {rows : List (List D)}
    (W : Walks c.prog c.w A I fp wr m P St) (hn : m = rows.length) (hst : St 0 h) (hfp : ∀ b ∈ fp, ¬ F b ∧ ∃ o, h.get? b = some o) (hwn : ∀ b ∈ wr, h₀.get? b = none) (hlv : ∀ i h, St i h → ∀ b ∈ wr, ∃ o, h.get? b = some o)
    (hrows : ∀ (F' : Addr → Prop) i v h' row, (∀ a, F' a → F a ∨ h₀.get? a = none) → (∀ b o, ¬ F' b → h₀.get? b = some o → h'.get? b = some o) → P i v → rows[i]? = some row → ∃ d, row = [d] ∧ Rep F' h' v d) :
    Src c A F (.Name x px) h₀ h (.ref I) rows := by
  subst hn
  exact ⟨I, fp, wr, _, _, St, rfl, KTurns.ofWalks W fun i v s Q E _ q => wpAny_pure q, hst, hfp, hwn, hlv, fun i s Q E st q => W.self i s Q E st q, hrows⟩

theorem ItEv.list {iter : Expr} {x : Str} {px : Pos} {ds : List D} (h : Ev c n sc ρ iter (.list ds)) : ItEv c n sc ρ iter (.Name x px) (ds.map fun d => [d]) := fun F A s env k =>
  (h F A s env k).mono fun v h₁ e₁ r tk => by
    obtain ⟨a, vs, rfl, nf, il, rs⟩ := r.listInv
    have hh := k.ok.room.handled
    have hlt : a < h₁.objs.size := by obtain ⟨o, e, _⟩ := il; exact Heap.lt_size e
    have hnI : ¬ F h₁.objs.size := (k.ok.ext e₁).new (fresh_at _)
    refine wpAny_pyIter_list (s := { s with heap := h₁, toks := tk }) il ⟨_, tk, rfl, Ext.push _ _, h₁, e₁, Ext.push _ _, Src.ofWalks (Walks.list hh h₁.objs.size a (Nat.ne_of_lt hlt) vs.toArray) ?_ ⟨⟨_, Heap.get?_push_size _ rfl, rfl, rfl⟩, il.push _⟩ ?_ ?_ ?_ ?_⟩
    · rw [List.length_map, List.size_toArray, rs.length]
    · intro b hb
      rcases List.mem_cons.mp hb with rfl | hb
      · exact ⟨hnI, _, Heap.get?_push_size _ rfl⟩
      · rw [List.mem_singleton.mp hb]
        obtain ⟨o, e, _⟩ := il
        exact ⟨nf, o, Heap.get?_push_of_some _ e⟩
    · intro b hb; rw [List.mem_singleton.mp hb]; exact fresh_at _
    · intro i h st b hb; rw [List.mem_singleton.mp hb]; obtain ⟨o, e, _⟩ := st.1; exact ⟨o, e⟩
    · intro F' i v h' row hF kk hP hr
      obtain ⟨d, hd, rfl⟩ := map_row hr
      obtain ⟨v', hv', r'⟩ := rs.get hd
      have hP' : vs[i]? = some v := by simpa using hP
      rw [hv'] at hP'; cases hP'
      exact ⟨d, rfl, Rep.keep kk _ (Rep.sub hF _ r')⟩

theorem ItEv.tup {iter : Expr} {x : Str} {px : Pos} {ds : List D} (h : Ev c n sc ρ iter (.tup ds)) : ItEv c n sc ρ iter (.Name x px) (ds.map fun d => [d]) := fun F A s env k =>
  (h F A s env k).mono fun v h₁ e₁ r tk => by
    obtain ⟨a, vs, rfl, nf, il, rs⟩ := r.tupInv
    have hh := k.ok.room.handled
    have hlt : a < h₁.objs.size := by obtain ⟨o, e, _⟩ := il; exact Heap.lt_size e
    have hnI : ¬ F h₁.objs.size := (k.ok.ext e₁).new (fresh_at _)
    refine wpAny_pyIter_tuple (s := { s with heap := h₁, toks := tk }) il ⟨_, tk, rfl, Ext.push _ _, h₁, e₁, Ext.push _ _, Src.ofWalks (Walks.tuple hh h₁.objs.size a (Nat.ne_of_lt hlt) vs.toArray) ?_ ⟨⟨_, Heap.get?_push_size _ rfl, rfl, rfl⟩, il.at fun o e => Heap.get?_push_of_some _ e⟩ ?_ ?_ ?_ ?_⟩
    · rw [List.length_map, List.size_toArray, rs.length]
    · intro b hb
      rcases List.mem_cons.mp hb with rfl | hb
      · exact ⟨hnI, _, Heap.get?_push_size _ rfl⟩
      · rw [List.mem_singleton.mp hb]
        obtain ⟨o, e, _⟩ := il
        exact ⟨nf, o, Heap.get?_push_of_some _ e⟩
    · intro b hb; rw [List.mem_singleton.mp hb]; exact fresh_at _
    · intro i h st b hb; rw [List.mem_singleton.mp hb]; obtain ⟨o, e, _⟩ := st.1; exact ⟨o, e⟩
    · intro F' i v h' row hF kk hP hr
      obtain ⟨d, hd, rfl⟩ := map_row hr
      obtain ⟨v', hv', r'⟩ := rs.get hd
      have hP' : vs[i]? = some v := by simpa using hP
      rw [hv'] at hP'; cases hP'
      exact ⟨d, rfl, Rep.keep kk _ (Rep.sub hF _ r')⟩

noncomputable def rangeI (a b : Int) : List Int := (List.range (b - a).toNat).map fun (i : Nat) => a + (i : Int)
theorem range_small {a b : Int} (ha : a.natAbs < 2 ^ 40) (hb : b.natAbs < 2 ^ 40) : Builtin.Range.small a b 1 = true ∧ Builtin.Range.rangeSize a b 1 = (((b - a).toNat : Nat) : Int) := by
  have hs : Builtin.Range.rangeSize a b 1 = (((b - a).toNat : Nat) : Int) := by
    unfold Builtin.Range.rangeSize
    rw [if_pos (by decide)]
    split <;> omega
  refine ⟨?_, hs⟩
  unfold Builtin.Range.small Builtin.Range.rangeFitsLong
  rw [hs]
  simp only [Bool.and_eq_true, decide_eq_true_eq, Bool.or_eq_true, beq_iff_eq, if_pos (show (1 : Int) > 0 by decide)]
  omega
theorem ItEv.range {iter : Expr} {x : Str} {px : Pos} {a b : Int} (h : Ev c n sc ρ iter (.range a b)) (ha : a.natAbs < 2 ^ 40) (hb : b.natAbs < 2 ^ 40) : ItEv c n sc ρ iter (.Name x px) ((rangeI a b).map fun i => [D.int i]) := fun F A s env k =>
  (h F A s env k).mono fun v h₁ e₁ r tk => by
    simp only [Rep] at r
    obtain ⟨ad, t, u, z, rfl, nf, ir⟩ := r
    have hh := k.ok.room.handled
    obtain ⟨hsm, hsz⟩ := range_small ha hb
    have hnI : ¬ F h₁.objs.size := (k.ok.ext e₁).new (fresh_at _)
    refine wpAny_pyIter_range (s := { s with heap := h₁, toks := tk }) ir hsm ⟨_, tk, rfl, Ext.push _ _, h₁, e₁, Ext.push _ _, Src.ofWalks (LCg.range_walks (I := h₁.objs.size) hh a (b - a).toNat) ?_ ?_ ?_ ?_ ?_ ?_⟩
    · simp [rangeI]
    · show IsRangeIter _ _ _ _ _
      rw [hsz]
      simpa using Heap.get?_push_size _ rfl
    · intro b' hb'; rw [List.mem_singleton.mp hb']; exact ⟨hnI, _, Heap.get?_push_size _ rfl⟩
    · intro b' hb'; rw [List.mem_singleton.mp hb']; exact fresh_at _
    · intro i h st b' hb'; rw [List.mem_singleton.mp hb']; exact ⟨_, st⟩
    · intro F' i v h' row hF kk hP hr
      unfold rangeI at hr
      rw [List.map_map, List.getElem?_map] at hr
      obtain ⟨j, hj, rfl⟩ := Option.map_eq_some_iff.mp hr
      have hj' : j = i := by
        obtain ⟨h1, h2⟩ := List.getElem?_eq_some_iff.mp hj
        rw [List.getElem_range] at h2; exact h2.symm
      subst hj'
      obtain ⟨t', rfl⟩ := hP
      exact ⟨_, rfl, t', rfl⟩

noncomputable def charsD (x : Str) : List D := x.cps.toList.map fun k => D.str ⟨#[k]⟩
theorem ItEv.str {iter : Expr} {y : Str} {px : Pos} {x : Str} (h : Ev c n sc ρ iter (.str x)) : ItEv c n sc ρ iter (.Name y px) ((charsD x).map fun d => [d]) := fun F A s env k =>
  (h F A s env k).mono fun v h₁ e₁ r tk => by
    simp only [Rep] at r
    obtain ⟨t, rfl⟩ := r
    have hh := k.ok.room.handled
    have hnI : ¬ F h₁.objs.size := (k.ok.ext e₁).new (fresh_at _)
    have rowsOk : ∀ (F' : Addr → Prop) (i : Nat) (v : Value) (h' : Heap) (row : List D), (∀ a, F' a → F a ∨ h₁.get? a = none) → (∀ b o, ¬ F' b → h₁.get? b = some o → h'.get? b = some o) → (∃ c u, x.cps[i]? = some c ∧ v = .str ⟨#[c]⟩ u) → ((charsD x).map fun d => [d])[i]? = some row → ∃ d, row = [d] ∧ Rep F' h' v d := by
      intro F' i v h' row hF kk hP hr
      obtain ⟨d, hd, rfl⟩ := map_row hr
      unfold charsD at hd
      rw [List.getElem?_map] at hd
      obtain ⟨j, hj, rfl⟩ := Option.map_eq_some_iff.mp hd
      obtain ⟨c', u, hc, rfl⟩ := hP
      have : c' = j := by simp at hj; rw [hc] at hj; exact Option.some.inj hj
      subst this
      exact ⟨_, rfl, u, rfl⟩
    cases ha : x.cps.all (· < 128)
    · refine wpAny_pyIter_wide (s := { s with heap := h₁, toks := tk }) ha ⟨_, tk, rfl, Ext.push _ _, h₁, e₁, Ext.push _ _, Src.ofWalks (Walks.strWide hh h₁.objs.size x t) (by simp [charsD]) ⟨_, Heap.get?_push_size _ rfl, rfl, rfl⟩ ?_ ?_ ?_ rowsOk⟩
      · intro b' hb'; rw [List.mem_singleton.mp hb']; exact ⟨hnI, _, Heap.get?_push_size _ rfl⟩
      · intro b' hb'; rw [List.mem_singleton.mp hb']; exact fresh_at _
      · intro i h st b' hb'; rw [List.mem_singleton.mp hb']; obtain ⟨o, e, _⟩ := st; exact ⟨o, e⟩
    · refine wpAny_pyIter_ascii (s := { s with heap := h₁, toks := tk }) ha ⟨_, tk, rfl, Ext.push _ _, h₁, e₁, Ext.push _ _, Src.ofWalks (Walks.strAscii hh h₁.objs.size x t) (by simp [charsD]) ⟨_, Heap.get?_push_size _ rfl, rfl, rfl⟩ ?_ ?_ ?_ rowsOk⟩
      · intro b' hb'; rw [List.mem_singleton.mp hb']; exact ⟨hnI, _, Heap.get?_push_size _ rfl⟩
      · intro b' hb'; rw [List.mem_singleton.mp hb']; exact fresh_at _
      · intro i h st b' hb'; rw [List.mem_singleton.mp hb']; obtain ⟨o, e, _⟩ := st; exact ⟨o, e⟩
end
end Qp
namespace Qp
open PySem PySem.Calls PyProof.Rows PySem.W

section
variable {c : Cx} {n : Nat} {sc : Scope} {ρ : Str → Option D}
theorem W.callName {x : Str} {p pos : Pos} {e : Expr} {es : List Expr} {f : Value} {ds : List D} {F : Addr → Prop} {A : Around} {s : Shared} {env : Env} {Q : Value → Heap → Prop} (k : At c n F A env sc ρ s.heap)
    (hf : Ev c n sc ρ (.Name x p) (.val f)) (pl : Plain c f) (ha : Evs c n sc ρ (e :: es) ds)
    (h : ∀ vs h₂ t₂, Ext s.heap h₂ → Reps F h₂ vs ds → W c A { s with heap := h₂, toks := t₂ } (call f vs) fun v h₃ => Q v h₃)
    (he : ∀ env, starEach (e :: es) env = (false, eval e env) :: starEach es env := by intro _; rfl) (hp : ∀ env, (backTo pos (starEach es env)).any (·.1) = false := by intro _; rfl) :
    W c A s (eval (.Call (.Name x p) (e :: es) [] pos) env) Q := by
  show wpAny _ A (do callWith pos (← eval (.Name x p) env) [] (backTo pos (starEach (e :: es) env)) (backToKw pos (keywordEach [] env))) _ _ s
  refine wpAny_bind ((hf F A s env k).use fun v h₁ t₁ e₁ q => ?_)
  have q' : v = f := q
  subst q'
  rw [show backToKw pos (keywordEach [] env) = [] from rfl]
  have h2 := ha F A { s with heap := h₁, toks := t₁ } env pos (k.ext e₁)
  rw [he] at h2 ⊢
  refine callWith_of (P := fun h => ∀ b o, c.hT.get? b = some o → h.get? b = some o) (by show ((false || (backTo pos (starEach es env)).any (·.1)) || false) = false; rw [hp]; rfl) (fun h hh => keeper_of pl hh) (evalArgs_plain (h2.use fun vs h₂ t₂ e₂ rs => ⟨((k.ext e₁).ext e₂).ok.keep, ?_⟩))
  exact (h vs h₂ t₂ (e₁.trans e₂) rs).use fun v h₃ t₃ e₃ r => ⟨h₃, t₃, rfl, (e₁.trans e₂).trans e₃, r⟩

theorem Src.ofWalksT {A : Around} {F : Addr → Prop} {elts : List Expr} {kk : Nat} {pos : Pos} {h₀ h : Heap} {I : Addr} {fp wr : List Addr} {m : Nat} {Pt : Nat → Array Value → Prop} {St : Nat → Heap → Prop} {Mid : Nat → Addr → Heap → Prop} {rows : List (List D)}
    (W : WalksT c.prog c.w A I fp wr m Pt St Mid) (hn : m = rows.length) (hst : St 0 h) (hfp : ∀ b ∈ fp, ¬ F b ∧ ∃ o, h.get? b = some o) (hwn : ∀ b ∈ wr, h₀.get? b = none) (hlv : ∀ i h, St i h → ∀ b ∈ wr, ∃ o, h.get? b = some o)
    (hrows : ∀ (F' : Addr → Prop) i vals h' row, (∀ a, F' a → F a ∨ h₀.get? a = none) → (∀ b o, ¬ F' b → h₀.get? b = some o → h'.get? b = some o) → Pt i vals → rows[i]? = some row → Reps F' h' vals.toList row) :
    Src c A F (.Tuple elts kk pos) h₀ h (.ref I) rows := by
  subst hn
  refine ⟨I, fp, wr, _, _, St, rfl, KTurns.ofWalksU W.toU, hst, hfp, hwn, hlv, fun i s Q E st q => W.self i s Q E st q, fun F' i v h' row hF kk hP hr => ?_⟩
  obtain ⟨T, vals, rfl, hP, hT⟩ := hP
  exact ⟨T, vals.toList, rfl, by simpa using hT, hrows F' i vals h' row hF kk hP hr⟩

theorem zipW_get {α β γ : Type} {f : α → β → γ} : ∀ {l : List α} {r : List β} {i : Nat} {g : γ}, (List.zipWith f l r)[i]? = some g → ∃ a b, l[i]? = some a ∧ r[i]? = some b ∧ g = f a b
  | a :: l, b :: r, 0, g, h => ⟨a, b, rfl, rfl, by simpa using h.symm⟩
  | a :: l, b :: r, i + 1, g, h => by simpa using zipW_get (l := l) (r := r) (i := i) (by simpa using h)
  | [], _, i, g, h => by simp at h
  | _ :: _, [], i, g, h => by simp at h

theorem ItEv.zip2 {x : Str} {p pos tp : Pos} {e₁ e₂ : Expr} {elts : List Expr} {kk : Nat} {d₁ d₂ : List D} (hf : Ev c n sc ρ (.Name x p) (.val (.type "zip"))) (ha : Evs c n sc ρ [e₁, e₂] [.list d₁, .list d₂])
    (he : ∀ env, starEach [e₁, e₂] env = (false, eval e₁ env) :: starEach [e₂] env := by intro _; rfl) (hp : ∀ env, (backTo pos (starEach [e₂] env)).any (·.1) = false := by intro _; rfl) :
    ItEv c n sc ρ (.Call (.Name x p) [e₁, e₂] [] pos) (.Tuple elts kk tp) (List.zipWith (fun a b => [a, b]) d₁ d₂) := fun F A s env k => by
  refine W.callName k hf trivial ha (fun vs h₂ t₂ e₂ rs => ?_) he hp
  obtain ⟨v₁, v₂, rfl, r₁, r₂⟩ := rs.twoInv
  obtain ⟨a₁, vs₁, rfl, nf₁, il₁, rs₁⟩ := r₁.listInv
  obtain ⟨a₂, vs₂, rfl, nf₂, il₂, rs₂⟩ := r₂.listInv
  have hh := k.ok.room.handled
  have ok₂ := k.ok.ext e₂
  have l1 : @LT.lt Nat _ a₁ h₂.objs.size := by obtain ⟨o, e, _⟩ := il₁; exact Heap.lt_size e
  have l2 : @LT.lt Nat _ a₂ h₂.objs.size := by obtain ⟨o, e, _⟩ := il₂; exact Heap.lt_size e
  refine call_zip_2 (s := { s with heap := h₂, toks := t₂ }) il₁ il₂ fun h₃ hz hTI hTO hi1 hi2 hsz hk => ⟨h₃, t₂, rfl, hk, fun tk => ?_⟩
  dsimp only at hz hTI hTO hi1 hi2 hsz hk
  have new : ∀ a : Nat, h₂.objs.size ≤ a → h₂.get? a = none := fun a q => fresh_ge q
  generalize h₂.objs.size = N at *
  refine wpAny_pyIter_zip (s := { s with heap := h₃, toks := tk }) hz ⟨h₃, tk, rfl, Ext.refl _, h₂, e₂, hk, ?_⟩
  have D : ZipApart (N + 4) (N + 2) (N + 3) N (N + 1) a₁ a₂ := by constructor <;> (show (_ : Nat) ≠ _; omega)
  refine Src.ofWalksT (WalksT.zip2 hh _ _ _ _ _ _ _ D vs₁.toArray vs₂.toArray) ?_ ⟨hz, hTI, ⟨_, _, hTO⟩, hi1, hi2, il₁.at fun o e => hk _ o e, il₂.at fun o e => hk _ o e⟩ ?_ ?_ ?_ ?_
  · rw [List.length_zipWith, List.size_toArray, List.size_toArray, rs₁.length, rs₂.length]
  · intro b hb
    simp only [List.mem_cons, List.not_mem_nil, or_false] at hb
    have nw : ∀ a : Nat, N ≤ a → ¬ F a := fun a q => ok₂.new (new a q)
    rcases hb with rfl | rfl | rfl | rfl | rfl | rfl | rfl
    · exact ⟨nw _ (by omega), _, hz⟩
    · exact ⟨nw _ (by omega), _, hTI⟩
    · exact ⟨nw _ (by omega), _, hTO⟩
    · obtain ⟨o, e, _⟩ := hi1; exact ⟨nw _ (by omega), _, e⟩
    · obtain ⟨o, e, _⟩ := hi2; exact ⟨nw _ (by omega), _, e⟩
    · obtain ⟨o, e, _⟩ := il₁; exact ⟨nf₁, _, hk _ _ e⟩
    · obtain ⟨o, e, _⟩ := il₂; exact ⟨nf₂, _, hk _ _ e⟩
  · intro b hb
    simp only [List.mem_cons, List.not_mem_nil, or_false] at hb
    rcases hb with rfl | rfl | rfl | rfl <;> exact new _ (by omega)
  · intro i h st b hb
    obtain ⟨hz, hTI, ⟨a, b', hTO⟩, h1, h2, _⟩ := st
    simp only [List.mem_cons, List.not_mem_nil, or_false] at hb
    rcases hb with rfl | rfl | rfl | rfl
    · exact ⟨_, hz⟩
    · exact ⟨_, hTO⟩
    · obtain ⟨o, e, _⟩ := h1; exact ⟨_, e⟩
    · obtain ⟨o, e, _⟩ := h2; exact ⟨_, e⟩
  · intro F' i vals h' row hF kk hP hr
    obtain ⟨x, y, hx, hy, rfl⟩ := hP
    obtain ⟨d, d', hd, hd', rfl⟩ := zipW_get hr
    obtain ⟨v, hv, r⟩ := rs₁.get hd
    obtain ⟨v', hv', r'⟩ := rs₂.get hd'
    have hx' : vs₁[i]? = some x := by simpa using hx
    have hy' : vs₂[i]? = some y := by simpa using hy
    rw [hv] at hx'; cases hx'
    rw [hv'] at hy'; cases hy'
    exact Reps.cons (Rep.keep kk _ (Rep.sub hF _ r)) (Reps.one (Rep.keep kk _ (Rep.sub hF _ r')))

theorem ItEv.enum {x : Str} {p pos tp : Pos} {e₁ : Expr} {elts : List Expr} {kk : Nat} {d₁ : List D} (hf : Ev c n sc ρ (.Name x p) (.val (.type "enumerate"))) (ha : Evs c n sc ρ [e₁] [.list d₁])
    (he : ∀ env, starEach [e₁] env = (false, eval e₁ env) :: starEach [] env := by intro _; rfl) :
    ItEv c n sc ρ (.Call (.Name x p) [e₁] [] pos) (.Tuple elts kk tp) (List.zipWith (fun (i : Nat) d => [.int i, d]) (List.range d₁.length) d₁) := fun F A s env k => by
  refine W.callName k hf trivial ha (fun vs h₂ t₂ e₂ rs => ?_) he (fun _ => rfl)
  obtain ⟨v₁, rfl, r₁⟩ := rs.oneInv
  obtain ⟨a₁, vs₁, rfl, nf₁, il₁, rs₁⟩ := r₁.listInv
  have hh := k.ok.room.handled
  have ok₂ := k.ok.ext e₂
  have l1 : @LT.lt Nat _ a₁ h₂.objs.size := by obtain ⟨o, e, _⟩ := il₁; exact Heap.lt_size e
  refine call_enumerate_list (s := { s with heap := h₂, toks := t₂ }) il₁ fun h₃ hz hi1 hsz hk => ⟨h₃, t₂, rfl, hk, fun tk => ?_⟩
  dsimp only at hz hi1 hsz hk
  have new : ∀ a : Nat, h₂.objs.size ≤ a → h₂.get? a = none := fun a q => fresh_ge q
  generalize h₂.objs.size = N at *
  refine wpAny_pyIter_enum (s := { s with heap := h₃, toks := tk }) hz ⟨h₃, tk, rfl, Ext.refl _, h₂, e₂, hk, ?_⟩
  have n1 : N + 1 ≠ N := by omega
  have n2 : a₁ ≠ N + 1 := Nat.ne_of_lt (Nat.lt_succ_of_lt l1)
  have n3 : a₁ ≠ N := Nat.ne_of_lt l1
  refine Src.ofWalksT (WalksT.enumerate hh (N + 1) N a₁ n1 n2 n3 vs₁.toArray) ?_ ⟨⟨_, hz⟩, hi1, il₁.at fun o e => hk _ o e⟩ ?_ ?_ ?_ ?_
  · rw [List.length_zipWith, List.length_range, List.size_toArray, rs₁.length, Nat.min_self]
  · intro b hb
    simp only [List.mem_cons, List.not_mem_nil, or_false] at hb
    have nw : ∀ a : Nat, N ≤ a → ¬ F a := fun a q => ok₂.new (new a q)
    rcases hb with rfl | rfl | rfl
    · exact ⟨nw _ (by omega), _, hz⟩
    · obtain ⟨o, e, _⟩ := hi1; exact ⟨nw _ (by omega), _, e⟩
    · obtain ⟨o, e, _⟩ := il₁; exact ⟨nf₁, _, hk _ _ e⟩
  · intro b hb
    simp only [List.mem_cons, List.not_mem_nil, or_false] at hb
    rcases hb with rfl | rfl <;> exact new _ (by omega)
  · intro i h st b hb
    obtain ⟨⟨old, hz⟩, h1, _⟩ := st
    simp only [List.mem_cons, List.not_mem_nil, or_false] at hb
    rcases hb with rfl | rfl
    · exact ⟨_, hz⟩
    · obtain ⟨o, e, _⟩ := h1; exact ⟨_, e⟩
  · intro F' i vals h' row hF kk hP hr
    obtain ⟨t, y, hy, rfl⟩ := hP
    obtain ⟨j, d', hd, hd', rfl⟩ := zipW_get hr
    obtain ⟨v', hv', r'⟩ := rs₁.get hd'
    have hy' : vs₁[i]? = some y := by simpa using hy
    rw [hv'] at hy'; cases hy'
    have hj : j = i := by
      obtain ⟨h1, h2⟩ := List.getElem?_eq_some_iff.mp hd
      rw [List.getElem_range] at h2; exact h2.symm
    subst hj
    exact Reps.cons ⟨t, rfl⟩ (Reps.one (Rep.keep kk _ (Rep.sub hF _ r')))
end
end Qp
namespace Qp
open PySem PySem.Calls PyProof.Rows PySem.W

noncomputable abbrev IsTrip (h : Heap) (T : Addr) (a b d : Value) : Prop := h.get? T = some { cls := .type "tuple", data := .seq #[a, b, d] }
theorem typeCall_zip_3 (a b d : Value) : checkTypeCall "zip" ⟨[a, b, d], []⟩ = pure () := by kernel_rfl
theorem newCall_zip_3 (a b d : Value) : checkBuiltinCall "zip.__new__" ⟨[.type "zip", a, b, d], []⟩ = pure () := by kernel_rfl
theorem args_object_init_4 (a b c d : Value) : argsOk "object.__init__" ⟨[a, b, c, d], []⟩ := by
  unfold argsOk; rw [signature?_of (id := "object.__init__") (n := ['_', '_', 't', 'i', 'n', 'i', '_', '_']) (o := ['t', 'c', 'e', 'j', 'b', 'o']) (by kernel_rfl) F.owner_object]; kernel_rfl

noncomputable abbrev z1 (h : Heap) (l1 : Addr) : Heap := h.push { cls := .type "list_iterator", data := .fields #[.ref l1, .int 0 0] }
noncomputable abbrev z2 (h : Heap) (l1 l2 : Addr) : Heap := (z1 h l1).push { cls := .type "list_iterator", data := .fields #[.ref l2, .int 0 0] }
noncomputable abbrev z3 (h : Heap) (l1 l2 l3 : Addr) : Heap := (z2 h l1 l2).push { cls := .type "list_iterator", data := .fields #[.ref l3, .int 0 0] }
noncomputable abbrev z4 (h : Heap) (l1 l2 l3 : Addr) : Heap := (z3 h l1 l2 l3).push { cls := .type "tuple", data := .seq #[.ref h.objs.size, .ref (z1 h l1).objs.size, .ref (z2 h l1 l2).objs.size] }
noncomputable abbrev z5 (h : Heap) (l1 l2 l3 : Addr) : Heap := (z4 h l1 l2 l3).push { cls := .type "tuple", data := .seq #[.none, .none, .none] }
noncomputable abbrev z6 (h : Heap) (l1 l2 l3 : Addr) : Heap := (z5 h l1 l2 l3).push { cls := .type "zip", data := .fields #[.none, .bool false, .bool false, .ref (z3 h l1 l2 l3).objs.size, .ref (z4 h l1 l2 l3).objs.size] }

theorem newClass_zip (vs : List Value) : Builtin.SmallTypes.newClass "zip" ⟨.type "zip" :: vs, []⟩ = pure (.type "zip", vs) := by
  unfold Builtin.SmallTypes.newClass
  show (isType (.type "zip") >>= _) = _
  rw [show isType (.type "zip") = pure true from rfl]
  simp only [pure_bind, sub_zip]
  rfl
theorem meets_zip_new3 (l1 l2 l3 : Addr) (xs ys zs : Array Value) :
    Meets (Builtin.«zip.__new__» ⟨[.type "zip", .ref l1, .ref l2, .ref l3], []⟩) (fun _ R s => s.heap.IsList l1 xs ∧ s.heap.IsList l2 ys ∧ s.heap.IsList l3 zs ∧
      R (.ok (.ret (.ref (z5 s.heap l1 l2 l3).objs.size))) { s with heap := z6 s.heap l1 l2 l3 }) :=
  .of_wp fun prog w A R s h => by
    obtain ⟨hl1, hl2, hl3, h⟩ := h
    unfold Builtin.«zip.__new__»
    refine wpAny_bind (wpAny_of_eq (newClass_zip _) ?_)
    show wpAny _ _ (Builtin.SmallTypes.iterAll [.ref l1, .ref l2, .ref l3] >>= fun its => newTuple its >>= fun t => newTuple (its.map fun _ => .none) >>= fun u => Builtin.SmallTypes.newRecord (.type "zip") (Builtin.SmallTypes.ownedTupleFields ++ [.bool false, t, u]) >>= fun r => ret r) _ _ s
    refine wpAny_bind ?_
    unfold Builtin.SmallTypes.iterAll
    simp only [List.forIn_cons, List.forIn_nil]
    refine wpAny_bind (wpAny_bind (wpAny_bind (wpAny_holding (wpAny_pyIter_list hl1 (wpAny_pure ?_)))))
    refine wpAny_bind (wpAny_bind (wpAny_holding (wpAny_pyIter_list (Heap.IsList.push hl2 _) (wpAny_pure ?_))))
    refine wpAny_bind (wpAny_bind (wpAny_holding (wpAny_pyIter_list (Heap.IsList.push (Heap.IsList.push hl3 _) _) (wpAny_pure (wpAny_pure (wpAny_pure ?_))))))
    show wpAny _ _ (newTuple [.ref s.heap.objs.size, .ref (z1 s.heap l1).objs.size, .ref (z2 s.heap l1 l2).objs.size] >>= fun t => newTuple [.none, .none, .none] >>= fun u => newObj (.type "zip") (.fields #[.none, .bool false, .bool false, t, u]) >>= fun r => ret r) _ _ { s with heap := z3 s.heap l1 l2 l3 }
    refine wpAny_bind (wpAny_newTuple ?_ (by show 3 ≤ sizeLine; decide +kernel))
    refine wpAny_bind (wpAny_newTuple ?_ (by show 3 ≤ sizeLine; decide +kernel))
    refine wpAny_bind (wpAny_newObj_type ?_ (by show 5 ≤ sizeLine + 2; decide +kernel))
    exact wpAny_pure ⟨_, rfl, h⟩
section
variable {prog : Program} {w : World} {A : Around} {E : Value → Shared → Prop} {s : Shared}
theorem call_zip_3 {l1 l2 l3 : Addr} {xs ys zs : Array Value} {Q : Value → Shared → Prop} (hl1 : s.heap.IsList l1 xs) (hl2 : s.heap.IsList l2 ys) (hl3 : s.heap.IsList l3 zs)
    (h : ∀ h', IsZip h' (s.heap.objs.size + 5) (s.heap.objs.size + 3) (s.heap.objs.size + 4) .none → IsTrip h' (s.heap.objs.size + 3) (.ref s.heap.objs.size) (.ref (s.heap.objs.size + 1)) (.ref (s.heap.objs.size + 2)) →
      IsTrip h' (s.heap.objs.size + 4) .none .none .none → h'.IsListIter s.heap.objs.size l1 0 → h'.IsListIter (s.heap.objs.size + 1) l2 0 → h'.IsListIter (s.heap.objs.size + 2) l3 0 →
      (∀ c o, s.heap.get? c = some o → h'.get? c = some o) → Q (.ref (s.heap.objs.size + 5)) { s with heap := h' }) :
    wpAny (model prog w) A (call (.type "zip") [.ref l1, .ref l2, .ref l3]) Q E s := by
  refine callType_new F.called_zip (by decide) (typeCall_zip_3 _ _ _) (newCall_zip_3 _ _ _) (fun obj => args_object_init_4 obj _ _ _) F.entry_zip_new
    (meets_zip_new3 l1 l2 l3 xs ys zs) ⟨hl1, hl2, hl3, ?_⟩
  have s1 : (z1 s.heap l1).objs.size = s.heap.objs.size + 1 := Heap.size_push ..
  have s2 : (z2 s.heap l1 l2).objs.size = s.heap.objs.size + 2 := by rw [Heap.size_push, s1]
  have s3 : (z3 s.heap l1 l2 l3).objs.size = s.heap.objs.size + 3 := by rw [Heap.size_push, s2]
  have s4 : (z4 s.heap l1 l2 l3).objs.size = s.heap.objs.size + 4 := by rw [Heap.size_push, s3]
  have s5 : (z5 s.heap l1 l2 l3).objs.size = s.heap.objs.size + 5 := by rw [Heap.size_push, s4]
  have up : ∀ {h : Heap} {a : Addr} {o : Obj} (o' : Obj), h.get? a = some o → (h.push o').get? a = some o := fun o' e => Heap.get?_push_of_some o' e
  have g6 : (z6 s.heap l1 l2 l3).get? (z5 s.heap l1 l2 l3).objs.size = some _ := Heap.get?_push_size _ rfl
  have g5 : (z6 s.heap l1 l2 l3).get? (z4 s.heap l1 l2 l3).objs.size = some _ := up _ (Heap.get?_push_size _ rfl)
  have g4 : (z6 s.heap l1 l2 l3).get? (z3 s.heap l1 l2 l3).objs.size = some _ := up _ (up _ (Heap.get?_push_size _ rfl))
  have g3 : (z6 s.heap l1 l2 l3).get? (z2 s.heap l1 l2).objs.size = some _ := up _ (up _ (up _ (Heap.get?_push_size _ rfl)))
  have g2 : (z6 s.heap l1 l2 l3).get? (z1 s.heap l1).objs.size = some _ := up _ (up _ (up _ (up _ (Heap.get?_push_size _ rfl))))
  have g1 : (z6 s.heap l1 l2 l3).get? s.heap.objs.size = some _ := up _ (up _ (up _ (up _ (up _ (Heap.get?_push_size _ rfl)))))
  show _ ∧ _
  rw [s3, s4, s5] at g6
  rw [s1, s2, s3] at g4
  rw [s4] at g5
  rw [s2] at g3
  rw [s1] at g2
  rw [s5]
  exact ⟨⟨_, g6, rfl⟩, h _ g6 g4 g5 ⟨_, g1, rfl, rfl⟩ ⟨_, g2, rfl, rfl⟩ ⟨_, g3, rfl, rfl⟩ fun c o x => up _ (up _ (up _ (up _ (up _ (up _ x)))))⟩

theorem updateSeq_trip {T : Addr} {a b d x : Value} {k : Nat} {Q : Unit → Shared → Prop} (hT : IsTrip s.heap T a b d)
    (h : ∀ h', h'.get? T = some { cls := .type "tuple", data := .seq ((#[a, b, d] : Array Value).setIfInBounds k x) } → Heap.SameBut T s.heap h' → Q () { s with heap := h' }) :
    wpAny (model prog w) A (updateSeq T (·.setIfInBounds k x)) Q E s := by
  refine wpAny_updateSeq hT rfl (h _ ?_ (Heap.SameBut.update ..))
  rw [Heap.get?_update_self _ hT rfl]
  simp [Obj.mapSeq]

/-- the parts of a zip of three lists lie apart -/
structure Z3Apart (z TI TO i1 i2 i3 l1 l2 l3 : Addr) : Prop where
  TIz : TI ≠ z
  TOz : TO ≠ z
  i1z : i1 ≠ z
  i2z : i2 ≠ z
  i3z : i3 ≠ z
  TITO : TI ≠ TO
  TIi1 : TI ≠ i1
  TIi2 : TI ≠ i2
  TIi3 : TI ≠ i3
  TOi1 : TO ≠ i1
  TOi2 : TO ≠ i2
  TOi3 : TO ≠ i3
  i12 : i1 ≠ i2
  i13 : i1 ≠ i3
  i23 : i2 ≠ i3
  l1 : l1 ≠ z ∧ l1 ≠ TO ∧ l1 ≠ i1 ∧ l1 ≠ i2 ∧ l1 ≠ i3
  l2 : l2 ≠ z ∧ l2 ≠ TO ∧ l2 ≠ i1 ∧ l2 ≠ i2 ∧ l2 ≠ i3
  l3 : l3 ≠ z ∧ l3 ≠ TO ∧ l3 ≠ i1 ∧ l3 ≠ i2 ∧ l3 ≠ i3

/-- the state of a zip of three lists -/
structure Z3St (z TI TO i1 i2 i3 l1 l2 l3 : Addr) (xs ys zs : Array Value) (k1 k2 k3 : Nat) (h : Heap) : Prop where
  hTI : IsTrip h TI (.ref i1) (.ref i2) (.ref i3)
  hTO : ∃ a b d, IsTrip h TO a b d
  h1 : h.IsListIter i1 l1 k1
  h2 : h.IsListIter i2 l2 k2
  h3 : h.IsListIter i3 l3 k3
  hl1 : h.IsList l1 xs
  hl2 : h.IsList l2 ys
  hl3 : h.IsList l3 zs

variable {z TI TO i1 i2 i3 l1 l2 l3 : Addr} {xs ys zs : Array Value} {k1 k2 k3 : Nat}
theorem Z3St.onz {h h' : Heap} (D : Z3Apart z TI TO i1 i2 i3 l1 l2 l3) (S : Z3St z TI TO i1 i2 i3 l1 l2 l3 xs ys zs k1 k2 k3 h) (k : Heap.ExtBut z h h') : Z3St z TI TO i1 i2 i3 l1 l2 l3 xs ys zs k1 k2 k3 h' :=
  ⟨k _ _ D.TIz S.hTI, let ⟨a, b, d, q⟩ := S.hTO; ⟨a, b, d, k _ _ D.TOz q⟩, S.h1.extBut k D.i1z, S.h2.extBut k D.i2z, S.h3.extBut k D.i3z, S.hl1.extBut k D.l1.1, S.hl2.extBut k D.l2.1, S.hl3.extBut k D.l3.1⟩
theorem Z3St.onTO {h h' : Heap} (D : Z3Apart z TI TO i1 i2 i3 l1 l2 l3) (S : Z3St z TI TO i1 i2 i3 l1 l2 l3 xs ys zs k1 k2 k3 h) (k : Heap.ExtBut TO h h') (q : ∃ a b d, IsTrip h' TO a b d) : Z3St z TI TO i1 i2 i3 l1 l2 l3 xs ys zs k1 k2 k3 h' :=
  ⟨k _ _ D.TITO S.hTI, q, S.h1.extBut k D.TOi1.symm, S.h2.extBut k D.TOi2.symm, S.h3.extBut k D.TOi3.symm, S.hl1.extBut k D.l1.2.1, S.hl2.extBut k D.l2.2.1, S.hl3.extBut k D.l3.2.1⟩
theorem Z3St.on1 {h h' : Heap} (D : Z3Apart z TI TO i1 i2 i3 l1 l2 l3) (S : Z3St z TI TO i1 i2 i3 l1 l2 l3 xs ys zs k1 k2 k3 h) (k : Heap.ExtBut i1 h h') {k1'} (q : h'.IsListIter i1 l1 k1') : Z3St z TI TO i1 i2 i3 l1 l2 l3 xs ys zs k1' k2 k3 h' :=
  ⟨k _ _ D.TIi1 S.hTI, let ⟨a, b, d, q⟩ := S.hTO; ⟨a, b, d, k _ _ D.TOi1 q⟩, q, S.h2.extBut k D.i12.symm, S.h3.extBut k D.i13.symm, S.hl1.extBut k D.l1.2.2.1, S.hl2.extBut k D.l2.2.2.1, S.hl3.extBut k D.l3.2.2.1⟩
theorem Z3St.on2 {h h' : Heap} (D : Z3Apart z TI TO i1 i2 i3 l1 l2 l3) (S : Z3St z TI TO i1 i2 i3 l1 l2 l3 xs ys zs k1 k2 k3 h) (k : Heap.ExtBut i2 h h') {k2'} (q : h'.IsListIter i2 l2 k2') : Z3St z TI TO i1 i2 i3 l1 l2 l3 xs ys zs k1 k2' k3 h' :=
  ⟨k _ _ D.TIi2 S.hTI, let ⟨a, b, d, q⟩ := S.hTO; ⟨a, b, d, k _ _ D.TOi2 q⟩, S.h1.extBut k D.i12, q, S.h3.extBut k D.i23.symm, S.hl1.extBut k D.l1.2.2.2.1, S.hl2.extBut k D.l2.2.2.2.1, S.hl3.extBut k D.l3.2.2.2.1⟩
theorem Z3St.on3 {h h' : Heap} (D : Z3Apart z TI TO i1 i2 i3 l1 l2 l3) (S : Z3St z TI TO i1 i2 i3 l1 l2 l3 xs ys zs k1 k2 k3 h) (k : Heap.ExtBut i3 h h') {k3'} (q : h'.IsListIter i3 l3 k3') : Z3St z TI TO i1 i2 i3 l1 l2 l3 xs ys zs k1 k2 k3' h' :=
  ⟨k _ _ D.TIi3 S.hTI, let ⟨a, b, d, q⟩ := S.hTO; ⟨a, b, d, k _ _ D.TOi3 q⟩, S.h1.extBut k D.i13, S.h2.extBut k D.i23, q, S.hl1.extBut k D.l1.2.2.2.2, S.hl2.extBut k D.l2.2.2.2.2, S.hl3.extBut k D.l3.2.2.2.2⟩

noncomputable def Z3Keep (z TO i1 i2 i3 : Addr) (h h' : Heap) : Prop := ∀ c o, c ≠ z → c ≠ TO → c ≠ i1 → c ≠ i2 → c ≠ i3 → h.get? c = some o → h'.get? c = some o

theorem zip3_item {x y v : Value} {Q : Value → Shared → Prop} (D : Z3Apart z TI TO i1 i2 i3 l1 l2 l3) (hz : IsZip s.heap z TI TO .none) (S : Z3St z TI TO i1 i2 i3 l1 l2 l3 xs ys zs k1 k2 k3 s.heap)
    (hx : xs[k1]? = some x) (hy : ys[k2]? = some y) (hv : zs[k3]? = some v)
    (hQ : ∀ h', IsZip h' z TI TO (rawInt s.heap.objs.size) → Z3St z TI TO i1 i2 i3 l1 l2 l3 xs ys zs (k1 + 1) (k2 + 1) (k3 + 1) h' → IsTrip h' s.heap.objs.size x y v → Z3Keep z TO i1 i2 i3 s.heap h' →
      s.heap.objs.size ≠ z ∧ s.heap.objs.size ≠ TO ∧ s.heap.objs.size ≠ i1 ∧ s.heap.objs.size ≠ i2 ∧ s.heap.objs.size ≠ i3 → Q (.ref s.heap.objs.size) { s with heap := h' }) :
    wpAny (model prog w) A (Builtin.«zip.__next__» ⟨[.ref z], []⟩) (fun fin s' => ∃ v, fin = .done (.ret v) ∧ Q v s') E s := by
  have hne : s.heap.objs.size ≠ z ∧ s.heap.objs.size ≠ TO ∧ s.heap.objs.size ≠ i1 ∧ s.heap.objs.size ≠ i2 ∧ s.heap.objs.size ≠ i3 := by
    have lt : ∀ {c o}, s.heap.get? c = some o → s.heap.objs.size ≠ c := fun e => Nat.ne_of_gt (Heap.lt_size e)
    obtain ⟨a, b, d, hTO⟩ := S.hTO
    obtain ⟨_, e1, _⟩ := S.h1
    obtain ⟨_, e2, _⟩ := S.h2
    obtain ⟨_, e3, _⟩ := S.h3
    exact ⟨lt hz, lt hTO, lt e1, lt e2, lt e3⟩
  show wpAny _ _ (field (.ref z) 2 >>= _) _ _ _
  refine wpAny_bind (wpAny_field hz rfl (x := .bool false) rfl ?_)
  show wpAny _ _ (field (.ref z) 3 >>= _) _ _ _
  refine wpAny_bind (wpAny_field hz rfl (x := .ref TI) rfl ?_)
  refine wpAny_bind (wpAny_seqItems S.hTI rfl ?_)
  show wpAny _ _ (Builtin.SmallTypes.ownedTupleIsFree (.ref z) >>= _) _ _ _
  refine wpAny_bind ?_
  unfold Builtin.SmallTypes.ownedTupleIsFree
  refine wpAny_bind (wpAny_field hz rfl (x := .none) rfl (wpAny_pure ?_))
  simp only [if_true]
  refine wpAny_bind (wpAny_rule ?_)
  refine wpAny_bind (wpAny_field hz rfl (x := .ref TO) rfl ?_)
  refine wpAny_bind (wpAny_setField_rec hz (by simp) fun h₁ hz₁ hs₁ => ?_)
  replace hz₁ : IsZip h₁ z TI TO .ellipsis := hz₁
  have S₁ := S.onz D hs₁.extBut
  refine wpAny_bind ?_
  simp only [List.zipIdx_cons, List.zipIdx_nil, List.forIn_cons, List.forIn_nil]
  refine wpAny_bind (wpAny_bind (wpAny_onRaise ?_))
  show wpAny _ _ (Builtin.SmallTypes.nextOf (.ref i1) >>= _) _ _ _
  refine wpAny_bind (wpAny_nextOf_list_item S₁.h1 S₁.hl1 hx fun h₂ h1₂ hs₂ => wpAny_pure ?_)
  have S₂ := S₁.on1 D hs₂.extBut h1₂
  obtain ⟨a, b, d, hTO₂⟩ := S₂.hTO
  refine wpAny_bind (wpAny_seqItems hTO₂ rfl ?_)
  refine wpAny_bind (updateSeq_trip hTO₂ fun h₃ hTO₃ hs₃ => ?_)
  replace hTO₃ : IsTrip h₃ TO x b d := hTO₃
  have S₃ := S₂.onTO D hs₃.extBut ⟨_, _, _, hTO₃⟩
  refine wpAny_bind (wpAny_letGo (wpAny_pure ?_))
  refine wpAny_bind (wpAny_bind (wpAny_onRaise ?_))
  show wpAny _ _ (Builtin.SmallTypes.nextOf (.ref i2) >>= _) _ _ _
  refine wpAny_bind (wpAny_nextOf_list_item S₃.h2 S₃.hl2 hy fun h₄ h2₄ hs₄ => wpAny_pure ?_)
  have S₄ := S₃.on2 D hs₄.extBut h2₄
  have hTO₄ : IsTrip h₄ TO x b d := hs₄.extBut _ _ D.TOi2 hTO₃
  refine wpAny_bind (wpAny_seqItems hTO₄ rfl ?_)
  refine wpAny_bind (updateSeq_trip hTO₄ fun h₅ hTO₅ hs₅ => ?_)
  replace hTO₅ : IsTrip h₅ TO x y d := hTO₅
  have S₅ := S₄.onTO D hs₅.extBut ⟨_, _, _, hTO₅⟩
  refine wpAny_bind (wpAny_letGo (wpAny_pure ?_))
  refine wpAny_bind (wpAny_bind (wpAny_onRaise ?_))
  show wpAny _ _ (Builtin.SmallTypes.nextOf (.ref i3) >>= _) _ _ _
  refine wpAny_bind (wpAny_nextOf_list_item S₅.h3 S₅.hl3 hv fun h₆ h3₆ hs₆ => wpAny_pure ?_)
  have S₆ := S₅.on3 D hs₆.extBut h3₆
  have hTO₆ : IsTrip h₆ TO x y d := hs₆.extBut _ _ D.TOi3 hTO₅
  refine wpAny_bind (wpAny_seqItems hTO₆ rfl ?_)
  refine wpAny_bind (updateSeq_trip hTO₆ fun h₇ hTO₇ hs₇ => ?_)
  replace hTO₇ : IsTrip h₇ TO x y v := hTO₇
  have S₇ := S₆.onTO D hs₇.extBut ⟨_, _, _, hTO₇⟩
  refine wpAny_bind (wpAny_letGo (wpAny_pure (wpAny_pure ?_)))
  refine wpAny_bind (wpAny_seqItems hTO₇ rfl ?_)
  refine wpAny_bind (wpAny_newTuple ?_ (by show 3 ≤ sizeLine; decide +kernel))
  have hsz : h₇.objs.size = s.heap.objs.size := by rw [hs₇.1, hs₆.1, hs₅.1, hs₄.1, hs₃.1, hs₂.1, hs₁.1]
  have hz₇ : IsZip h₇ z TI TO .ellipsis := hs₇.extBut _ _ D.TOz.symm (hs₆.extBut _ _ D.i3z.symm (hs₅.extBut _ _ D.TOz.symm (hs₄.extBut _ _ D.i2z.symm (hs₃.extBut _ _ D.TOz.symm (hs₂.extBut _ _ D.i1z.symm hz₁)))))
  have hk₇ : Z3Keep z TO i1 i2 i3 s.heap h₇ := fun c o c1 c2 c3 c4 c5 e =>
    hs₇.extBut _ _ c2 (hs₆.extBut _ _ c5 (hs₅.extBut _ _ c2 (hs₄.extBut _ _ c4 (hs₃.extBut _ _ c2 (hs₂.extBut _ _ c3 (hs₁.extBut _ _ c1 e))))))
  have hzlt : z < h₇.objs.size := Heap.lt_size hz₇
  show wpAny _ _ (Builtin.SmallTypes.ownedTupleHandOut (.ref z) (.ref h₇.objs.size) >>= _) _ _ _
  refine wpAny_bind ?_
  unfold Builtin.SmallTypes.ownedTupleHandOut
  have hz₈ : IsZip (h₇.push { cls := .type "tuple", data := .seq #[x, y, v] }) z TI TO .ellipsis := Heap.get?_push_of_some _ hz₇
  refine wpAny_bind (wpAny_setField_rec hz₈ (by simp) fun h₉ hz₉ hs₉ => ?_)
  replace hz₉ : IsZip h₉ z TI TO (rawInt h₇.objs.size) := hz₉
  refine wpAny_setField_rec hz₉ (by simp) fun h₁₀ hz₁₀ hs₁₀ => ?_
  replace hz₁₀ : IsZip h₁₀ z TI TO (rawInt h₇.objs.size) := hz₁₀
  have up : Heap.ExtBut z h₇ h₁₀ := fun c o c1 e => hs₁₀.extBut _ _ c1 (hs₉.extBut _ _ c1 (Heap.get?_push_of_some _ e))
  have hT₁₀ : IsTrip h₁₀ h₇.objs.size x y v := hs₁₀.extBut _ _ (Nat.ne_of_gt hzlt) (hs₉.extBut _ _ (Nat.ne_of_gt hzlt) (Heap.get?_push_size _ rfl))
  rw [hsz] at hz₁₀ hT₁₀
  refine wpAny_pure ⟨_, rfl, ?_⟩
  show Q (.ref h₇.objs.size) _
  rw [hsz]
  exact hQ h₁₀ hz₁₀ (S₇.onz D up) hT₁₀ (fun c o c1 c2 c3 c4 c5 e => up c o c1 (hk₇ c o c1 c2 c3 c4 c5 e)) hne

theorem zip3_end {Q : Fin → Shared → Prop} (hh : A.handled = none) (D : Z3Apart z TI TO i1 i2 i3 l1 l2 l3) (hz : IsZip s.heap z TI TO .none) (S : Z3St z TI TO i1 i2 i3 l1 l2 l3 xs ys zs k1 k2 k3 s.heap) (hx : xs[k1]? = none)
    (hE : ∀ h' e, Z3Keep z TO i1 i2 i3 s.heap h' → (∃ o, h'.get? e = some o ∧ o.cls = .type "StopIteration") → E (.ref e) { s with heap := h' }) :
    wpAny (model prog w) A (Builtin.«zip.__next__» ⟨[.ref z], []⟩) Q E s := by
  show wpAny _ _ (field (.ref z) 2 >>= _) _ _ _
  refine wpAny_bind (wpAny_field hz rfl (x := .bool false) rfl ?_)
  show wpAny _ _ (field (.ref z) 3 >>= _) _ _ _
  refine wpAny_bind (wpAny_field hz rfl (x := .ref TI) rfl ?_)
  refine wpAny_bind (wpAny_seqItems S.hTI rfl ?_)
  show wpAny _ _ (Builtin.SmallTypes.ownedTupleIsFree (.ref z) >>= _) _ _ _
  refine wpAny_bind ?_
  unfold Builtin.SmallTypes.ownedTupleIsFree
  refine wpAny_bind (wpAny_field hz rfl (x := .none) rfl (wpAny_pure ?_))
  simp only [if_true]
  refine wpAny_bind (wpAny_rule ?_)
  refine wpAny_bind (wpAny_field hz rfl (x := .ref TO) rfl ?_)
  refine wpAny_bind (wpAny_setField_rec hz (by simp) fun h₁ hz₁ hs₁ => ?_)
  replace hz₁ : IsZip h₁ z TI TO .ellipsis := hz₁
  have S₁ := S.onz D hs₁.extBut
  refine wpAny_bind ?_
  simp only [List.zipIdx_cons, List.zipIdx_nil, List.forIn_cons, List.forIn_nil]
  refine wpAny_bind (wpAny_bind (wpAny_onRaise ?_))
  show wpAny _ _ (Builtin.SmallTypes.nextOf (.ref i1) >>= _) _ _ _
  refine wpAny_bind (wpAny_nextOf_list_end hh S₁.h1 S₁.hl1 hx fun h₂ e hs₂ he => ?_)
  obtain ⟨oe, hoe, hce⟩ := he
  have hz₂ : IsZip h₂ z TI TO .ellipsis := hs₂ _ _ D.i1z.symm hz₁
  have hez : e ≠ z := fun x => by subst x; rw [hz₂] at hoe; cases hoe; simp at hce
  exact wpAny_setField_rec hz₂ (by simp) fun h₃ _ hs₃ => hE h₃ e (fun c o c1 _ c3 _ _ x => hs₃.extBut _ _ c1 (hs₂ _ _ c3 (hs₁.extBut _ _ c1 x))) ⟨oe, hs₃.extBut _ _ hez hoe, hce⟩

theorem walks_zip3 (hh : A.handled = none) (D : Z3Apart z TI TO i1 i2 i3 l1 l2 l3) (e1 : ys.size = xs.size) (e2 : zs.size = xs.size) :
    WalksT prog w A z [z, TI, TO, i1, i2, i3, l1, l2, l3] [z, TO, i1, i2, i3] xs.size
      (fun i vals => ∃ x y v, xs[i]? = some x ∧ ys[i]? = some y ∧ zs[i]? = some v ∧ vals = #[x, y, v])
      (fun i h => IsZip h z TI TO .none ∧ Z3St z TI TO i1 i2 i3 l1 l2 l3 xs ys zs i i i h)
      (fun i T h => IsZip h z TI TO (rawInt T) ∧ Z3St z TI TO i1 i2 i3 l1 l2 l3 xs ys zs (i + 1) (i + 1) (i + 1) h ∧ T ≠ z ∧ T ≠ TO ∧ T ≠ i1 ∧ T ≠ i2 ∧ T ≠ i3) where
  sub := fun c hc => by simp at hc ⊢; rcases hc with rfl | rfl | rfl | rfl | rfl <;> simp
  frame := fun i h h' hst hk => by
    obtain ⟨hz, S⟩ := hst
    exact ⟨hk z (by simp) _ hz, hk TI (by simp) _ S.hTI, let ⟨a, b, d, q⟩ := S.hTO; ⟨a, b, d, hk TO (by simp) _ q⟩, S.h1.at fun o e => hk i1 (by simp) o e, S.h2.at fun o e => hk i2 (by simp) o e, S.h3.at fun o e => hk i3 (by simp) o e,
      S.hl1.at fun o e => hk l1 (by simp) o e, S.hl2.at fun o e => hk l2 (by simp) o e, S.hl3.at fun o e => hk l3 (by simp) o e⟩
  item := fun i s Q E hi hst hQ => by
    obtain ⟨hz, S⟩ := hst
    have hT : s.TypeIs (.ref z) "zip" := ⟨_, hz, rfl⟩
    have hx := Array.getElem?_eq_getElem (xs := xs) hi
    have hy := Array.getElem?_eq_getElem (xs := ys) (e1 ▸ hi)
    have hv := Array.getElem?_eq_getElem (xs := zs) (e2 ▸ hi)
    unfold pyNext
    exact wpAny_bind (wpAny_attempt (wpAny_callSpecial?_slot (name := Str.ofString "__next__") hT F.slot_zip_next
      (wpAny_call_entry F.slot_zip_next hT F.entry_zip_next
        (zip3_item D hz S hx hy hv fun h' hz' S' hT' kk ne => wpAny_pure (hQ s.heap.objs.size _ h' s.toks ⟨_, _, _, hx, hy, hv, rfl⟩ (Nat.le_refl _) ⟨_, hT', rfl, _, rfl⟩ ⟨hz', S', ne⟩
          fun c o hc e => kk c o (fun x => hc (by simp [x])) (fun x => hc (by simp [x])) (fun x => hc (by simp [x])) (fun x => hc (by simp [x])) (fun x => hc (by simp [x])) e)) (F.args_zip_next_1 _))))
  go := fun elts k pos i T s Q E hm hQ => by
    obtain ⟨hz, S, _⟩ := hm
    exact wpAny_letOwnedTupleGo_zip hz fun h' hz' hs' => hQ h' ⟨hz', S.onz D hs'.extBut⟩ fun c o hc e => hs'.extBut _ _ (fun x => hc (by simp [x])) e
  apart := fun i T h hm hT => by
    obtain ⟨_, _, t1, t2, t3, t4, t5⟩ := hm
    simp at hT
    rcases hT with q | q | q | q | q
    · exact t1 q
    · exact t2 q
    · exact t3 q
    · exact t4 q
    · exact t5 q
  done := fun s Q E hst hQ => by
    obtain ⟨hz, S⟩ := hst
    have hT : s.TypeIs (.ref z) "zip" := ⟨_, hz, rfl⟩
    unfold pyNext
    refine wpAny_bind (wpAny_attempt (wpAny_callSpecial?_slot (name := Str.ofString "__next__") hT F.slot_zip_next
      (wpAny_call_entry F.slot_zip_next hT F.entry_zip_next (zip3_end hh D hz S (by simp) fun h' e hk he => ?_) (F.args_zip_next_1 _))))
    obtain ⟨o, ho, hc⟩ := he
    refine wpAny_bind (wpAny_isInstance (T := "StopIteration") (b := true) ⟨o, ho, hc⟩ isSubtype_stop ?_)
    exact wpAny_pure (hQ h' s.toks fun c o hc e => hk c o (fun x => hc (by simp [x])) (fun x => hc (by simp [x])) (fun x => hc (by simp [x])) (fun x => hc (by simp [x])) (fun x => hc (by simp [x])) e)
  self := fun i s Q E hst hQ => wpAny_pyIter_zip hst.1 hQ
end

section
variable {c : Cx} {n : Nat} {sc : Scope} {ρ : Str → Option D}
noncomputable def zip3With {α : Type} : List α → List α → List α → List (List α)
  | a :: l, b :: r, d :: q => [a, b, d] :: zip3With l r q
  | _, _, _ => []
theorem zip3With_length {α : Type} : ∀ {l r q : List α}, r.length = l.length → q.length = l.length → (zip3With l r q).length = l.length
  | [], _, _, _, _ => by simp [zip3With]
  | a :: l, b :: r, d :: q, h1, h2 => by simp [zip3With]; exact zip3With_length (by simpa using h1) (by simpa using h2)
  | a :: l, [], _, h1, _ => by simp at h1
  | a :: l, b :: r, [], _, h2 => by simp at h2
theorem zip3With_get {α : Type} : ∀ {l r q : List α} {i : Nat} {g : List α}, (zip3With l r q)[i]? = some g → ∃ a b d, l[i]? = some a ∧ r[i]? = some b ∧ q[i]? = some d ∧ g = [a, b, d]
  | a :: l, b :: r, d :: q, 0, g, h => ⟨a, b, d, rfl, rfl, rfl, by simpa [zip3With] using h.symm⟩
  | a :: l, b :: r, d :: q, i + 1, g, h => by simpa using zip3With_get (l := l) (r := r) (q := q) (i := i) (by simpa [zip3With] using h)
  | [], _, _, i, g, h => by simp [zip3With] at h
  | _ :: _, [], _, i, g, h => by simp [zip3With] at h
  | _ :: _, _ :: _, [], i, g, h => by simp [zip3With] at h

theorem ItEv.zip3 {x : Str} {p pos tp : Pos} {e₁ e₂ e₃ : Expr} {elts : List Expr} {kk : Nat} {d₁ d₂ d₃ : List D} (hf : Ev c n sc ρ (.Name x p) (.val (.type "zip"))) (ha : Evs c n sc ρ [e₁, e₂, e₃] [.list d₁, .list d₂, .list d₃])
    (hl2 : d₂.length = d₁.length) (hl3 : d₃.length = d₁.length)
    (he : ∀ env, starEach [e₁, e₂, e₃] env = (false, eval e₁ env) :: starEach [e₂, e₃] env := by intro _; rfl) (hp : ∀ env, (backTo pos (starEach [e₂, e₃] env)).any (·.1) = false := by intro _; rfl) :
    ItEv c n sc ρ (.Call (.Name x p) [e₁, e₂, e₃] [] pos) (.Tuple elts kk tp) (zip3With d₁ d₂ d₃) := fun F A s env k => by
  refine W.callName k hf trivial ha (fun vs h₂ t₂ e₂ rs => ?_) he hp
  obtain ⟨v₁, v₂, v₃, rfl, r₁, r₂, r₃⟩ := rs.threeInv
  obtain ⟨a₁, vs₁, rfl, nf₁, il₁, rs₁⟩ := r₁.listInv
  obtain ⟨a₂, vs₂, rfl, nf₂, il₂, rs₂⟩ := r₂.listInv
  obtain ⟨a₃, vs₃, rfl, nf₃, il₃, rs₃⟩ := r₃.listInv
  have hh := k.ok.room.handled
  have ok₂ := k.ok.ext e₂
  have l1 : @LT.lt Nat _ a₁ h₂.objs.size := by obtain ⟨o, e, _⟩ := il₁; exact Heap.lt_size e
  have l2 : @LT.lt Nat _ a₂ h₂.objs.size := by obtain ⟨o, e, _⟩ := il₂; exact Heap.lt_size e
  have l3 : @LT.lt Nat _ a₃ h₂.objs.size := by obtain ⟨o, e, _⟩ := il₃; exact Heap.lt_size e
  refine call_zip_3 (s := { s with heap := h₂, toks := t₂ }) il₁ il₂ il₃ fun h₃ hz hTI hTO hi1 hi2 hi3 hk => ⟨h₃, t₂, rfl, hk, fun tk => ?_⟩
  dsimp only at hz hTI hTO hi1 hi2 hi3 hk
  have new : ∀ a : Nat, h₂.objs.size ≤ a → h₂.get? a = none := fun a q => fresh_ge q
  generalize h₂.objs.size = N at *
  refine wpAny_pyIter_zip (s := { s with heap := h₃, toks := tk }) hz ⟨h₃, tk, rfl, Ext.refl _, h₂, e₂, hk, ?_⟩
  have D : Z3Apart (N + 5) (N + 3) (N + 4) N (N + 1) (N + 2) a₁ a₂ a₃ := by
    constructor <;> first | (show @Ne Nat _ _; omega) | (refine ⟨?_, ?_, ?_, ?_, ?_⟩ <;> (show @Ne Nat _ _; omega))
  refine Src.ofWalksT (walks_zip3 (xs := vs₁.toArray) (ys := vs₂.toArray) (zs := vs₃.toArray) hh D (by simp [rs₁.length, rs₂.length, hl2]) (by simp [rs₁.length, rs₃.length, hl3])) ?_ ⟨hz, hTI, ⟨_, _, _, hTO⟩, hi1, hi2, hi3, il₁.at fun o e => hk _ o e, il₂.at fun o e => hk _ o e, il₃.at fun o e => hk _ o e⟩ ?_ ?_ ?_ ?_
  · rw [zip3With_length hl2 hl3, List.size_toArray, rs₁.length]
  · intro b hb
    simp only [List.mem_cons, List.not_mem_nil, or_false] at hb
    have nw : ∀ a : Nat, N ≤ a → ¬ F a := fun a q => ok₂.new (new a q)
    rcases hb with rfl | rfl | rfl | rfl | rfl | rfl | rfl | rfl | rfl
    · exact ⟨nw _ (by omega), _, hz⟩
    · exact ⟨nw _ (by omega), _, hTI⟩
    · exact ⟨nw _ (by omega), _, hTO⟩
    · obtain ⟨o, e, _⟩ := hi1; exact ⟨nw _ (by omega), _, e⟩
    · obtain ⟨o, e, _⟩ := hi2; exact ⟨nw _ (by omega), _, e⟩
    · obtain ⟨o, e, _⟩ := hi3; exact ⟨nw _ (by omega), _, e⟩
    · obtain ⟨o, e, _⟩ := il₁; exact ⟨nf₁, _, hk _ _ e⟩
    · obtain ⟨o, e, _⟩ := il₂; exact ⟨nf₂, _, hk _ _ e⟩
    · obtain ⟨o, e, _⟩ := il₃; exact ⟨nf₃, _, hk _ _ e⟩
  · intro b hb
    simp only [List.mem_cons, List.not_mem_nil, or_false] at hb
    rcases hb with rfl | rfl | rfl | rfl | rfl <;> exact new _ (by omega)
  · intro i h st b hb
    obtain ⟨hz, S⟩ := st
    simp only [List.mem_cons, List.not_mem_nil, or_false] at hb
    rcases hb with rfl | rfl | rfl | rfl | rfl
    · exact ⟨_, hz⟩
    · obtain ⟨a, b, d, q⟩ := S.hTO; exact ⟨_, q⟩
    · obtain ⟨o, e, _⟩ := S.h1; exact ⟨_, e⟩
    · obtain ⟨o, e, _⟩ := S.h2; exact ⟨_, e⟩
    · obtain ⟨o, e, _⟩ := S.h3; exact ⟨_, e⟩
  · intro F' i vals h' row hF kk hP hr
    obtain ⟨x, y, v, hx, hy, hv, rfl⟩ := hP
    obtain ⟨d, d', d'', hd, hd', hd'', rfl⟩ := zip3With_get hr
    obtain ⟨w₁, hw₁, r⟩ := rs₁.get hd
    obtain ⟨w₂, hw₂, r'⟩ := rs₂.get hd'
    obtain ⟨w₃, hw₃, r''⟩ := rs₃.get hd''
    have hx' : vs₁[i]? = some x := by simpa using hx
    have hy' : vs₂[i]? = some y := by simpa using hy
    have hv' : vs₃[i]? = some v := by simpa using hv
    rw [hw₁] at hx'; cases hx'
    rw [hw₂] at hy'; cases hy'
    rw [hw₃] at hv'; cases hv'
    exact Reps.cons (Rep.keep kk _ (Rep.sub hF _ r)) (Reps.cons (Rep.keep kk _ (Rep.sub hF _ r')) (Reps.one (Rep.keep kk _ (Rep.sub hF _ r''))))
end
end Qp
namespace Qp
open PySem PySem.Calls PyProof.Rows PySem.W

noncomputable def WX (c : Cx) (A : Around) (s : Shared) (P : Addr → Prop) {α : Type} (t : Sem α) (Q : α → Heap → Prop) : Prop :=
  wpAny (model c.prog c.w) A t (fun a s' => ∃ h' tk, s' = { s with heap := h', toks := tk } ∧ ExtP P s.heap h' ∧ Q a h') (fun _ _ => False) s
theorem WX.use {c : Cx} {A : Around} {s : Shared} {P : Addr → Prop} {α : Type} {t : Sem α} {Q : α → Heap → Prop} {Q' : α → Shared → Prop} {E : Value → Shared → Prop} (x : WX c A s P t Q)
    (h : ∀ a h' tk, ExtP P s.heap h' → Q a h' → Q' a { s with heap := h', toks := tk }) : wpAny (model c.prog c.w) A t Q' E s :=
  wpAny_mono x (fun a s' q => let ⟨h', tk, e, ex, q⟩ := q; e ▸ h a h' tk ex q) fun _ _ f => f.elim

/-- a bound list.append -/
noncomputable def IsAppend (h : Heap) (ma la : Addr) : Prop := ∃ o vs, h.get? ma = some o ∧ o.cls = .type "builtin_function_or_method" ∧ o.data = .fields vs ∧ vs[0]? = some (.builtin "list.append") ∧ vs[1]? = some (.ref la)
noncomputable def AccOK (F P : Addr → Prop) (h : Heap) (kc : Option (Addr × Addr)) (ac : List D) : Prop := match kc with
  | none => True
  | some (la, ma) => P la ∧ (∃ vs, h.IsList la vs.toArray ∧ Reps F h vs ac) ∧ ¬ P ma ∧ IsAppend h ma la
structure SM (F P : Addr → Prop) (env : Env) (own : Str → Prop) (kc : Option (Addr × Addr)) (ρ : Str → Option D) (ac : List D) (h : Heap) : Prop where
  fm : Fm F P env own ρ h
  acc : AccOK F P h kc ac
noncomputable def MP (env : Env) (own : Str → Prop) (kc : Option (Addr × Addr)) (a : Addr) : Prop := FrameP env own a ∨ ∃ ma, kc = some (a, ma)
theorem SM.mp {F P : Addr → Prop} {env : Env} {own : Str → Prop} {kc : Option (Addr × Addr)} {ρ : Str → Option D} {ac : List D} {h : Heap} (x : SM F P env own kc ρ ac h) {a : Addr} (q : MP env own kc a) : P a := by
  rcases q with q | ⟨ma, rfl⟩
  · exact x.fm.frameP q
  · exact x.acc.1
theorem AccOK.ext {F P : Addr → Prop} {h h' : Heap} {kc : Option (Addr × Addr)} {ac : List D} (x : AccOK F P h kc ac) (e : Ext h h') : AccOK F P h' kc ac := by
  match kc, x with
  | none, _ => trivial
  | some (la, ma), ⟨p, ⟨vs, il, rs⟩, np, o, ws, g, r⟩ => exact ⟨p, ⟨vs, il.at fun o q => e _ o q, rs.ext e⟩, np, o, ws, e _ _ g, r⟩
theorem SM.ext {F P : Addr → Prop} {env : Env} {own : Str → Prop} {kc : Option (Addr × Addr)} {ρ : Str → Option D} {ac : List D} {h h' : Heap} (x : SM F P env own kc ρ ac h) (e : Ext h h') : SM F P env own kc ρ ac h' := ⟨x.fm.ext e, x.acc.ext e⟩
/-- the frame's own things turn, the list does not -/
theorem SM.frame {F P : Addr → Prop} {env : Env} {own : Str → Prop} {kc : Option (Addr × Addr)} {ρ ρ' : Str → Option D} {ac : List D} {h h' : Heap} (x : SM F P env own kc ρ ac h) (e : ExtP (FrameP env own) h h') (f : Fm F P env own ρ' h') : SM F P env own kc ρ' ac h' := by
  refine ⟨f, ?_⟩
  match kc, x.acc with
  | none, _ => trivial
  | some (la, ma), ⟨p, ⟨vs, il, rs⟩, np, o, ws, g, r⟩ =>
    refine ⟨p, ⟨vs, il.at fun o q => e.1 _ o (fun z => ?_) q, Reps.keep (fun b o nf q => e.1 b o (fun z => nf (x.fm.sub _ (x.fm.frameP z))) q) _ rs⟩, np, o, ws, e.1 _ _ (fun z => np (x.fm.frameP z)) g, r⟩
    rcases z with z | ⟨y, ow, l⟩
    · obtain ⟨m, hn, _⟩ := x.fm.fr.ns
      exact list_ne_ns hn il z
    · obtain ⟨_, a, v, l', ⟨o', g', hd⟩, _⟩ := x.fm.cell y ow
      rw [l] at l'; cases l'
      exact list_ne_cell il g' hd rfl

inductive Out where
  | next (ρ : Str → Option D) (ac : List D)
  | cont (ρ : Str → Option D) (ac : List D)
  | ret (d : D)
noncomputable def OutOK (F P : Addr → Prop) (env : Env) (own : Str → Prop) (kc : Option (Addr × Addr)) (h : Heap) (fl : Flow) : Out → Prop
  | .next ρ ac => fl = .next ∧ SM F P env own kc ρ ac h
  | .cont ρ ac => fl = .cont ∧ SM F P env own kc ρ ac h
  | .ret d => ∃ v, fl = .ret v ∧ Rep F h v d
structure AtS (c : Cx) (n : Nat) (F P : Addr → Prop) (A : Around) (env : Env) (sc : Scope) (own : Str → Prop) (kc : Option (Addr × Addr)) (ρ : Str → Option D) (ac : List D) (h : Heap) : Prop where
  ok : Ok c n F A h
  scope : env.scope = sc
  eok : EnvOK env
  sm : SM F P env own kc ρ ac h
noncomputable def Ex (c : Cx) (n : Nat) (sc : Scope) (own : Str → Prop) (kc : Option (Addr × Addr)) (ρ : Str → Option D) (ac : List D) (st : Stmt) (out : Out) : Prop :=
  ∀ (F P : Addr → Prop) (A : Around) (s : Shared) (env : Env), AtS c n F P A env sc own kc ρ ac s.heap → WX c A s (MP env own kc) (exec st env) fun fl h' => OutOK F P env own kc h' fl out
noncomputable def Exs (c : Cx) (n : Nat) (sc : Scope) (own : Str → Prop) (kc : Option (Addr × Addr)) (ρ : Str → Option D) (ac : List D) (st : List Stmt) (out : Out) : Prop :=
  ∀ (F P : Addr → Prop) (A : Around) (s : Shared) (env : Env), AtS c n F P A env sc own kc ρ ac s.heap → WX c A s (MP env own kc) (execs st env) fun fl h' => OutOK F P env own kc h' fl out

section
variable {c : Cx} {n : Nat} {sc : Scope} {own : Str → Prop} {kc : Option (Addr × Addr)} {ρ ρ' : Str → Option D} {ac ac' : List D} {out : Out}
theorem AtS.at {F P : Addr → Prop} {A : Around} {env : Env} {h : Heap} (k : AtS c n F P A env sc own kc ρ ac h) : At c n F A env sc ρ h := ⟨k.ok, k.scope, k.eok, k.sm.fm.fr⟩
theorem AtS.ext {F P : Addr → Prop} {A : Around} {env : Env} {h h' : Heap} (k : AtS c n F P A env sc own kc ρ ac h) (e : Ext h h') : AtS c n F P A env sc own kc ρ ac h' := ⟨k.ok.ext e, k.scope, k.eok, k.sm.ext e⟩
theorem AtS.to {F P : Addr → Prop} {A : Around} {env : Env} {h h' : Heap} (k : AtS c n F P A env sc own kc ρ ac h) (e : ExtP (MP env own kc) h h') (sm : SM F P env own kc ρ' ac' h') : AtS c n F P A env sc own kc ρ' ac' h' :=
  ⟨k.ok.extP e fun a q => k.sm.fm.sub a (k.sm.mp q), k.scope, k.eok, sm⟩

theorem Exs.nil : Exs c n sc own kc ρ ac [] (.next ρ ac) := fun F P A s env k => wpAny_execs_nil ⟨s.heap, s.toks, rfl, ExtP.refl _ _, rfl, k.sm⟩
theorem Exs.cons {st : Stmt} {rest : List Stmt} (x : Ex c n sc own kc ρ ac st (.next ρ' ac')) (y : Exs c n sc own kc ρ' ac' rest out) : Exs c n sc own kc ρ ac (st :: rest) out := fun F P A s env k =>
  wpAny_execs_cons ((x F P A s env k).use fun fl h₁ t₁ e₁ q => by
    obtain ⟨rfl, sm⟩ := q
    exact (y F P A { s with heap := h₁, toks := t₁ } env (k.to e₁ sm)).use fun fl h₂ t₂ e₂ q => ⟨h₂, t₂, rfl, e₁.trans e₂, q⟩)
theorem Exs.ret {st : Stmt} {rest : List Stmt} {d : D} (x : Ex c n sc own kc ρ ac st (.ret d)) : Exs c n sc own kc ρ ac (st :: rest) (.ret d) := fun F P A s env k =>
  wpAny_execs_cons ((x F P A s env k).use fun fl h₁ t₁ e₁ q => by
    obtain ⟨v, rfl, r⟩ := q
    exact ⟨h₁, t₁, rfl, e₁, v, rfl, r⟩)
theorem Exs.cont {st : Stmt} {rest : List Stmt} (x : Ex c n sc own kc ρ ac st (.cont ρ' ac')) : Exs c n sc own kc ρ ac (st :: rest) (.cont ρ' ac') := fun F P A s env k =>
  wpAny_execs_cons ((x F P A s env k).use fun fl h₁ t₁ e₁ q => by
    obtain ⟨rfl, sm⟩ := q
    exact ⟨h₁, t₁, rfl, e₁, rfl, sm⟩)
theorem Ex.retE {e : Expr} {pos : Pos} {d : D} (x : Ev c n sc ρ e d) : Ex c n sc own kc ρ ac (.Return (some e) pos) (.ret d) := fun F P A s env k =>
  wpAny_Return_some ((x F A s env k.at).use fun v h₁ t₁ e₁ r => ⟨h₁, t₁, rfl, e₁.p, v, rfl, r⟩)
theorem Ex.contE {pos : Pos} : Ex c n sc own kc ρ ac (.Continue pos) (.cont ρ ac) := fun F P A s env k => wpAny_Continue ⟨s.heap, s.toks, rfl, ExtP.refl _ _, rfl, k.sm⟩
theorem Ex.ifT {t : Expr} {body orelse : List Stmt} {pos : Pos} (x : Tr c n sc ρ t true) (y : Exs c n sc own kc ρ ac body out) : Ex c n sc own kc ρ ac (.If t body orelse pos) out := fun F P A s env k =>
  wpAny_If ((x F A s env k.at).use fun b h₁ t₁ e₁ q => by
    subst q
    exact (y F P A { s with heap := h₁, toks := t₁ } env (k.ext e₁)).use fun fl h₂ t₂ e₂ q => ⟨h₂, t₂, rfl, e₁.p.trans e₂, q⟩)
theorem Ex.ifF {t : Expr} {body orelse : List Stmt} {pos : Pos} (x : Tr c n sc ρ t false) (y : Exs c n sc own kc ρ ac orelse out) : Ex c n sc own kc ρ ac (.If t body orelse pos) out := fun F P A s env k =>
  wpAny_If ((x F A s env k.at).use fun b h₁ t₁ e₁ q => by
    subst q
    exact (y F P A { s with heap := h₁, toks := t₁ } env (k.ext e₁)).use fun fl h₂ t₂ e₂ q => ⟨h₂, t₂, rfl, e₁.p.trans e₂, q⟩)

theorem kind_of {env : Env} {x : Str} (hs : env.scope = sc) (h : sc.names.lookup x = some .local ∨ own x) : env.kindOf x = some .local ∨ own x := h.imp (fun z => by unfold Env.kindOf; rw [hs]; exact z) id

theorem Ex.assign {x : Str} {p pos : Pos} {e : Expr} {d : D} (h : Ev c n sc ρ e d) (hx : sc.names.lookup x = some .local ∨ own x) (hs : ∀ env, env.scope = sc → swapsWith e (some (.Name x p)) pos.line env = pure false) :
    Ex c n sc own kc ρ ac (.Assign [.Name x p] e pos) (.next (upd ρ x d) ac) := fun F P A s env k =>
  wpAny_Assign_Name ((h F A s env k.at).use fun v h₁ t₁ e₁ r => by
    refine Fm.store (s := { s with heap := h₁, toks := t₁ }) (k.sm.fm.ext e₁) k.eok.kind (kind_of k.scope hx) r fun h₂ t₂ e₂ f₂ => ?_
    exact ⟨h₂, t₂, rfl, e₁.p.trans (e₂.mono fun a q => .inl q), rfl, (k.sm.ext e₁).frame e₂ f₂⟩) (hs env k.scope)
theorem Ex.aug {x : Str} {p pos : Pos} {op : Operator} {e : Expr} {a b d : D} (hl : sc.names.lookup x = some .local) (hr : ρ x = some a) (h : Ev c n sc ρ e b) (f : Op2 c n (inplaceOp op) a b d) :
    Ex c n sc own kc ρ ac (.AugAssign (.Name x p) op e pos) (.next (upd ρ x d) ac) := fun F P A s env k => by
  obtain ⟨m, hn, q⟩ := k.sm.fm.fr.ns
  have hl' : env.kindOf x = some .local := by unfold Env.kindOf; rw [k.scope]; exact hl
  obtain ⟨v, e', r⟩ := q x a hl' hr
  refine wpAny_AugAssign_Name (wpAny_loadName_local k.eok.kind hl' hn e' ((h F A s env k.at).use fun vb h₁ t₁ e₁ rb => (f F A { s with heap := h₁, toks := t₁ } v vb (k.ok.ext e₁) (r.ext e₁) rb).use fun vd h₂ t₂ e₂ rd => ?_))
  refine Fm.store (s := { s with heap := h₂, toks := t₂ }) ((k.sm.fm.ext e₁).ext e₂) k.eok.kind (.inl hl') rd fun h₃ t₃ e₃ f₃ => ?_
  exact ⟨h₃, t₃, rfl, (e₁.p.trans e₂.p).trans (e₃.mono fun a q => .inl q), rfl, ((k.sm.ext e₁).ext e₂).frame e₃ f₃⟩

/-- a comprehension assigned to a local name: stock exchanges the stores -/
theorem Ex.assignComp {x : Str} {px spos : Pos} {elt target iter : Expr} {ifs : List Expr} {rest : List Comprehension} {pos p : Pos} {inner : Env → Value → Sem Fin → Sem Fin} {xs : List Str} {rows : List (List D)} {f : List D → List D} {scope : Scope}
    (t : Tgt target xs) (te : ∀ it acc env, compTurn (.ListComp elt (⟨target, iter, ifs, 0⟩ :: rest) scope pos) 0 it acc env = turnOf (.ListComp elt (⟨target, iter, ifs, 0⟩ :: rest) scope pos) 0 p target ifs inner it acc env)
    (src : ItEv c n sc ρ iter target rows) (k : CompOK sc ρ scope xs)
    (hrow : ∀ row ∈ rows, row.length = xs.length ∧ ∃ b, Ts c n (relabelS scope sc) (upds (restr ρ scope) xs row) ifs b ∧
      (b = true → Act c n (relabelS scope sc) (fun x => (x, NameKind.cell) ∈ scope.names) (upds (restr ρ scope) xs row) inner (f row)) ∧ (b = false → f row = []))
    (hlen : (rows.flatMap f).length ≤ sizeLine) (hl : sc.names.lookup x = some .local)
    (hsw : ∀ env, env.scope = sc → swapsWith (.ListComp elt (⟨target, iter, ifs, 0⟩ :: rest) scope pos) (some (.Name x px)) spos.line env = pure true) (hs : ∀ env x, foldedSetIterable iter env x = pure x) :
    Ex c n sc own none ρ ac (.Assign [.Name x px] (.ListComp elt (⟨target, iter, ifs, 0⟩ :: rest) scope pos) spos) (.next (upd ρ x (.list (rows.flatMap f))) ac) := fun F P A s env at' => by
  show wpAny _ A _ _ _ s
  rw [exec_Assign_Name_used _ _ _ _ (hsw env at'.scope)]
  refine wpAny_bind (wpAny_standAt (wpAny_bind ?_))
  show wpAny _ A (do let _ ← comprehension (.ListComp elt (⟨target, iter, ifs, 0⟩ :: rest) scope pos) scope env _ (newList []) false (eval iter env) (some (PySem.assign (.Name x px) env))) _ _ s
  refine wpAny_bind (wpAny_mono (wpAny_comprehension_free (use := some (PySem.assign (.Name x px) env)) (Q := fun _ s' => ∃ h' tk, s' = { s with heap := h', toks := tk } ∧ ExtP (MP env own none) s.heap h' ∧ SM F P env own none (upd ρ x (.list (rows.flatMap f))) ac h') rfl (hs env) (closure_eq (freeCells at'.at k.fo)) k.kind (loc_lookup k.nd)
    (comp_core t te (fun _ _ _ => rfl) (fun _ _ _ => rfl) rfl rfl src k.kind k.nd k.fo k.mem hrow hlen at'.at (E := fun _ _ => False) ?_)) (fun _ s' hq => wpAny_pure (wpAny_pure (let ⟨h', tk, e, x, sm⟩ := hq; ⟨h', tk, e, x, rfl, sm⟩))) fun _ _ e => e)
  intro acc C h' tk vs m ex an cn ne il rs hn
  have hl' : env.kindOf x = some .local := by unfold Env.kindOf; rw [at'.scope]; exact hl
  have sm' := at'.sm.ext ex
  have r' : Rep F h' (.ref acc) (.list (rows.flatMap f)) := by
    simp only [Rep]
    exact ⟨acc, vs, rfl, at'.ok.new an, il, Reps.sub (fun a q => .inl (.inl q)) _ rs⟩
  -- a frame that keeps C apart
  have hCL : C ≠ env.locals := fun q => by
    obtain ⟨m', hn', _⟩ := at'.sm.fm.fr.ns
    obtain ⟨o, _, _, e, _⟩ := hn'
    rw [← q, cn] at e; cases e
  show wpAny _ A (PySem.assign (.Name x px) env (.ref acc)) _ _ _
  have f' : Fm (fun a => F a ∨ a = C) P env own ρ h' := by
    have f := at'.sm.fm
    have sb : ∀ a, (F a ∨ a = C) → F a ∨ s.heap.get? a = none := fun a q => q.imp id fun z => by rw [z]; exact cn
    refine ⟨⟨?_, fun y d e r => ?_, fun y a l => let ⟨o, e⟩ := f.fr.lv y a l; ⟨o, ex _ _ e⟩⟩, fun a q => .inl (f.sub a q), f.loc, f.apart, fun y o => ?_⟩
    · obtain ⟨m', hn', q⟩ := f.fr.ns
      exact ⟨m', hn'.keeps ex, fun y d e r => let ⟨v, e', z⟩ := q y d e r; ⟨v, e', (Rep.sub sb _ z).ext ex⟩⟩
    · obtain ⟨a, o, v, l, g, hd, z⟩ := f.fr.cl y d e r
      exact ⟨a, o, v, l, ex _ _ g, hd, (Rep.sub sb _ z).ext ex⟩
    · obtain ⟨kk, a, v, l, ic, p⟩ := f.cell y o
      exact ⟨kk, a, v, l, ic.keeps ex, p⟩
  have r'' : Rep (fun a => F a ∨ a = C) h' (.ref acc) (.list (rows.flatMap f)) := by
    simp only [Rep]
    exact ⟨acc, vs, rfl, fun q => q.elim (at'.ok.new an) ne, il, Reps.sub (fun a q => .inl (q.imp id fun z => .inl z)) _ rs⟩
  refine wpAny_assign_Name (Fm.store (s := { s with heap := h', toks := tk }) f' at'.eok.kind (.inl hl') r'' fun h₂ t₂ e₂ f₂ => ?_)
  have hCf : ¬ FrameP env own C := fun q => by
    rcases q with q | ⟨y, ow, l⟩
    · exact hCL q
    · obtain ⟨_, a, v, l', ⟨o, g, _⟩, _⟩ := at'.sm.fm.cell y ow
      rw [l] at l'; cases l'
      rw [cn] at g; cases g
  refine ⟨m, hn.at' fun o e => e₂.1 _ o hCf e, fun h'' hs'' => ⟨h'', t₂, rfl, ?_, ?_⟩⟩
  · refine ⟨fun b o nb e => hs''.extBut b o (fun q => by rw [q, cn] at e; cases e) (e₂.1 b o (fun q => nb (.inl q)) (ex b o e)), fun b o e => ?_⟩
    obtain ⟨o', e'⟩ := e₂.2 b o (ex b o e)
    exact ⟨o', hs''.extBut b o' (fun q => by rw [q, cn] at e; cases e) e'⟩
  · have f₃ : Fm (fun a => F a ∨ a = C) P env own (upd ρ x (.list (rows.flatMap f))) h'' :=
      f₂.off (fun a => a = C) (fun b q => .inr q) (fun q => hCL q.symm) (fun y a l q => by obtain ⟨o, e⟩ := at'.sm.fm.fr.lv y a l; rw [q, cn] at e; cases e) fun b o nb e => hs''.extBut b o nb e
    have f₄ : Fm F P env own (upd ρ x (.list (rows.flatMap f))) h'' := ⟨⟨let ⟨m, hn, q⟩ := f₃.fr.ns; ⟨m, hn, fun y d e r => let ⟨v, e', z⟩ := q y d e r; ⟨v, e', Rep.sub (fun a q => .inl (.inl q)) _ z⟩⟩,
        fun y d e r => let ⟨a, o, v, l, g, hd, z⟩ := f₃.fr.cl y d e r; ⟨a, o, v, l, g, hd, Rep.sub (fun a q => .inl (.inl q)) _ z⟩, f₃.fr.lv⟩, at'.sm.fm.sub, f₃.loc, f₃.apart, f₃.cell⟩
    exact ⟨f₄, trivial⟩
end
end Qp
namespace Qp
open PySem PySem.Calls PyProof.Rows PySem.W

section
variable {c : Cx} {n : Nat} {sc : Scope} {own : Str → Prop} {kc : Option (Addr × Addr)}
noncomputable def Fors (c : Cx) (n : Nat) (sc : Scope) (own : Str → Prop) (kc : Option (Addr × Addr)) (xs : List Str) (body : List Stmt) : List (List D) → (Str → Option D) → List D → Out → Prop
  | [], ρ, ac, out => out = .next ρ ac
  | row :: rows, ρ, ac, out => (∃ ρ' ac', (Exs c n sc own kc (upds ρ xs row) ac body (.next ρ' ac') ∨ Exs c n sc own kc (upds ρ xs row) ac body (.cont ρ' ac')) ∧ Fors c n sc own kc xs body rows ρ' ac' out) ∨
      (∃ d, Exs c n sc own kc (upds ρ xs row) ac body (.ret d) ∧ out = .ret d)

theorem Fm.sub' {F F' P : Addr → Prop} {env : Env} {ρ : Str → Option D} {h : Heap} (f : Fm F' P env own ρ h) (k : ∀ a, F a → F' a ∨ h.get? a = none) (p : ∀ a, P a → F a) : Fm F P env own ρ h :=
  ⟨⟨let ⟨m, hn, q⟩ := f.fr.ns; ⟨m, hn, fun y d e r => let ⟨v, e', z⟩ := q y d e r; ⟨v, e', Rep.sub k _ z⟩⟩,
    fun y d e r => let ⟨a, o, v, l, g, hd, z⟩ := f.fr.cl y d e r; ⟨a, o, v, l, g, hd, Rep.sub k _ z⟩, f.fr.lv⟩, p, f.loc, f.apart, f.cell⟩
theorem SM.sub' {F F' P : Addr → Prop} {env : Env} {ρ : Str → Option D} {ac : List D} {h : Heap} (x : SM F' P env own kc ρ ac h) (k : ∀ a, F a → F' a ∨ h.get? a = none) (p : ∀ a, P a → F a) : SM F P env own kc ρ ac h := by
  refine ⟨x.fm.sub' k p, ?_⟩
  match kc, x.acc with
  | none, _ => trivial
  | some (la, ma), ⟨p, ⟨vs, il, rs⟩, np, r⟩ => exact ⟨p, ⟨vs, il, Reps.sub k _ rs⟩, np, r⟩
theorem OutOK.sub' {F F' P : Addr → Prop} {env : Env} {h : Heap} {fl : Flow} {out : Out} (x : OutOK F' P env own kc h fl out) (k : ∀ a, F a → F' a ∨ h.get? a = none) (p : ∀ a, P a → F a) : OutOK F P env own kc h fl out := by
  cases out with
  | next => exact ⟨x.1, x.2.sub' k p⟩
  | cont => exact ⟨x.1, x.2.sub' k p⟩
  | ret => obtain ⟨v, e, r⟩ := x; exact ⟨v, e, Rep.sub k _ r⟩
/-- an iterator turns: what it writes is none of the frame's -/
theorem SM.off {F P : Addr → Prop} {env : Env} {ρ : Str → Option D} {ac : List D} {h h' : Heap} (x : SM F P env own kc ρ ac h) (wr : List Addr) (hw : ∀ b ∈ wr, F b) (hp : ∀ b ∈ wr, ¬ P b) (hm : ∀ la ma, kc = some (la, ma) → ma ∉ wr)
    (hc : ∀ y a, env.cells.lookup y = some a → a ∉ wr) (k : ∀ b o, b ∉ wr → h.get? b = some o → h'.get? b = some o) : SM F P env own kc ρ ac h' := by
  refine ⟨x.fm.off (fun b => b ∈ wr) hw (fun q => hp _ q x.fm.loc) hc k, ?_⟩
  match kc, x.acc, hm with
  | none, _, _ => trivial
  | some (la, ma), ⟨p, ⟨vs, il, rs⟩, np, o, ws, g, r⟩, hm => exact ⟨p, ⟨vs, il.at fun o e => k _ o (fun q => hp _ q p) e, Reps.keep (fun b o nf e => k b o (fun q => nf (hw b q)) e) _ rs⟩, np, o, ws, k _ _ (hm la ma rfl) g, r⟩

theorem Ex.for {ρ : Str → Option D} {ac : List D} {out : Out} {target iter : Expr} {body : List Stmt} {pos : Pos} {xs : List Str} {rows : List (List D)} (t : Tgt target xs) (src : ItEv c n sc ρ iter target rows) (hx : ∀ x ∈ xs, sc.names.lookup x = some .local ∨ own x)
    (hl : ∀ row ∈ rows, row.length = xs.length) (hb : Fors c n sc own kc xs body rows ρ ac out) (hs : ∀ env x, foldedSetIterable iter env x = pure x := by intro _ _; rfl) :
    Ex c n sc own kc ρ ac (.For target iter body [] pos) out := fun F P A s env at' => by
  refine wpAny_For ((src F A s env at'.at).use fun x h₁ t₁ x₁ q₁ => (q₁ t₁).use fun it h₂ t₂ x₂ q₂ => ?_) (hs env)
  obtain ⟨h₀, x0, x02, I, fp, wr, Pk, Md, St, rfl, K, hst, hfp, hwn, hlv, hself, hrows⟩ := q₂
  have x12 : Ext s.heap h₂ := x0.trans x02
  let F' : Addr → Prop := fun a => F a ∨ a ∈ wr
  have wrn : ∀ b ∈ wr, s.heap.get? b = none := fun b hb => x0.none (hwn b hb)
  have F'new0 : ∀ a, F' a → F a ∨ h₀.get? a = none := fun a q => q.imp id fun z => hwn a z
  have F'new : ∀ a, F' a → F a ∨ s.heap.get? a = none := fun a q => q.imp id fun z => wrn a z
  have hTs : ∀ b, s.heap.get? b = none → c.hT.get? b = none := fun b e => by
    cases q : c.hT.get? b with
    | none => rfl
    | some o => rw [at'.ok.keep b o q] at e; cases e
  have wl : ∀ {b o}, s.heap.get? b = some o → b ∉ wr := fun e q => by rw [wrn _ q] at e; cases e
  have fpl : ∀ b ∈ fp, ¬ P b := fun b hb q => (hfp b hb).1 (at'.sm.fm.sub b q)
  have wrp : ∀ b ∈ wr, ¬ P b := fun b hb => fpl b (K.sub b hb)
  have hma : ∀ la ma, kc = some (la, ma) → ma ∉ wr := fun la ma e => by
    have := at'.sm.acc
    subst e
    obtain ⟨_, _, _, o, ws, g, _⟩ := this
    exact wl g
  have hcw : ∀ y a, env.cells.lookup y = some a → a ∉ wr := fun y a l => by obtain ⟨o, e⟩ := at'.sm.fm.fr.lv y a l; exact wl e
  have subF : ∀ a, P a → F' a := fun a q => .inl (at'.sm.fm.sub a q)
  have sm2 : SM F' P env own kc ρ ac h₂ := (SM.sub' at'.sm F'new subF).ext x12
  have ok2 : Ok c n F' A h₂ := ⟨at'.ok.room, fun b o e => x12 b o (at'.ok.keep b o e), fun a q => q.elim (at'.ok.lo a) fun z => hTs a (wrn a z), fun a q => by
    rcases q with q | q
    · obtain ⟨o, e⟩ := at'.ok.hi a q; exact ⟨o, x12 _ _ e⟩
    · exact hlv 0 _ hst a q⟩
  have back : ∀ {h : Heap} {fl : Flow}, OutOK F' P env own kc h fl out → OutOK F P env own kc h fl out := fun x => x.sub' (fun a q => .inl (.inl q)) at'.sm.fm.sub
  have fin : ∀ {h : Heap}, LoopExt (MP env own kc) wr s.heap h → ExtP (MP env own kc) s.heap h := fun le => ⟨fun b o nb e => le.1 b o nb (wl e) e, fun b o e => le.2 b o (wl e) e⟩
  have hdkd : ∀ x ∈ xs, env.kindOf x = some .local ∨ own x := fun x q => kind_of at'.scope (hx x q)
  have key : ∀ (rows' : List (List D)) (i : Nat) (ρ : Str → Option D) (ac : List D) (h : Heap) (tk : Nat), rows.drop i = rows' → i ≤ rows.length → St i h → SM F' P env own kc ρ ac h → Ok c n F' A h → LoopExt (MP env own kc) wr s.heap h → (∀ b o, h₂.get? b = some o → ¬ F' b → h.get? b = some o) → Fors c n sc own kc xs body rows' ρ ac out →
      codeAny (model c.prog c.w) A (.forLoop target (.ref I) body [] env) (fun r s' => match r with
        | .ok f => ∃ h' tk, s' = { s with heap := h', toks := tk } ∧ ExtP (MP env own kc) s.heap h' ∧ OutOK F P env own kc h' f out
        | .error e => cameBackBy (model c.prog c.w) A env (fun _ _ => False) e s') { s with heap := h, toks := tk } := by
    intro rows'
    induction rows' with
    | nil =>
      intro i ρ ac h tk hd hi hst sm ok le hk2 hf
      obtain rfl : i = rows.length := Nat.le_antisymm hi (List.drop_eq_nil_iff.mp hd)
      have hf' : out = .next ρ ac := hf
      refine codeAny_of_tree ?_
      rw [show A.under (.forLoop target (.ref I) body [] env) = A from Around.under_of_weight rfl rfl]
      show wpAny _ A ((forTurn target (.ref I) body [] env).onRaise (fun x => do noteFrame x env; theTreesLotGoes x)) _ _ _
      refine wpAny_noted ?_
      simp only [forTurn]
      refine wpAny_bind (wpAny_standAt (wpAny_bind (wpAny_onRaise ?_)))
      refine K.done { s with heap := h, toks := tk } _ _ hst fun h' tk' hk => ?_
      refine wpAny_pure ⟨rfl, codeAny_block (wpAny_execs_nil ⟨h', tk', rfl, fin ⟨fun b o nb nw e => hk b o nw (le.1 b o nb nw e), fun b o nw e => let ⟨o', e'⟩ := le.2 b o nw e; ⟨o', hk b o' nw e'⟩⟩, ?_⟩)⟩
      subst hf'
      exact back ⟨rfl, sm.off wr (fun b q => .inr q) wrp hma hcw hk⟩
    | cons row rows' ih =>
      intro i ρ ac h tk hd hi hst sm ok le hk2 hf
      have hlt : i < rows.length := by
        apply Nat.lt_of_not_le
        intro q
        rw [List.drop_eq_nil_iff.mpr q] at hd; cases hd
      have hrw : rows[i]? = some row := by
        have := congrArg List.head? hd
        simpa [List.head?_drop] using this
      have hd' : rows.drop (i + 1) = rows' := by
        have := congrArg List.tail hd
        simpa [List.tail_drop] using this
      have hmem : row ∈ rows := List.mem_of_getElem? hrw
      refine codeAny_of_tree ?_
      rw [show A.under (.forLoop target (.ref I) body [] env) = A from Around.under_of_weight rfl rfl]
      show wpAny _ A ((forTurn target (.ref I) body [] env).onRaise (fun x => do noteFrame x env; theTreesLotGoes x)) _ _ _
      refine wpAny_noted ?_
      simp only [forTurn]
      refine wpAny_bind (wpAny_standAt (wpAny_bind (wpAny_onRaise ?_)))
      refine K.item i { s with heap := h, toks := tk } _ _ hlt hst fun v h₃ t₃ hMd hk₃ => ?_
      refine wpAny_bind (K.go i v { s with heap := h₃, toks := t₃ } _ _ hMd fun h₄ hP hst₄ hk₄ => ?_)
      have kk : ∀ b o, b ∉ wr → h.get? b = some o → h₄.get? b = some o := fun b o q e => hk₄ b o q (hk₃ b o q e)
      have sm₄ := sm.off wr (fun b q => .inr q) wrp hma hcw kk
      have le₄ : LoopExt (MP env own kc) wr s.heap h₄ := ⟨fun b o nb nw e => kk b o nw (le.1 b o nb nw e), fun b o nw e => let ⟨o', e'⟩ := le.2 b o nw e; ⟨o', kk b o' nw e'⟩⟩
      have ok₄ : Ok c n F' A h₄ := ⟨ok.room, fun b o e => kk b o (fun q => by rw [hTs b (wrn b q)] at e; cases e) (ok.keep b o e), ok.lo, fun a q => by
        by_cases z : a ∈ wr
        · exact hlv _ _ hst₄ a z
        · obtain ⟨o, e⟩ := ok.hi a q; exact ⟨o, kk a o z e⟩⟩
      have hk4 : ∀ b o, h₂.get? b = some o → ¬ F' b → h₄.get? b = some o := fun b o e nf => kk b o (fun q => nf (.inr q)) (hk2 b o e nf)
      have ra : RowAt F' h₄ v target row := hrows F' i v h₄ row F'new0 (fun b o nf e => hk4 b o (x02 _ _ e) nf) hP hrw
      refine wpAny_bind (assign_row (s := { s with heap := h₄, toks := t₃ }) t sm₄.fm at'.ok.room.handled at'.eok.kind hdkd (hl row hmem) ra fun h₅ t₅ x₅ f₅ => ?_)
      have sm₅ := sm₄.frame x₅ f₅
      have x₅' : ExtP (MP env own kc) h₄ h₅ := x₅.mono fun a q => .inl q
      have ok₅ : Ok c n F' A h₅ := ok₄.extP x₅' fun a q => subF a (sm₄.mp q)
      have st5 : AtS c n F' P A env sc own kc (upds ρ xs row) ac h₅ := ⟨ok₅, at'.scope, at'.eok, sm₅⟩
      have go : ∀ {ρ' ac' h₆ t₆}, ExtP (MP env own kc) h₅ h₆ → SM F' P env own kc ρ' ac' h₆ → Fors c n sc own kc xs body rows' ρ' ac' out → codeAny (model c.prog c.w) A (.forLoop target (.ref I) body [] env) (fun r s' => match r with
          | .ok f => ∃ h' tk, s' = { s with heap := h', toks := tk } ∧ ExtP (MP env own kc) s.heap h' ∧ OutOK F P env own kc h' f out
          | .error e => cameBackBy (model c.prog c.w) A env (fun _ _ => False) e s') { s with heap := h₆, toks := t₆ } := fun {ρ' ac' h₆ t₆} x₆ sm₆ hf' => by
        have x46 := x₅'.trans x₆
        have mpP : ∀ a, MP env own kc a → P a := fun a q => sm₄.mp q
        exact ih (i + 1) ρ' ac' h₆ t₆ hd' hlt (K.frame _ _ _ hst₄ fun b hb o e => x46.1 b o (fun q => fpl b hb (mpP b q)) e) sm₆ (ok₅.extP x₆ fun a q => subF a (mpP a q))
          ⟨fun b o nb nw e => x46.1 b o nb (le₄.1 b o nb nw e), fun b o nw e => let ⟨o', e'⟩ := le₄.2 b o nw e; x46.2 b o' e'⟩ (fun b o e nf => x46.1 b o (fun q => nf (subF b (mpP b q))) (hk4 b o e nf)) hf'
      rcases hf with ⟨ρ', ac', hb' | hb', hf'⟩ | ⟨d, hb', rfl⟩
      · refine wpAny_bind ((hb' F' P A { s with heap := h₅, toks := t₅ } env st5).use fun fl h₆ t₆ x₆ q => ?_)
        obtain ⟨rfl, sm₆⟩ := q
        exact wpAny_pure ⟨rfl, go x₆ sm₆ hf'⟩
      · refine wpAny_bind ((hb' F' P A { s with heap := h₅, toks := t₅ } env st5).use fun fl h₆ t₆ x₆ q => ?_)
        obtain ⟨rfl, sm₆⟩ := q
        exact wpAny_pure ⟨rfl, go x₆ sm₆ hf'⟩
      · refine wpAny_bind ((hb' F' P A { s with heap := h₅, toks := t₅ } env st5).use fun fl h₆ t₆ x₆ q => ?_)
        obtain ⟨v', rfl, r⟩ := q
        have x46 := x₅'.trans x₆
        exact wpAny_pure ⟨h₆, t₆, rfl, fin ⟨fun b o nb nw e => x46.1 b o nb (le₄.1 b o nb nw e), fun b o nw e => let ⟨o', e'⟩ := le₄.2 b o nw e; x46.2 b o' e'⟩, back ⟨v', rfl, r⟩⟩
  exact key rows 0 ρ ac h₂ t₂ (by simp) (Nat.zero_le _) hst sm2 ok2 ⟨fun b o nb nw e => x12 b o e, fun b o nw e => ⟨o, x12 b o e⟩⟩ (fun b o e _ => e) hb

inductive Whl (c : Cx) (n : Nat) (sc : Scope) (own : Str → Prop) (kc : Option (Addr × Addr)) (test : Expr) (body : List Stmt) : (Str → Option D) → List D → Out → Prop
  | done {ρ ac} : Tr c n sc ρ test false → Whl c n sc own kc test body ρ ac (.next ρ ac)
  | next {ρ ac ρ' ac' out} : Tr c n sc ρ test true → Exs c n sc own kc ρ ac body (.next ρ' ac') → Whl c n sc own kc test body ρ' ac' out → Whl c n sc own kc test body ρ ac out
  | cont {ρ ac ρ' ac' out} : Tr c n sc ρ test true → Exs c n sc own kc ρ ac body (.cont ρ' ac') → Whl c n sc own kc test body ρ' ac' out → Whl c n sc own kc test body ρ ac out
  | ret {ρ ac d} : Tr c n sc ρ test true → Exs c n sc own kc ρ ac body (.ret d) → Whl c n sc own kc test body ρ ac (.ret d)

theorem Ex.while {ρ : Str → Option D} {ac : List D} {out : Out} {test : Expr} {body : List Stmt} {pos : Pos} (h : Whl c n sc own kc test body ρ ac out) : Ex c n sc own kc ρ ac (.While test body [] pos) out := fun F P A s env at' => by
  refine wpAny_While ?_
  have key : ∀ {ρ ac out}, Whl c n sc own kc test body ρ ac out → ∀ (h : Heap) (tk : Nat), AtS c n F P A env sc own kc ρ ac h → ExtP (MP env own kc) s.heap h →
      codeAny (model c.prog c.w) A (.whileLoop test body [] env) (fun r s' => match r with
        | .ok f => ∃ h' tk, s' = { s with heap := h', toks := tk } ∧ ExtP (MP env own kc) s.heap h' ∧ OutOK F P env own kc h' f out
        | .error e => cameBackBy (model c.prog c.w) A env (fun _ _ => False) e s') { s with heap := h, toks := tk } := by
    intro ρ ac out w
    have start : ∀ {R : Result → Shared → Prop} {s : Shared}, wpAny (model c.prog c.w) A (whileTurn test body [] env) (fun fin s' => match fin with | .done f => R (.ok f) s' | .again c' => c'.quiet = true ∧ codeAny (model c.prog c.w) A c' R s') (fun _ _ => False) s →
        codeAny (model c.prog c.w) A (.whileLoop test body [] env) R s := fun {R s} hh => by
      refine codeAny_of_tree ?_
      rw [show A.under (.whileLoop test body [] env) = A from Around.under_of_weight rfl rfl]
      show wpAny _ A ((whileTurn test body [] env).onRaise (fun x => do noteFrame x env; theTreesLotGoes x)) _ _ _
      exact wpAny_noted (wpAny_mono hh (fun _ _ q => q) fun _ _ f => f.elim)
    induction w with
    | done ht =>
      intro h tk a e
      refine start ?_
      unfold whileTurn
      refine wpAny_bind ((ht F A { s with heap := h, toks := tk } env a.at).use fun b h₁ t₁ e₁ q => ?_)
      subst q
      exact wpAny_bind (wpAny_execs_nil (wpAny_pure ⟨h₁, t₁, rfl, e.trans e₁.p, rfl, a.sm.ext e₁⟩))
    | next ht hb _ ih =>
      intro h tk a e
      refine start ?_
      unfold whileTurn
      refine wpAny_bind ((ht F A { s with heap := h, toks := tk } env a.at).use fun b h₁ t₁ e₁ q => ?_)
      subst q
      refine wpAny_bind ((hb F P A { s with heap := h₁, toks := t₁ } env (a.ext e₁)).use fun fl h₂ t₂ e₂ q => ?_)
      obtain ⟨rfl, sm⟩ := q
      exact wpAny_pure ⟨rfl, ih h₂ t₂ ((a.ext e₁).to e₂ sm) ((e.trans e₁.p).trans e₂)⟩
    | cont ht hb _ ih =>
      intro h tk a e
      refine start ?_
      unfold whileTurn
      refine wpAny_bind ((ht F A { s with heap := h, toks := tk } env a.at).use fun b h₁ t₁ e₁ q => ?_)
      subst q
      refine wpAny_bind ((hb F P A { s with heap := h₁, toks := t₁ } env (a.ext e₁)).use fun fl h₂ t₂ e₂ q => ?_)
      obtain ⟨rfl, sm⟩ := q
      exact wpAny_pure ⟨rfl, ih h₂ t₂ ((a.ext e₁).to e₂ sm) ((e.trans e₁.p).trans e₂)⟩
    | ret ht hb =>
      intro h tk a e
      refine start ?_
      unfold whileTurn
      refine wpAny_bind ((ht F A { s with heap := h, toks := tk } env a.at).use fun b h₁ t₁ e₁ q => ?_)
      subst q
      refine wpAny_bind ((hb F P A { s with heap := h₁, toks := t₁ } env (a.ext e₁)).use fun fl h₂ t₂ e₂ q => ?_)
      obtain ⟨v, rfl, r⟩ := q
      exact wpAny_pure ⟨h₂, t₂, rfl, (e.trans e₁.p).trans e₂, v, rfl, r⟩
  exact key h s.heap s.toks at' (ExtP.refl _ _)
end
end Qp
namespace Qp
open PySem PySem.Calls PyProof.Rows PySem.W

theorem Room.deeper {A : Around} {n : Nat} {env : Env} (r : Room A (n + 1)) : Room (A.deeper env) n := ⟨r.1, by show A.depth + 1 + n < _; have := r.2; omega, by show A.units + 3 + 10 * n < _; have := r.3; omega⟩

section
variable {c : Cx} {n : Nat}
/-- a def of the top, called with its arguments by place -/
theorem Fn.def {a : Addr} {o : Obj} {fd : FuncData} {body : List Stmt} {scope : Scope} {xs : List Str} {as dd : List D} {dv : List Value} {d : D} (G : c.Good)
    (ho : c.hT.get? a = some o) (hd : o.data = .func fd) (hbody : fd.body = .stmts body) (hsc : fd.scope = scope) (hg : fd.globals = mainGlobals) (hb : fd.builtins = builtinsNs) (hcl : fd.closure = []) (hcd : c.hT.CodeRec fd.code fd.qualname)
    (hk : scope.kind = .function) (hco : scope.isCoroutine = false) (hgen : scope.isGenerator = false)
    (hdv : ∀ F : Addr → Prop, (∀ a, F a → c.hT.get? a = none) → Reps F c.hT dv dd)
    (hbind : ∀ (s : Shared) (vs : List Value), vs.length = as.length → (∀ b o, c.hT.get? b = some o → s.heap.get? b = some o) → BindsTo s fd ⟨vs, []⟩ (xs.zip (vs ++ dv)))
    (hxs : (xs.all fun x => scope.names.lookup x == some .local || scope.names.lookup x == some .cell) = true)
    (hx : Exs c n scope (fun x => scope.names.lookup x = some .cell) none (upds (fun _ => none) xs (as ++ dd)) [] body (.ret d)) :
    Fn c (n + 1) (.ref a) as d := fun F A s vs k rs => by
  refine wpAny_call (codeAny_call_function k.room.d (k.keep _ _ ho) hd (by rw [hsc]; exact hco) (by rw [hsc]; exact hgen) hbody (hcd.keeps k.keep) ?_)
  refine hbind s vs rs.length k.keep _ _ _ _ ?_
  rw [hcl, hsc, hg, hb]
  have mem_of : ∀ {x v}, (x, v) ∈ xs.zip (vs ++ dv) → x ∈ xs := fun h => (List.of_mem_zip h).1
  have hkind : ∀ x ∈ xs.zip (vs ++ dv), scope.names.lookup x.1 = some .local ∨ (scope.names.lookup x.1 = some .cell ∧ ((cellsFrom (s.heap.objs.size + 1) scope.names []).lookup x.1).isSome = true) := fun x hm => by
    have := List.all_eq_true.mp hxs x.1 (mem_of (show (x.1, x.2) ∈ _ from hm))
    rcases Bool.or_eq_true_iff.mp this with q | q
    · exact .inl (by simpa using q)
    · have q' : scope.names.lookup x.1 = some .cell := by simpa using q
      exact .inr ⟨q', PySem.W.cellsFrom_some _ _ _ (.inl q')⟩
  refine wpAny_newFunctionEnv_cells hk hkind fun env he s' ic => ?_
  have kp := ic.toInCall.keep
  refine ⟨(G.nolimit.keeps k.keep).keeps kp, codeAny_func ?_⟩
  have esc : env.scope = scope := by rw [he]; rfl
  have eL : env.locals = s.heap.objs.size := by rw [he]; rfl
  have eC : env.cells = cellsFrom (s.heap.objs.size + 1) scope.names [] := by rw [he]; rfl
  have eo : EnvOK env := ⟨by rw [esc]; exact hk, by rw [he]; rfl, by rw [he]; rfl, ic.apart⟩
  obtain ⟨h', tk', rfl⟩ := ic.toInCall.same
  let P : Addr → Prop := fun a => a = env.locals ∨ ∃ x, env.cells.lookup x = some a
  let F' : Addr → Prop := fun a => F a ∨ P a
  have lt : s.heap.objs.size ≤ env.locals := by rw [eL]; exact Nat.le_refl _
  have pn : ∀ a, P a → s.heap.get? a = none := fun a q => by
    rcases q with rfl | ⟨x, q⟩
    · exact fresh_ge lt
    · exact fresh_ge (Nat.le_trans lt (Nat.le_of_lt (ic.above x a (mem_of_lookup q))))
  have own_look : ∀ x, scope.names.lookup x = some .cell → ∃ b, env.cells.lookup x = some b := fun x q => by
    rw [eC]; exact Option.isSome_iff_exists.mp (PySem.W.cellsFrom_some _ _ _ (.inl q))
  have plive : ∀ a, P a → ∃ o, h'.get? a = some o := fun a q => by
    rcases q with rfl | ⟨x, q⟩
    · obtain ⟨o, _, _, e, _⟩ := ic.toInCall.ns; exact ⟨o, e⟩
    · obtain ⟨o, e, _⟩ := ic.cell x a q; exact ⟨o, e⟩
  have F'new : ∀ a, F' a → F a ∨ s.heap.get? a = none := fun a q => q.imp id (pn a)
  have hTs : ∀ b, s.heap.get? b = none → c.hT.get? b = none := fun b e => by
    cases q : c.hT.get? b with
    | none => rfl
    | some o => rw [k.keep b o q] at e; cases e
  have ok' : Ok c n F' (A.deeper env) h' := ⟨k.room.deeper, fun b o e => kp b o (k.keep b o e), fun a q => q.elim (k.lo a) fun z => hTs a (pn a z), fun a q => by
    rcases q with q | q
    · obtain ⟨o, e⟩ := k.hi a q; exact ⟨o, kp _ _ e⟩
    · exact plive a q⟩
  have rall : Reps F' h' (vs ++ dv) (as ++ dd) := Reps.append ((Reps.sub F'new _ rs).ext kp) (Reps.keep (fun b o _ e => kp b o (k.keep b o e)) _ (hdv F' ok'.lo))
  have bindsOk : ∀ (xs : List Str) (vs : List Value) (ds : List D) (m cm : Str → Option Value) (ρ : Str → Option D), Reps F' h' vs ds → (∀ x d, env.kindOf x = some .local → ρ x = some d → ∃ v, m x = some v ∧ Rep F' h' v d) → (∀ x d, env.kindOf x ≠ some .local → ρ x = some d → ∃ v, cm x = some v ∧ Rep F' h' v d) →
      (∀ x d, env.kindOf x = some .local → upds ρ xs ds x = some d → ∃ v, bindL env.kindOf (xs.zip vs) m x = some v ∧ Rep F' h' v d) ∧ (∀ x d, env.kindOf x ≠ some .local → upds ρ xs ds x = some d → ∃ v, bindC env.kindOf (xs.zip vs) cm x = some v ∧ Rep F' h' v d) := by
    intro xs
    induction xs with
    | nil => intro vs ds m cm ρ _ h1 h2; cases ds <;> exact ⟨h1, h2⟩
    | cons y ys ih =>
      intro vs ds m cm ρ r h1 h2
      cases ds with
      | nil => simp only [Reps] at r; subst r; exact ⟨h1, h2⟩
      | cons d' ds =>
        simp only [Reps] at r
        obtain ⟨v', vs', rfl, r', rs'⟩ := r
        simp only [List.zip_cons_cons, upds, bindL, bindC]
        refine ih vs' ds _ _ _ rs' (fun x d hk' e => ?_) (fun x d hk' e => ?_)
        · unfold upd at e
          by_cases z : x = y
          · subst z; rw [if_pos rfl] at e; cases e; rw [if_pos hk']; exact ⟨v', by simp, r'⟩
          · rw [if_neg z] at e
            obtain ⟨v, e', q⟩ := h1 x d hk' e
            refine ⟨v, ?_, q⟩
            split
            · simp [z, e']
            · exact e'
        · unfold upd at e
          by_cases z : x = y
          · subst z; rw [if_pos rfl] at e; cases e; rw [if_neg hk']; exact ⟨v', by simp, r'⟩
          · rw [if_neg z] at e
            obtain ⟨v, e', q⟩ := h2 x d hk' e
            refine ⟨v, ?_, q⟩
            split
            · exact e'
            · simp [z, e']
  obtain ⟨bl, bc⟩ := bindsOk xs (vs ++ dv) (as ++ dd) (fun _ => none) (fun _ => none) (fun _ => none) rall (fun _ _ _ e => by cases e) (fun _ _ _ e => by cases e)
  have fm : Fm F' P env (fun x => scope.names.lookup x = some .cell) (upds (fun _ => none) xs (as ++ dd)) h' := by
    refine ⟨⟨⟨_, ic.toInCall.ns, bl⟩, fun x d hl e => ?_, fun x a l => by obtain ⟨o, e, _⟩ := ic.cell x a l; exact ⟨o, e⟩⟩, fun a q => .inr q, .inl rfl, ic.apart, fun x ho' => ?_⟩
    · have hnl : env.kindOf x ≠ some .local := by rcases hl with q | q <;> (rw [q]; decide)
      obtain ⟨v, e', r⟩ := bc x d hnl e
      have hxm : x ∈ xs := Classical.byContradiction fun q => by rw [upds_other q] at e; cases e
      have := List.all_eq_true.mp hxs x hxm
      have hkc : scope.names.lookup x = some .cell := by
        rcases Bool.or_eq_true_iff.mp this with q | q
        · exfalso; apply hnl; unfold Env.kindOf; rw [esc]; simpa using q
        · simpa using q
      obtain ⟨b, hb'⟩ := own_look x hkc
      have hc := ic.cell x b hb'
      rw [e'] at hc
      obtain ⟨o', g, hd'⟩ := hc
      exact ⟨b, o', v, hb', g, hd', r⟩
    · obtain ⟨b, hb'⟩ := own_look x ho'
      exact ⟨by unfold Env.kindOf; rw [esc]; exact ho', b, _, hb', ic.cell x b hb', .inr ⟨x, hb'⟩⟩
  refine (hx F' P (A.deeper env) { s with heap := h', toks := tk' } env ⟨ok', esc, eo, fm, trivial⟩).use fun fl h₂ t₂ x₂ q => ?_
  obtain ⟨v, rfl, r⟩ := q
  refine ⟨h₂, t₂, rfl, fun b o e => x₂.1 b o (fun q => ?_) (kp b o e), Rep.sub (fun a q => .inl (.inl q)) _ r⟩
  have hp : P b := by
    rcases q with (q | ⟨x, ow, l⟩) | ⟨ma, q⟩
    · exact .inl q
    · exact .inr ⟨x, l⟩
    · cases q
  rw [pn b hp] at e; cases e
end
end Qp
namespace Qp
open PySem PySem.Calls PyProof.Rows PySem.W

theorem Reps.ints {F : Addr → Prop} {h : Heap} : ∀ {ns : List Int} {vs : List Value}, Reps F h vs (ns.map D.int) → IntsAre vs ns
  | [], vs, r => by simp only [List.map_nil, Reps] at r; subst r; exact .nil
  | n :: ns, vs, r => by
    simp only [List.map_cons, Reps] at r
    obtain ⟨v, vs', rfl, ⟨t, rfl⟩, rs⟩ := r
    exact .cons n t (Reps.ints rs)
theorem Reps.ofInts {F : Addr → Prop} {h : Heap} : ∀ {vs : List Value} {ns : List Int}, IntsAre vs ns → Reps F h vs (ns.map D.int)
  | _, _, .nil => Reps.nil
  | _, _, .cons n t r => Reps.cons ⟨t, rfl⟩ (Reps.ofInts r)

section
variable {c : Cx} {n : Nat}
theorem Fn.chr (i : Int) (h0 : 0 ≤ i) (h1 : i ≤ 0x10FFFF) : Fn c n (.builtin "chr") [.int i] (.str ⟨#[i.toNat]⟩) := fun F A s vs k rs => by
  obtain ⟨v, rfl, t, rfl⟩ := rs.oneInv
  exact P.chr_of_int (by simp; omega) ⟨s.heap, _, rfl, Ext.refl _, _, rfl⟩
theorem Fn.ord (k' : Nat) : Fn c n (.builtin "ord") [.str ⟨#[k']⟩] (.int k') := fun F A s vs k rs => by
  obtain ⟨v, rfl, t, rfl⟩ := rs.oneInv
  exact P.ord_of_char ⟨s.heap, _, rfl, Ext.refl _, _, rfl⟩
theorem Fn.abs (i : Int) : Fn c n (.builtin "abs") [.int i] (.int (if i < 0 then -i else i)) := fun F A s vs k rs => by
  obtain ⟨v, rfl, t, rfl⟩ := rs.oneInv
  exact call_abs_int fun u tk => ⟨s.heap, tk, rfl, Ext.refl _, u, rfl⟩
theorem Fn.lenList (ds : List D) (hl : (ds.length : Int) < 2 ^ 63) : Fn c n (.builtin "len") [.list ds] (.int ds.length) := fun F A s vs k rs => by
  obtain ⟨v, rfl, r⟩ := rs.oneInv
  obtain ⟨a, ws, rfl, _, il, rs'⟩ := r.listInv
  have e : ((ws.toArray.size : Nat) : Int) = (ds.length : Int) := by rw [List.size_toArray, rs'.length]
  exact Calls.call_len_list il (by rw [e]; exact hl) ⟨s.heap, _, rfl, Ext.refl _, by rw [e]; exact ⟨_, rfl⟩⟩
theorem Fn.lenStr (x : Str) (hl : (x.length : Int) < 2 ^ 63) : Fn c n (.builtin "len") [.str x] (.int x.length) := fun F A s vs k rs => by
  obtain ⟨v, rfl, t, rfl⟩ := rs.oneInv
  exact PyProof.Rows.len_str (by omega) ⟨s.heap, _, rfl, Ext.refl _, _, rfl⟩
theorem Fn.sum (ns : List Int) : Fn c n (.builtin "sum") [.list (ns.map D.int)] (.int ns.sum) := fun F A s vs k rs => by
  obtain ⟨v, rfl, r⟩ := rs.oneInv
  obtain ⟨a, ws, rfl, _, il, rs'⟩ := r.listInv
  have hi := rs'.ints
  obtain ⟨xs, e⟩ := hi.allInts.items
  have hn := hi.numsOf
  rw [e] at il
  refine sum_intListG k.room.handled il fun h' tk t' hk => ⟨h', tk, rfl, hk, t', ?_⟩
  have : ns = (numsOf (intItems xs).toList) := by rw [← e, ← hn]
  rw [this, nums_intItems, preSum_eq, List.take_of_length_le (by simp)]
theorem Fn.sorted (ns : List Int) (h64 : ns.length < 64) (ns' : List Int) (hp : ns'.Perm ns) (hs : ns'.Pairwise (· ≤ ·)) : Fn c n (.builtin "sorted") [.list (ns.map D.int)] (.list (ns'.map D.int)) := fun F A s vs k rs => by
  obtain ⟨v, rfl, r⟩ := rs.oneInv
  obtain ⟨a, ws, rfl, _, il, rs'⟩ := r.listInv
  have hi := rs'.ints
  have hl := rs'.length
  rw [List.length_map] at hl
  refine sorted_ints il hi (by omega) fun out ns'' ho hp' hs' => ⟨_, s.toks, rfl, fun b o e => sortedAll_old e, ?_⟩
  obtain ⟨e, he⟩ := sortedAll_at s.heap ws out
  have same : ns'' = ns' := ksm_same (hp'.trans hp.symm) hs' hs
  subst same
  simp only [Rep]
  refine ⟨s.heap.objs.size + 1, out.toList, rfl, k.new (fresh_ge (Nat.le_succ _)), ⟨_, he, rfl, e, by simp [seqObj]⟩, Reps.ofInts ho⟩
theorem Fn.max (ns : List Int) (hne : ns ≠ []) (m : Int) (hm : m ∈ ns) (hb : ∀ a ∈ ns, a ≤ m) : Fn c n (.builtin "max") [.list (ns.map D.int)] (.int m) := fun F A s vs k rs => by
  obtain ⟨v, rfl, r⟩ := rs.oneInv
  obtain ⟨a, ws, rfl, _, il, rs'⟩ := r.listInv
  have hi := rs'.ints
  obtain ⟨xs, e⟩ := hi.allInts.items
  have hn := hi.numsOf
  have hsz : 0 < xs.size := by
    have : ws.toArray.size = xs.size := by rw [e]; simp [intItems]
    rw [← this, List.size_toArray, rs'.length, List.length_map]
    exact List.length_pos_iff.mpr hne
  rw [e] at il
  have hns : ns = xs.toList.map (·.1) := by rw [← nums_intItems, ← e, ← hn]
  refine max_intList k.room.handled il hsz fun v h' tk hv hk => ⟨h', tk, rfl, hk, ?_⟩
  obtain ⟨t, rfl⟩ := intItems_at hv
  obtain ⟨h1, h2⟩ := argBest_gt (numAt xs) (xs.size - 1)
  have hmem : numAt xs (argBest (fun i j => decide (numAt xs i > numAt xs j)) (xs.size - 1)) ∈ ns := by
    rw [hns, numAt_eq]; exact getD_mem (by rw [List.length_map, Array.length_toList]; omega)
  have hle : m ≤ numAt xs (argBest (fun i j => decide (numAt xs i > numAt xs j)) (xs.size - 1)) := by
    rw [hns] at hm
    obtain ⟨j, hj, e'⟩ := mem_getD hm
    rw [List.length_map, Array.length_toList] at hj
    rw [← e', ← numAt_eq]; exact h2 j (by omega)
  have := hb _ hmem
  exact ⟨t, by rw [show m = _ from Int.le_antisymm hle this]⟩
theorem Fn.min (ns : List Int) (hne : ns ≠ []) (m : Int) (hm : m ∈ ns) (hb : ∀ a ∈ ns, m ≤ a) : Fn c n (.builtin "min") [.list (ns.map D.int)] (.int m) := fun F A s vs k rs => by
  obtain ⟨v, rfl, r⟩ := rs.oneInv
  obtain ⟨a, ws, rfl, _, il, rs'⟩ := r.listInv
  have hi := rs'.ints
  obtain ⟨xs, e⟩ := hi.allInts.items
  have hn := hi.numsOf
  have hsz : 0 < xs.size := by
    have : ws.toArray.size = xs.size := by rw [e]; simp [intItems]
    rw [← this, List.size_toArray, rs'.length, List.length_map]
    exact List.length_pos_iff.mpr hne
  rw [e] at il
  have hns : ns = xs.toList.map (·.1) := by rw [← nums_intItems, ← e, ← hn]
  refine min_intList k.room.handled il hsz fun v h' tk hv hk => ⟨h', tk, rfl, hk, ?_⟩
  obtain ⟨t, rfl⟩ := intItems_at hv
  obtain ⟨h1, h2⟩ := argBest_lt (numAt xs) (xs.size - 1)
  have hmem : numAt xs (argBest (fun i j => decide (numAt xs i < numAt xs j)) (xs.size - 1)) ∈ ns := by
    rw [hns, numAt_eq]; exact getD_mem (by rw [List.length_map, Array.length_toList]; omega)
  have hle : numAt xs (argBest (fun i j => decide (numAt xs i < numAt xs j)) (xs.size - 1)) ≤ m := by
    rw [hns] at hm
    obtain ⟨j, hj, e'⟩ := mem_getD hm
    rw [List.length_map, Array.length_toList] at hj
    rw [← e', ← numAt_eq]; exact h2 j (by omega)
  have := hb _ hmem
  exact ⟨t, by rw [show m = _ from Int.le_antisymm this hle]⟩
theorem Fn.range1 (b : Int) : Fn c n (.type "range") [.int b] (.range 0 b) := fun F A s vs k rs => by
  obtain ⟨v, rfl, t, rfl⟩ := rs.oneInv
  refine call_range_1 ⟨_, _, rfl, Ext.push _ _, ?_⟩
  simp only [Rep]
  exact ⟨_, _, _, _, rfl, k.new (fresh_at _), Heap.get?_push_size _ rfl⟩
theorem Fn.range2 (a b : Int) : Fn c n (.type "range") [.int a, .int b] (.range a b) := fun F A s vs k rs => by
  obtain ⟨v, v', rfl, ⟨t, rfl⟩, t', rfl⟩ := rs.twoInv
  refine call_range_2 ⟨_, _, rfl, Ext.push _ _, ?_⟩
  simp only [Rep]
  exact ⟨_, _, _, _, rfl, k.new (fresh_at _), Heap.get?_push_size _ rfl⟩
theorem Fn.isBool (b : Bool) : Fn c n (.builtin "isinstance") [.bool b, .val (.type "bool")] (.bool true) := fun F A s vs k rs => by
  obtain ⟨v, v', rfl, r, r'⟩ := rs.twoInv
  have r1 : v = .bool b := r
  have r2 : v' = .type "bool" := r'
  subst r1; subst r2
  exact call_isinstance (isinstance_true (Tx := "bool") (by first | rfl | kernel_rfl) (by rw [isSubtype_type]; kernel_rfl)) ⟨rfl, s.heap, s.toks, rfl, Ext.refl _, rfl⟩
theorem Fn.isInt (i : Int) : Fn c n (.builtin "isinstance") [.int i, .val (.type "int")] (.bool true) := fun F A s vs k rs => by
  obtain ⟨v, v', rfl, ⟨t, rfl⟩, r'⟩ := rs.twoInv
  have r2 : v' = .type "int" := r'
  subst r2
  exact call_isinstance (isinstance_true (Tx := "int") (by first | rfl | kernel_rfl) (by rw [isSubtype_type]; kernel_rfl)) ⟨rfl, s.heap, s.toks, rfl, Ext.refl _, rfl⟩
theorem Fn.all (bs : List Bool) : Fn c (n + 1) (.builtin "all") [.list (bs.map D.bool)] (.bool (bs.all id)) := fun F A s vs k rs => by
  obtain ⟨v, rfl, r⟩ := rs.oneInv
  obtain ⟨a, ws, rfl, _, il, rs'⟩ := r.listInv
  have hh : A.in1.handled = none := k.room.handled
  have hlt : a < s.heap.objs.size := by obtain ⟨o, e, _⟩ := il; exact Heap.lt_size e
  have hws : ∀ i, i < bs.length → ws[i]? = some (.bool (bs.getD i false)) := fun i hi => by
    have hd : (bs.map D.bool)[i]? = some (D.bool bs[i]) := by simp [hi]
    obtain ⟨v, hv, r⟩ := rs'.get hd
    have r' : v = .bool bs[i] := r
    rw [hv, r']; simp [List.getD, hi]
  have hlen : ws.length = bs.length := by rw [rs'.length, List.length_map]
  refine call_all_walk (wpAny_pyIter_list il ⟨_, _, _, _, _, _, fun i => bs.getD i false, rfl, Walks.list hh s.heap.objs.size a (Nat.ne_of_lt hlt) ws.toArray, ⟨⟨_, Heap.get?_push_size _ rfl, rfl, rfl⟩, il.push _⟩, ?_, fun h' tk hk => ⟨h', tk, rfl, fun b o e => hk b o (fun q => by rw [List.mem_singleton.mp q] at e; rw [fresh_at] at e; cases e) (Heap.get?_push_of_some _ e), ?_⟩⟩)
  · intro i v s' Q E hP hQ
    have hP' : ws[i]? = some v := by simpa using hP
    have hi : i < bs.length := by rw [← hlen]; exact (List.getElem?_eq_some_iff.mp hP').1
    rw [hws i hi] at hP'; cases hP'
    exact wpAny_truthy_bool hQ
  · have : ((List.range ws.toArray.size).all fun i => bs.getD i false) = bs.all id := by
      rw [List.size_toArray, hlen]
      rw [Bool.eq_iff_iff]
      simp only [List.all_eq_true, List.mem_range, id]
      constructor
      · intro h x hx
        obtain ⟨i, hi, rfl⟩ := List.getElem_of_mem hx
        have := h i hi
        simpa [List.getD, hi] using this
      · intro h i hi
        have := h bs[i] (List.getElem_mem hi)
        simpa [List.getD, hi] using this
    exact congrArg Value.bool this
theorem Tru.list (ds : List D) (hl : (ds.length : Int) < 2 ^ 63) : Tru c n (.list ds) (!ds.isEmpty) := fun F A s va k r => by
  obtain ⟨a, ws, rfl, _, il, rs'⟩ := r.listInv
  have hlen := rs'.length
  exact wpAny_truthy_list il (by rw [List.size_toArray, hlen]; exact hl) ⟨s.heap, _, rfl, Ext.refl _, by
    have : ws.toArray.isEmpty = ds.isEmpty := by cases ws <;> cases ds <;> simp_all
    rw [this]⟩
theorem Tru.str (x : Str) (hl : (x.length : Int) < 2 ^ 63) : Tru c n (.str x) ((x.length : Int) != 0) := fun F A s va k r => by
  obtain ⟨t, rfl⟩ := r
  exact P.truthy_str (by omega) ⟨s.heap, _, rfl, Ext.refl _, rfl⟩
end
end Qp
namespace Qp
open PySem PySem.Calls PyProof.Rows PySem.W PySem.SeqAt

mutual
noncomputable def toPy : D → PyData
  | .none => .none
  | .bool b => .bool b
  | .int i => .int i
  | .str x => .str x
  | .list l => .list (toPys l)
  | .tup l => .tuple (toPys l)
  | .range _ _ => .none
  | .val _ => .none
noncomputable def toPys : List D → List PyData
  | [] => []
  | d :: ds => toPy d :: toPys ds
end
mutual
noncomputable def flat : D → Bool
  | .none | .bool _ | .int _ | .str _ => true
  | .list l => flats l
  | .tup l => flats l
  | .range _ _ | .val _ => false
noncomputable def flats : List D → Bool
  | [] => true
  | d :: ds => flat d && flats ds
end
mutual
theorem Rep.reads {F : Addr → Prop} {h : Heap} : ∀ (d : D) {v : Value}, flat d = true → Rep F h v d → ∃ as, Reads h v (toPy d) as
  | .none, _, _, r => by simp only [Rep] at r; subst r; exact ⟨_, .none⟩
  | .bool b, _, _, r => by simp only [Rep] at r; subst r; exact ⟨_, .bool b⟩
  | .int i, _, _, r => by simp only [Rep] at r; obtain ⟨t, rfl⟩ := r; exact ⟨_, .int i t⟩
  | .str x, _, _, r => by simp only [Rep] at r; obtain ⟨t, rfl⟩ := r; exact ⟨_, .str x t⟩
  | .range _ _, _, hf, _ => by simp [flat] at hf
  | .val _, _, hf, _ => by simp [flat] at hf
  | .list l, _, hf, r => by
    simp only [Rep] at r
    obtain ⟨a, vs, rfl, _, ⟨o, e, hc, n, hd⟩, rs⟩ := r
    obtain ⟨as, q⟩ := Reps.reads l (by simpa [flat] using hf) rs
    simp only [toPy]
    exact ⟨_, .list e hc hd (by simpa using q)⟩
  | .tup l, _, hf, r => by
    simp only [Rep] at r
    obtain ⟨a, vs, rfl, _, ⟨o, e, hc, n, hd⟩, rs⟩ := r
    obtain ⟨as, q⟩ := Reps.reads l (by simpa [flat] using hf) rs
    simp only [toPy]
    exact ⟨_, .tuple e hc hd (by simpa using q)⟩
theorem Reps.reads {F : Addr → Prop} {h : Heap} : ∀ (ds : List D) {vs : List Value}, flats ds = true → Reps F h vs ds → ∃ as, ReadsAll h vs (toPys ds) as
  | [], _, _, r => by simp only [Reps] at r; subst r; exact ⟨_, .nil⟩
  | d :: ds, _, hf, r => by
    simp only [Reps] at r
    obtain ⟨v, vs', rfl, r, rs⟩ := r
    simp only [flats, Bool.and_eq_true] at hf
    obtain ⟨as, q⟩ := Rep.reads d hf.1 r
    obtain ⟨bs, q'⟩ := Reps.reads ds hf.2 rs
    simp only [toPys]
    exact ⟨_, .cons q q'⟩
end

/-- data that may be compared -/
noncomputable def Cmp (d : D) : Prop := flat d = true ∧ shaped (toPy d) = true
noncomputable def eqD (a b : D) : Bool := PyData.eqv (toPy a) (toPy b)

section
variable {c : Cx} {n : Nat}
theorem Room.u64 {A : Around} (r : Room A (n + 8)) : A.units + 64 < cLine := by have := r.units; omega
theorem Op2.eq {a b : D} (ha : Cmp a) (hb : Cmp b) : Op2 c (n + 8) (compareOp .Eq) a b (.bool (eqD a b)) := fun F A s va vb k ra rb => by
  obtain ⟨as, qa⟩ := Rep.reads a ha.1 ra
  obtain ⟨bs, qb⟩ := Rep.reads b hb.1 rb
  exact compareEq_shaped qa qb ha.2 hb.2 k.room.u64 ⟨s.heap, s.toks, rfl, Ext.refl _, rfl⟩
theorem Op2.ne {a b : D} (ha : Cmp a) (hb : Cmp b) : Op2 c (n + 8) (compareOp .NotEq) a b (.bool (!eqD a b)) := fun F A s va vb k ra rb => by
  obtain ⟨as, qa⟩ := Rep.reads a ha.1 ra
  obtain ⟨bs, qb⟩ := Rep.reads b hb.1 rb
  exact compareNe_shaped qa qb ha.2 hb.2 k.room.u64 ⟨s.heap, s.toks, rfl, Ext.refl _, rfl⟩
theorem any_toPys (l : List D) (f : PyData → Bool) : (toPys l).any f = l.any fun d => f (toPy d) := by
  induction l with
  | nil => rfl
  | cons d ds ih => simp [toPys, ih]
theorem Op2.notInList {x : D} {l : List D} (hx : Cmp x) (hl : Cmp (.list l)) : Op2 c (n + 8) (compareOp .NotIn) x (.list l) (.bool (!l.any fun y => eqD y x)) := fun F A s va vb k ra rb => by
  obtain ⟨as, qa⟩ := Rep.reads x hx.1 ra
  obtain ⟨bs, qb⟩ := Rep.reads (.list l) hl.1 rb
  simp only [toPy] at qb
  have hs := hl.2
  unfold shaped at hs
  simp only [toPy, PyData.canLay0, PyData.depth, Bool.and_eq_true, decide_eq_true_eq] at hs
  refine notIn_list_reads qb qa hs.1 (canLay_of_shaped hx.2) (by have := k.room.u64; have := Nat.min_le_left (PyData.depthAll (toPys l)) (toPy x).depth; omega) ⟨s.heap, s.toks, rfl, Ext.refl _, ?_⟩
  simp only [Rep]
  rw [any_toPys]; rfl
theorem Op2.inTup {x : D} {l : List D} (hx : Cmp x) (hl : Cmp (.tup l)) : Op2 c (n + 8) (compareOp .In) x (.tup l) (.bool (l.any fun y => eqD y x)) := fun F A s va vb k ra rb => by
  obtain ⟨as, qa⟩ := Rep.reads x hx.1 ra
  obtain ⟨bs, qb⟩ := Rep.reads (.tup l) hl.1 rb
  simp only [toPy] at qb
  have hs := hl.2
  unfold shaped at hs
  simp only [toPy, PyData.canLay0, PyData.depth, Bool.and_eq_true, decide_eq_true_eq] at hs
  refine in_tuple_reads qb qa hs.1 (canLay_of_shaped hx.2) (by have := k.room.u64; have := Nat.min_le_left (PyData.depthAll (toPys l)) (toPy x).depth; omega) ⟨s.heap, s.toks, rfl, Ext.refl _, ?_⟩
  simp only [Rep]
  rw [any_toPys]; rfl
theorem Op2.addList {a b : List D} (hs : a.length + b.length ≤ sizeLine) : Op2 c n (binaryOp .Add) (.list a) (.list b) (.list (a ++ b)) := fun F A s va vb k ra rb => by
  obtain ⟨x, vs, rfl, _, ⟨⟨cl, dd, dt, sl⟩, e, hc, m, hd⟩, rs⟩ := ra.listInv
  obtain ⟨y, ws, rfl, _, ⟨⟨cl', dd', dt', sl'⟩, e', hc', m', hd'⟩, rs'⟩ := rb.listInv
  replace hc : cl = .type "list" := hc
  replace hd : dt = .seq vs.toArray m := hd
  replace hc' : cl' = .type "list" := hc'
  replace hd' : dt' = .seq ws.toArray m' := hd'
  subst hc; subst hd; subst hc'; subst hd'
  have hz : vs.toArray.size + ws.toArray.size ≤ sizeLine := by simp [rs.length, rs'.length]; exact hs
  refine concat_meets ⟨_, e, rfl⟩ ⟨_, e', rfl⟩ noFill_list_add seq_list_add PySem.F.slot_list_add PySem.F.entry_list_add (PySem.F.args_list_add_2 _ _) (list_addW x y vs.toArray ws.toArray m m' dd dd' sl sl' hz) ⟨e, e', ?_⟩
  have ee : vs.toArray ++ ws.toArray = (vs ++ ws).toArray := by simp
  rw [ee]
  refine ⟨_, s.toks, rfl, Ext.push _ _, ?_⟩
  simp only [Rep]
  exact ⟨_, vs ++ ws, rfl, k.new (fresh_at _), ⟨_, Heap.get?_push_size _ rfl, rfl, _, rfl⟩, (Reps.append rs rs').ext (Ext.push _ _)⟩
end
end Qp
namespace Qp
open PySem PySem.Calls PyProof.Rows PySem.W PySem.SeqAt

/-- items at an index -/
noncomputable def idx? {α : Type} (l : List α) (i : Int) : Option α := (seqIndex? i l.length).bind (l[·]?)
/-- items of a slice -/
noncomputable def pick {α : Type} (l : List α) (lo hi st : Option Int) : List α :=
  (sliceRange (sliceBounds lo hi st l.length).1 (sliceBounds lo hi st l.length).2.1 (sliceBounds lo hi st l.length).2.2).filterMap (l[·]?)
theorem pick_plain {α : Type} (l : List α) (lo hi : Option Int) :
    pick l lo hi none = (l.drop (lo.elim 0 (clipAt l.length))).take (hi.elim l.length (clipAt l.length) - lo.elim 0 (clipAt l.length)) := by
  unfold pick
  rw [sliceBounds_plain]
  simp only [sliceRange_one]
  have := pick_run l.toArray (lo.elim 0 (clipAt l.length)) (hi.elim l.length (clipAt l.length) - lo.elim 0 (clipAt l.length))
  simpa using this
theorem Reps.pickAt {F : Addr → Prop} {h : Heap} {vs : List Value} {ds : List D} (r : Reps F h vs ds) : ∀ (is : List Nat), Reps F h (is.filterMap (vs[·]?)) (is.filterMap (ds[·]?))
  | [] => Reps.nil
  | i :: is => by
    have ih := Reps.pickAt r is
    simp only [List.filterMap_cons]
    cases e : ds[i]? with
    | none =>
      have : vs[i]? = none := by
        rw [List.getElem?_eq_none_iff] at e ⊢; rw [r.length]; exact e
      rw [this]; exact ih
    | some d =>
      obtain ⟨v, hv, q⟩ := r.get e
      rw [hv]; exact Reps.cons q ih
theorem Reps.pick {F : Addr → Prop} {h : Heap} {vs : List Value} {ds : List D} (r : Reps F h vs ds) (lo hi st : Option Int) : Reps F h (pick vs lo hi st) (Qp.pick ds lo hi st) := by
  unfold Qp.pick
  rw [r.length]
  exact r.pickAt _
theorem slicePick_pick (vs : List Value) (lo hi st : Option Int) : slicePick vs.toArray lo hi st = (pick vs lo hi st).toArray := by
  unfold slicePick pick
  simp

noncomputable def EvP (c : Cx) (n : Nat) (sc : Scope) (ρ : Str → Option D) : Option Expr → Option Int → Prop
  | none, none => True
  | some e, some i => Ev c n sc ρ e (.int i)
  | _, _ => False

section
variable {c : Cx} {n : Nat} {sc : Scope} {ρ : Str → Option D}
theorem EvP.run {x : Option Expr} {i : Option Int} (h : EvP c n sc ρ x i) {F : Addr → Prop} {A : Around} {s : Shared} {env : Env} (k : At c n F A env sc ρ s.heap) :
    W c A s (evalPart x env) fun v _ => ∃ t : Option (Int × Tok), v = partValue t ∧ t.map (·.1) = i := by
  cases x with
  | none =>
    cases i with
    | none => exact W.pure ⟨none, rfl, rfl⟩
    | some i => exact h.elim
  | some e =>
    cases i with
    | none => exact h.elim
    | some i =>
      refine (Ev.mono (m := n) h (Nat.le_refl _) F A s env k).mono fun v h' _ q => ?_
      obtain ⟨t, rfl⟩ := q
      exact ⟨some (i, t), rfl, rfl⟩
theorem partOf (t : Option (Int × Tok)) : IsPart (partValue t) (t.map (·.1)) := by
  cases t with
  | none => exact .none
  | some p => exact .int _ _
theorem subscripted_slice {lo hi st : Option Expr} {p : Pos} {o i : Value} : ∃ ops, subscripted (.Slice lo hi st p) false o i = operate ops (getItem o i) := by
  cases st with
  | none => exact ⟨_, rfl⟩
  | some e => exact ⟨_, rfl⟩

theorem Ev.sliceL {x : Expr} {lo hi st : Option Expr} {p pos : Pos} {l u z : Option Int} {ds : List D} (h : Ev c n sc ρ x (.list ds)) (hl : EvP c n sc ρ lo l) (hu : EvP c n sc ρ hi u) (hz : EvP c n sc ρ st z)
    (h0 : z ≠ some 0) (hs : ds.length ≤ sizeLine) : Ev c n sc ρ (.Subscript x (.Slice lo hi st p) pos) (.list (pick ds l u z)) := fun F A s env k => by
  refine Subscript_ ((h F A s env k).use fun o h₁ t₁ e₁ ro => wpAny_Slice ((hl.run (s := { s with heap := h₁, toks := t₁ }) (k.ext e₁)).use fun vl h₂ t₂ e₂ rl => (hu.run (s := { s with heap := h₂, toks := t₂ }) ((k.ext e₁).ext e₂)).use fun vu h₃ t₃ e₃ ru =>
    (hz.run (s := { s with heap := h₃, toks := t₃ }) (((k.ext e₁).ext e₂).ext e₃)).use fun vz h₄ t₄ e₄ rz => ?_))
  obtain ⟨tl, rfl, rfl⟩ := rl
  obtain ⟨tu, rfl, rfl⟩ := ru
  obtain ⟨tz, rfl, rfl⟩ := rz
  obtain ⟨a, vs, rfl, _, il, rs⟩ := (((ro.ext e₂).ext e₃).ext e₄).listInv
  obtain ⟨ops, hops⟩ := @subscripted_slice lo hi st p (.ref a) (.ref h₄.objs.size)
  refine tail_any (il.push _).typeIs slot_list_getitem.lookup (wpAny_getItem_list_slice (il.push _) (Heap.IsSliceOf.new ..) (partOf tl) (partOf tu) (partOf tz) h0 ⟨_, _, rfl, ?_, ?_⟩ (by simp [rs.length]; exact hs)) hops
  · exact (((e₁.trans e₂).trans e₃).trans e₄).trans ((Ext.push _ _).trans (Ext.push _ _))
  · rw [slicePick_pick]
    simp only [Rep]
    refine ⟨_, _, rfl, ((((k.ok.ext e₁).ext e₂).ext e₃).ext e₄).new ((Ext.push h₄ _).none (fresh_at _)), ⟨_, Heap.get?_push_size _ rfl, rfl, _, rfl⟩, ?_⟩
    exact ((rs.pick _ _ _).ext (Ext.push _ _)).ext (Ext.push _ _)

theorem Ev.idxL {x i : Expr} {pos : Pos} {ds : List D} {k : Int} {d : D} (h : Ev c n sc ρ x (.list ds)) (hi : Ev c n sc ρ i (.int k)) (hd : idx? ds k = some d) (hf : (ds.length : Int) < 2 ^ 63)
    (hsub : ∀ o j, subscripted i false o j = operate [o, j] (getItem o j) := by intro _ _; rfl) : Ev c n sc ρ (.Subscript x i pos) d := fun F A s env kk => by
  refine Subscript_ ((h F A s env kk).use fun o h₁ t₁ e₁ ro => (hi F A { s with heap := h₁, toks := t₁ } env (kk.ext e₁)).use fun vi h₂ t₂ e₂ ri => ?_)
  obtain ⟨t, rfl⟩ := ri
  obtain ⟨a, vs, rfl, _, il, rs⟩ := (ro.ext e₂).listInv
  unfold idx? at hd
  cases e : seqIndex? k ds.length with
  | none => rw [e] at hd; cases hd
  | some j =>
    rw [e] at hd
    have hd' : ds[j]? = some d := hd
    obtain ⟨v, hv, rv⟩ := rs.get hd'
    unfold seqIndex? at e
    refine tail_any il.typeIs slot_list_getitem.lookup ?_ (hsub _ _)
    by_cases hk : k < 0
    · rw [if_pos hk] at e
      simp only [Bool.and_eq_true, decide_eq_true_eq] at e
      split at e
      · rename_i hh
        have ej : j = (k + ds.length).toNat := by simpa using (Option.some.inj e).symm
        subst ej
        refine wpAny_getItem_list_neg il hk (by rw [List.size_toArray, rs.length]; omega) (by omega) (x := v) ?_ ⟨h₂, t₂, rfl, e₁.trans e₂, rv⟩
        rw [List.size_toArray, rs.length]; simpa using hv
      · cases e
    · rw [if_neg hk] at e
      simp only [Bool.and_eq_true, decide_eq_true_eq] at e
      split at e
      · rename_i hh
        have ej : j = k.toNat := by simpa using (Option.some.inj e).symm
        subst ej
        refine wpAny_getItem_list il (by omega) (by omega) (x := v) (by simpa using hv) ⟨h₂, t₂, rfl, e₁.trans e₂, rv⟩
      · cases e
theorem Ev.idxT {x i : Expr} {pos : Pos} {ds : List D} {k : Int} {d : D} (h : Ev c n sc ρ x (.tup ds)) (hi : Ev c n sc ρ i (.int k)) (hd : idx? ds k = some d) (h1 : -(2 ^ 63) ≤ k) (h2 : k < 2 ^ 63)
    (hsub : ∀ o j, subscripted i false o j = operate [o, j] (getItem o j) := by intro _ _; rfl) : Ev c n sc ρ (.Subscript x i pos) d := fun F A s env kk => by
  refine Subscript_ ((h F A s env kk).use fun o h₁ t₁ e₁ ro => (hi F A { s with heap := h₁, toks := t₁ } env (kk.ext e₁)).use fun vi h₂ t₂ e₂ ri => ?_)
  obtain ⟨t, rfl⟩ := ri
  obtain ⟨a, vs, rfl, _, il, rs⟩ := (ro.ext e₂).tupInv
  unfold idx? at hd
  cases e : seqIndex? k ds.length with
  | none => rw [e] at hd; cases hd
  | some j =>
    rw [e] at hd
    have hd' : ds[j]? = some d := hd
    obtain ⟨v, hv, rv⟩ := rs.get hd'
    exact item_tupleT il h1 h2 (by rw [rs.length]; exact e) hv ⟨h₂, t₂, rfl, e₁.trans e₂, rv⟩ (hsub _ _)
theorem Ev.idxS {x i : Expr} {pos : Pos} {y : Str} {k : Int} {ch : Nat} (h : Ev c n sc ρ x (.str y)) (hi : Ev c n sc ρ i (.int k)) (hd : idx? y.cps.toList k = some ch) (h1 : -(2 ^ 63) ≤ k) (h2 : k < 2 ^ 63)
    (hsub : ∀ o j, subscripted i false o j = operate [o, j] (getItem o j) := by intro _ _; rfl) : Ev c n sc ρ (.Subscript x i pos) (.str ⟨#[ch]⟩) := fun F A s env kk => by
  refine Subscript_ ((h F A s env kk).use fun o h₁ t₁ e₁ ro => (hi F A { s with heap := h₁, toks := t₁ } env (kk.ext e₁)).use fun vi h₂ t₂ e₂ ri => ?_)
  obtain ⟨t, rfl⟩ := ri
  obtain ⟨u, rfl⟩ := ro
  refine tail_any (typeIs_str _ _ _) PySem.F.slot_str_getitem.lookup (PyProof.Rows.getItem_str (c := ch) (by simp; omega) ?_ ⟨h₂, _, rfl, e₁.trans e₂, _, rfl⟩) (hsub _ _)
  unfold idx? at hd
  simpa [Str.length] using hd

/-- the part of a text -/
noncomputable def cutS (x : Str) (l u : Option Int) : Str := ⟨(pick x.cps.toList l u none).toArray⟩
theorem strIdx (l u : Option Int) (k : Nat) : Builtin.Str.strSliceIndices l u 1 k = sliceRange (sliceBounds l u none k).1 (sliceBounds l u none k).2.1 (sliceBounds l u none k).2.2 := by
  cases l <;> cases u <;> rfl
theorem take_all {α : Type} (l : List α) (a b : Nat) (ha : a ≤ l.length) (hb : b ≤ l.length) (h : b - a = l.length) : (l.drop a).take (b - a) = l := by
  have : a = 0 ∨ l.length = 0 := by omega
  rcases this with rfl | h0
  · rw [List.drop_zero, List.take_of_length_le (by omega)]
  · have : l = [] := List.length_eq_zero_iff.mp h0
    subst this; simp
theorem clip_le (n : Nat) (i : Int) : clipAt n i ≤ n := by have := clipAt_cast n i; omega
theorem Txt.slice_cut (x : Str) (l u : Option Int) : Txt.slice x l u = cutS x l u := by
  have e : (Builtin.Str.strSliceIndices l u 1 x.length).filterMap (x.cps[·]?) = pick x.cps.toList l u none := by
    rw [strIdx]; unfold pick
    simp [Str.length]
  unfold Txt.slice cutS
  split
  · rename_i h
    have hlen : (Builtin.Str.strSliceIndices l u 1 x.length).length = x.length := by simpa using h
    rw [pick_plain]
    rw [strIdx, sliceBounds_plain] at hlen
    simp only [sliceRange_one, List.length_map, List.length_range] at hlen
    have : x.cps.toList.length = x.length := by simp [Str.length]
    rw [this, take_all]
    · rw [this]; cases l with
      | none => simp
      | some i => exact clip_le _ _
    · rw [this]; cases u with
      | none => simp
      | some i => exact clip_le _ _
    · rw [this]; exact hlen
  · rw [e]
theorem Ev.sliceS {x : Expr} {lo hi : Option Expr} {p pos : Pos} {l u : Option Int} {y : Str} (h : Ev c n sc ρ x (.str y)) (hl : EvP c n sc ρ lo l) (hu : EvP c n sc ρ hi u)
    (hs : y.length ≤ sizeLine) : Ev c n sc ρ (.Subscript x (.Slice lo hi none p) pos) (.str (cutS y l u)) := fun F A s env k => by
  refine Subscript_ ((h F A s env k).use fun o h₁ t₁ e₁ ro => wpAny_Slice ((hl.run (s := { s with heap := h₁, toks := t₁ }) (k.ext e₁)).use fun vl h₂ t₂ e₂ rl => (hu.run (s := { s with heap := h₂, toks := t₂ }) ((k.ext e₁).ext e₂)).use fun vu h₃ t₃ e₃ ru => ?_))
  obtain ⟨tl, rfl, rfl⟩ := rl
  obtain ⟨tu, rfl, rfl⟩ := ru
  obtain ⟨t, rfl⟩ := ro
  rw [evalPart_none]
  refine wpAny_pure (tail_any (typeIs_str _ _ _) PySem.F.slot_str_getitem.lookup (wpAny_getItem_str_slice (l := tl) (u := tu) (st := none) ⟨_, Heap.get?_push_size _ rfl, rfl, rfl⟩ rfl ?_) rfl)
  refine post_val_or_str ⟨?_, fun t' tk => ⟨_, tk, rfl, ((e₁.trans e₂).trans e₃).trans (Ext.push _ _), t', ?_⟩⟩
  · exact Nat.le_trans (Txt.slice_le y _ _) hs
  · exact congrArg (fun z => Value.str z t') (Txt.slice_cut y _ _)

theorem Ev.boolAnd {x y : Expr} {pos : Pos} {a b : Bool} (h : Ev c n sc ρ x (.bool a)) (t : a = true → Ev c n sc ρ y (.bool b)) : Ev c n sc ρ (.BoolOp .And [x, y] pos) (.bool (a && b)) := fun F A s env k => by
  refine wpAny_And2 ((h F A s env k).use fun v h₁ t₁ e₁ q => ?_)
  have q' : v = .bool a := q
  subst q'
  refine wpAny_truthy_bool ?_
  cases a with
  | false => exact ⟨h₁, t₁, rfl, e₁, rfl⟩
  | true => exact (t rfl F A { s with heap := h₁, toks := t₁ } env (k.ext e₁)).use fun v h₂ t₂ e₂ q => ⟨h₂, t₂, rfl, e₁.trans e₂, q⟩
theorem Ev.boolOr {x y : Expr} {pos : Pos} {a b : Bool} (h : Ev c n sc ρ x (.bool a)) (t : a = false → Ev c n sc ρ y (.bool b)) : Ev c n sc ρ (.BoolOp .Or [x, y] pos) (.bool (a || b)) := fun F A s env k => by
  refine wpAny_Or2 ((h F A s env k).use fun v h₁ t₁ e₁ q => ?_)
  have q' : v = .bool a := q
  subst q'
  refine wpAny_truthy_bool ?_
  cases a with
  | true => exact ⟨h₁, t₁, rfl, e₁, rfl⟩
  | false => exact (t rfl F A { s with heap := h₁, toks := t₁ } env (k.ext e₁)).use fun v h₂ t₂ e₂ q => ⟨h₂, t₂, rfl, e₁.trans e₂, q⟩
theorem Op1.not {a : D} {b : Bool} (h : Tru c n a b) : Op1 c n (unaryOp .Not) a (.bool !b) := fun F A s va k r =>
  not_value ((h F A s va k r).use fun z h₁ t₁ e₁ q => ⟨h₁, t₁, rfl, e₁, by rw [q]; rfl⟩)
theorem Op2.inStr (y x : Str) : Op2 c n (compareOp .In) (.str y) (.str x) (.bool !(Builtin.Str.occurrences x y 0 x.length 1).isEmpty) := fun F A s va vb _ p q => by
  obtain ⟨t, rfl⟩ := p; obtain ⟨u, rfl⟩ := q; exact PyProof.Rows.in_str ⟨s.heap, s.toks, rfl, Ext.refl _, rfl⟩
theorem Op2.notInStr (y x : Str) : Op2 c n (compareOp .NotIn) (.str y) (.str x) (.bool (!(!(Builtin.Str.occurrences x y 0 x.length 1).isEmpty))) := fun F A s va vb _ p q => by
  obtain ⟨t, rfl⟩ := p; obtain ⟨u, rfl⟩ := q; exact PyProof.Rows.notIn_str ⟨s.heap, s.toks, rfl, Ext.refl _, rfl⟩
end
end Qp
namespace Qp
open PySem PySem.Calls PyProof.Rows PySem.W PySem.SeqAt

section
variable {c : Cx} {n : Nat} {sc : Scope} {ρ : Str → Option D}
theorem Ev.cmp2 {l r r' : Expr} {op op' : CmpOp} {pos : Pos} {a b b' : D} {z z' : Bool} (x : Ev c n sc ρ l a) (y : Ev c n sc ρ r b) (y' : Ev c n sc ρ r' b') (f : Op2 c n (compareOp op) a b (.bool z)) (f' : z = true → Op2 c n (compareOp op') b b' (.bool z'))
    (hm : lastMarks [op, op'] [r, r'] = false) : Ev c n sc ρ (.Compare l [op, op'] [r, r'] pos) (.bool (z && z')) := fun F A s env k => by
  refine Compare_chain ((x F A s env k).use fun va h₁ t₁ e₁ ra => chain_link ((y F A { s with heap := h₁, toks := t₁ } env (k.ext e₁)).use fun vb h₂ t₂ e₂ rb =>
    (f F A { s with heap := h₂, toks := t₂ } va vb ((k.ok.ext e₁).ext e₂) (ra.ext e₂) rb).use fun v h₃ t₃ e₃ rv => ?_)) hm
  have rv' : v = .bool z := rv
  subst rv'
  refine wpAny_truthy_bool ?_
  cases z with
  | false => exact ⟨h₃, t₃, rfl, (e₁.trans e₂).trans e₃, rfl⟩
  | true =>
    refine chain_last ((y' F A { s with heap := h₃, toks := t₃ } env (((k.ext e₁).ext e₂).ext e₃)).use fun vb' h₄ t₄ e₄ rb' => ?_)
    exact (f' rfl F A { s with heap := h₄, toks := t₄ } vb vb' ((((k.ok.ext e₁).ext e₂).ext e₃).ext e₄) ((rb.ext e₃).ext e₄) rb').use fun v h₅ t₅ e₅ rv => ⟨h₅, t₅, rfl, (((e₁.trans e₂).trans e₃).trans e₄).trans e₅, rv⟩
theorem Op1.neg (i : Int) : Op1 c n (unaryOp .USub) (.int i) (.int (-i)) := fun F A s va k r => by
  obtain ⟨t, rfl⟩ := r
  exact PyProof.Rows.neg_int ⟨s.heap, _, rfl, Ext.refl _, _, rfl⟩
theorem Op2.mulStr (x : Str) (k : Int) (h : MulOk x k) : Op2 c n (binaryOp .Mult) (.str x) (.int k) (.str (Txt.mul x k)) := fun F A s va vb _ p q => by
  obtain ⟨t, rfl⟩ := p; obtain ⟨u, rfl⟩ := q
  exact SB.mul h fun t' tk => ⟨s.heap, tk, rfl, Ext.refl _, t', rfl⟩
theorem Op2.iaddInt (a b : Int) : Op2 c n (inplaceOp .Add) (.int a) (.int b) (.int (a + b)) := fun F A s va vb _ x y => by
  obtain ⟨t, rfl⟩ := x; obtain ⟨u, rfl⟩ := y; exact wpAny_iadd_int ⟨s.heap, _, rfl, Ext.refl _, _, rfl⟩
theorem Op2.iaddStr (a b : Str) (hs : a.length + b.length ≤ sizeLine) : Op2 c n (inplaceOp .Add) (.str a) (.str b) (.str (a ++ b)) := fun F A s va vb _ x y => by
  obtain ⟨t, rfl⟩ := x; obtain ⟨u, rfl⟩ := y; exact PyProof.Rows.iadd_str (fun t' tk => ⟨s.heap, tk, rfl, Ext.refl _, t', rfl⟩) hs

/-- a method of a text -/
structure StrMeth (name : Str) (id : String) : Prop where
  slot : Slot "str" name id
  type : typeOf (.builtin id) = pure (.type "method_descriptor")
theorem Ev.meth0 {o : Expr} {name : Str} {id : String} {apos pos : Pos} {x : Str} {d : D} (h : Ev c n sc ρ o (.str x)) (m : StrMeth name id) (fn : Fn c n (.builtin id) [.str x] d)
    (hbase : ∀ env, attributeBase o name env (eval o env) = eval o env) (hline : (apos.endLine == pos.line) = true) : Ev c n sc ρ (.Call (.Attribute o name apos) [] [] pos) d := fun F A s env k => by
  refine Call_method0 (hbase env) hline ((h F A s env k).use fun v h₁ t₁ e₁ r => ?_)
  obtain ⟨t, rfl⟩ := r
  refine ⟨"str", id, PySem.F.plainAttrs_str, m.slot, m.type, typeIs_str _ _ _, (fun _ e => nomatch e), ?_⟩
  refine Calls.callWith_builtin rfl (wpAny_mono (Q := fun (a : Args) s' => a = ⟨[], []⟩ ∧ s' = { s with heap := h₁, toks := t₁ }) (E := fun _ _ => False) ?_ (fun a s' q => ?_) fun _ _ f => f.elim)
  · unfold evalArgs
    first
      | exact wpAny_pure ⟨rfl, rfl⟩
      | exact wpAny_bind (wpAny_pure (wpAny_holding (wpAny_bind (wpAny_pure (wpAny_bind (wpAny_pure (wpAny_pure ⟨rfl, rfl⟩)))))))
  · obtain ⟨rfl, rfl⟩ := q
    exact (fn F A { s with heap := h₁, toks := t₁ } [.str x t] (k.ok.ext e₁) (Reps.one ⟨t, rfl⟩)).use fun v h₂ t₂ e₂ r => ⟨h₂, t₂, rfl, e₁.trans e₂, r⟩
theorem Ev.meth1 {o e : Expr} {name : Str} {id : String} {apos pos : Pos} {x : Str} {a d : D} (h : Ev c n sc ρ o (.str x)) (he : Ev c n sc ρ e a) (m : StrMeth name id) (fn : Fn c n (.builtin id) [.str x, a] d)
    (hbase : ∀ env, attributeBase o name env (eval o env) = eval o env) (hline : (apos.endLine == pos.line) = true) (hs : ∀ env, starEach [e] env = [(false, eval e env)] := by intro _; rfl) : Ev c n sc ρ (.Call (.Attribute o name apos) [e] [] pos) d := fun F A s env k => by
  refine Call_method1 (hbase env) (hs env) hline ((h F A s env k).use fun v h₁ t₁ e₁ r => ?_)
  obtain ⟨t, rfl⟩ := r
  refine ⟨"str", id, PySem.F.plainAttrs_str, m.slot, m.type, typeIs_str _ _ _, (fun _ e => nomatch e), ?_⟩
  refine Calls.callWith_builtin rfl (Calls.evalArgs_plain (Calls.spliced_cons ((he F A { s with heap := h₁, toks := t₁ } env (k.ext e₁)).use fun va h₂ t₂ e₂ ra => Calls.spliced_nil ?_)))
  exact (fn F A { s with heap := h₂, toks := t₂ } [.str x t, va] ((k.ok.ext e₁).ext e₂) (Reps.cons ⟨t, rfl⟩ (Reps.one ra))).use fun v h₃ t₃ e₃ r => ⟨h₃, t₃, rfl, (e₁.trans e₂).trans e₃, r⟩

theorem mSplitlines : StrMeth "splitlines" "str.splitlines" := ⟨PySem.F.slot_str_splitlines, PySem.F.type_str_splitlines⟩
theorem mRstrip : StrMeth "rstrip" "str.rstrip" := ⟨PySem.F.slot_str_rstrip, PySem.F.type_str_rstrip⟩
theorem mEndswith : StrMeth "endswith" "str.endswith" := ⟨PySem.F.slot_str_endswith, PySem.F.type_str_endswith⟩
theorem mJoin : StrMeth "join" "str.join" := ⟨PySem.F.slot_str_join, PySem.F.type_str_join⟩
theorem mTranslate : StrMeth "translate" "str.translate" := ⟨PySem.F.slot_str_translate, PySem.F.type_str_translate⟩

theorem Fn.rstrip (x : Str) (hs : x.length ≤ sizeLine) : Fn c n (.builtin "str.rstrip") [.str x] (.str (Txt.rstrip x)) := fun F A s vs k rs => by
  obtain ⟨v, rfl, t, rfl⟩ := rs.oneInv
  exact SC.rstrip (fun t' tk => ⟨s.heap, tk, rfl, Ext.refl _, t', rfl⟩) hs
theorem Fn.endswith (x y : Str) : Fn c n (.builtin "str.endswith") [.str x, .str y] (.bool (Txt.endswith x y)) := fun F A s vs k rs => by
  obtain ⟨v, v', rfl, ⟨t, rfl⟩, u, rfl⟩ := rs.twoInv
  exact SC.endswith ⟨s.heap, s.toks, rfl, Ext.refl _, rfl⟩
theorem Reps.strs {F : Addr → Prop} {h : Heap} : ∀ {ns : List Str} {vs : List Value}, Reps F h vs (ns.map D.str) → ∃ l, vs = strValues l ∧ l.map (·.1) = ns
  | [], vs, r => by simp only [List.map_nil, Reps] at r; subst r; exact ⟨[], rfl, rfl⟩
  | n :: ns, vs, r => by
    simp only [List.map_cons, Reps] at r
    obtain ⟨v, vs', rfl, ⟨t, rfl⟩, rs⟩ := r
    obtain ⟨l, rfl, rfl⟩ := Reps.strs rs
    exact ⟨(n, t) :: l, rfl, rfl⟩
theorem Reps.strsFrom {F : Addr → Prop} {h : Heap} : ∀ (ns : List Str) (tk : Nat), Reps F h (strsFrom tk ns) (ns.map D.str)
  | [], _ => Reps.nil
  | n :: ns, tk => Reps.cons ⟨tk, rfl⟩ (Reps.strsFrom ns (tk + 1))
theorem Fn.join (x : Str) (ts : List Str) (hs : JoinOk x ts = true) : Fn c n (.builtin "str.join") [.str x, .list (ts.map D.str)] (.str (Txt.join x ts)) := fun F A s vs k rs => by
  obtain ⟨v, v', rfl, ⟨t, rfl⟩, r⟩ := rs.twoInv
  obtain ⟨a, ws, rfl, _, il, rs'⟩ := r.listInv
  obtain ⟨l, rfl, rfl⟩ := rs'.strs
  have hs' := hs
  unfold JoinOk at hs'
  rw [Bool.not_eq_true'] at hs'
  exact call_meets PySem.F.slot_str_join (typeIs_str _ _ _) PySem.F.entry_str_join (PySem.F.args_str_join_2 _ _) (meets_str_join_list x t a l hs')
    ⟨il, post_join l ⟨joinFit_length hs', fun t' tk => ⟨s.heap, tk, rfl, Ext.refl _, t', rfl⟩⟩⟩
theorem Fn.splitlines (x : Str) (hs : x.length ≤ sizeLine) (hs2 : (lineCuts x).length ≤ sizeLine) : Fn c n (.builtin "str.splitlines") [.str x] (.list ((linesOf x).map D.str)) := fun F A s vs k rs => by
  obtain ⟨v, rfl, t, rfl⟩ := rs.oneInv
  refine call_meets PySem.F.slot_str_splitlines (typeIs_str _ _ _) PySem.F.entry_str_splitlines (PySem.F.args_str_splitlines_1 _) (meets_str_splitlines x t hs hs2) ?_
  by_cases h : (lineCuts x == [(0, x.length)]) = true
  · simp only [if_pos h]
    refine ⟨_, s.toks, rfl, Ext.push _ _, ?_⟩
    have e : linesOf x = [x] := by
      unfold linesOf
      rw [eq_of_beq h]
      simp only [List.map_cons, List.map_nil]
      congr 1
      show (⟨x.cps.extract 0 x.cps.size⟩ : Str) = x
      rw [Array.extract_size]
    rw [e]
    simp only [Rep]
    exact ⟨_, [.str x t], rfl, k.new (fresh_at _), ⟨_, Heap.get?_push_size _ rfl, rfl, _, rfl⟩, Reps.one ⟨t, rfl⟩⟩
  · simp only [if_neg h]
    refine ⟨_, _, rfl, Ext.push _ _, ?_⟩
    simp only [Rep]
    exact ⟨_, _, rfl, k.new (fresh_at _), ⟨_, Heap.get?_push_size _ rfl, rfl, _, rfl⟩, Reps.strsFrom _ _⟩
end
end Qp
namespace Qp
open PySem PySem.Calls PyProof.Rows PySem.W PySem.SeqAt PySem.Builtin PySem.Builtin.Str

section
variable {prog : Program} {w : World} {A : Around} {E : Value → Shared → Prop} {s : Shared}
theorem tableLookup_list {a : Addr} {vs : List Value} {k : Nat} {y : Str} {u : Tok} {Q : Mapped → Shared → Prop} (il : s.heap.IsList a vs.toArray) (hv : vs[k]? = some (.str y u)) (hk : k < 2 ^ 63)
    (h : ∀ tk, Q (.text y) { s with toks := tk }) : wpAny (model prog w) A (tableLookup (.ref a) k) Q E s := by
  unfold tableLookup
  refine wpAny_bind (wpAny_attempt (wpAny_bind (wpAny_mkInt ?_)))
  refine wpAny_getItem_list (s := { s with toks := s.toks + 1 }) il (by omega) (by omega) (x := .str y u) (by simpa using hv) ?_
  exact wpAny_bind (wpAny_pure (wpAny_bind (wpAny_pure (wpAny_pure (h _)))))

/-- the text that a table makes -/
noncomputable def trans (T : List Str) (cs : List Nat) : List Nat := cs.flatMap fun k => (T.getD k ⟨#[]⟩).cps.toList
theorem trans_append (T : List Str) (a b : List Nat) : trans T (a ++ b) = trans T a ++ trans T b := by simp [trans]
theorem trans_len {T : List Str} (h3 : ∀ t ∈ T, t.length ≤ 3) : ∀ cs, (trans T cs).length ≤ 3 * cs.length
  | [] => by simp [trans]
  | k :: cs => by
    have ih := trans_len h3 cs
    have : (T.getD k ⟨#[]⟩).cps.toList.length ≤ 3 := by
      by_cases hk : k < T.length
      · have : T.getD k ⟨#[]⟩ = T[k] := by simp [List.getD, hk]
        rw [this]
        simpa [Str.length] using h3 _ (List.getElem_mem hk)
      · have : T.getD k ⟨#[]⟩ = ⟨#[]⟩ := by simp [List.getD, Nat.not_lt.mp hk]
        rw [this]; simp
    have e : trans T (k :: cs) = (T.getD k ⟨#[]⟩).cps.toList ++ trans T cs := by simp [trans]
    rw [e, List.length_append, List.length_cons]
    omega

structure TrInv (T : List Str) (x : Str) (s : Shared) (rest : List Nat) (b : List Str × Nat × Bool × List (Nat × Option Nat) × Bool) (s' : Shared) : Prop where
  st : ∃ tk, s' = { s with toks := tk }
  done : ∃ dn, x.cps.toList = dn ++ rest ∧ b.1.reverse.flatMap (fun p => p.cps.toList) = trans T dn ∧ b.2.1 = (trans T dn).length
  known : ∀ k o, b.2.2.2.1.lookup k = some o → ∃ d, o = some d ∧ T[k]? = some ⟨#[d]⟩
  drop : b.2.2.2.2 = false

theorem fold_cps (l : List Str) : ∀ acc : Array Nat, (l.foldl (fun acc p => acc ++ p.cps) acc) = acc ++ (l.flatMap fun p => p.cps.toList).toArray := by
  induction l with
  | nil => intro acc; simp
  | cons p l ih =>
    intro acc
    rw [List.foldl_cons, ih, List.flatMap_cons, Array.append_assoc]
    congr 1
    apply Array.toList_inj.mp
    simp

theorem call_translate {a : Addr} {l : List (Str × Tok)} {x : Str} {t : Tok} {Q : Value → Shared → Prop} (hx : x.length ≠ 0) (il : s.heap.IsList a (strValues l).toArray) (h3 : ∀ y ∈ l.map (·.1), y.length ≤ 3) (hc : ∀ k ∈ x.cps.toList, k < l.length)
    (hl : x.length ≤ 1000) (hl2 : l.length ≤ 1000) (hq : ∀ tk t', Q (.str ⟨(trans (l.map (·.1)) x.cps.toList).toArray⟩ t') { s with toks := tk }) :
    wpAny (model prog w) A (call (.builtin "str.translate") [.str x t, .ref a]) Q E s := by
  refine wpAny_call (codeAny_call_builtin PySem.F.slot_str_translate.plain PySem.F.entry_str_translate (PySem.F.slot_str_translate.check _ _ _ _ _ _ _ _ (typeIs_str _ _ _) (PySem.F.args_str_translate_2 _ _) ?_))
  have hx' : (x.length == 0) = false := by simpa using hx
  show wpAny _ _ (if (x.length == 0) = true then _ else _) _ _ s
  rw [hx']
  simp only [Bool.false_eq_true, if_false]
  have h16 : sizeLine = 16777216 := sizeLine_eq
  have hxl : x.cps.toList.length = x.length := by simp [Str.length]
  refine wpAny_bind (wpAny_forIn_array' _ (TrInv (l.map (·.1)) x s) _ ?_ (fun b s' i => ?_) x.cps _ ⟨⟨s.toks, rfl⟩, ⟨[], rfl, by simp [trans], by simp [trans]⟩, fun k o e => by simp at e, rfl⟩)
  · rintro k rest ⟨pieces, total, fast, known, ad⟩ s' ⟨⟨tk, rfl⟩, ⟨dn, hd, hp, ht⟩, hkn, had⟩
    dsimp only at hp ht hkn had ⊢
    subst had
    have hkm : k < l.length := hc k (by rw [hd]; simp)
    have hdl : dn.length ≤ x.length := by rw [← hxl, hd]; simp
    have hsm : tooLong total = false := by
      unfold tooLong
      have := trans_len h3 dn
      exact decide_eq_false (by omega)
    have hv : (strValues l)[k]? = some (.str l[k].1 l[k].2) := by simp [strValues, hkm]
    have hT : (l.map (·.1))[k]? = some l[k].1 := by simp [hkm]
    have hTd : trans (l.map (·.1)) (dn ++ [k]) = trans (l.map (·.1)) dn ++ l[k].1.cps.toList := by
      rw [trans_append]; congr 1; simp [trans, List.getD, hkm]
    have hd' : x.cps.toList = (dn ++ [k]) ++ rest := by rw [hd]; simp
    have slow : ∀ (known' : List (Nat × Option Nat)) tk, (∀ k o, known'.lookup k = some o → ∃ d, o = some d ∧ (l.map (·.1))[k]? = some ⟨#[d]⟩) → TrInv (l.map (·.1)) x s rest (l[k].1 :: pieces, total + l[k].1.length, false, known', false) { s with toks := tk } := fun known' tk hk' =>
      ⟨⟨tk, rfl⟩, ⟨dn ++ [k], hd', by simp only [List.reverse_cons, List.flatMap_append, hp, hTd]; simp, by rw [hTd, List.length_append, ht]; simp [Str.length]⟩, hk', rfl⟩
    have one : ∀ (d : Nat) (known' : List (Nat × Option Nat)) f tk, l[k].1 = ⟨#[d]⟩ → (∀ k o, known'.lookup k = some o → ∃ d, o = some d ∧ (l.map (·.1))[k]? = some ⟨#[d]⟩) → TrInv (l.map (·.1)) x s rest (⟨#[d]⟩ :: pieces, total + 1, f, known', false) { s with toks := tk } := fun d known' f tk e hk' =>
      ⟨⟨tk, rfl⟩, ⟨dn ++ [k], hd', by simp only [List.reverse_cons, List.flatMap_append, hp, hTd, e]; simp, by rw [hTd, List.length_append, ht, e]; simp⟩, hk', rfl⟩
    simp only [hsm, Bool.false_eq_true, if_false]
    cases fast with
    | false =>
      simp only [Bool.false_eq_true, if_false]
      exact wpAny_bind (tableLookup_list (s := { s with toks := tk }) il hv (by omega) fun tk' => wpAny_pure (slow known tk' hkn))
    | true =>
      simp only [if_true]
      cases hlk : known.lookup k with
      | some o =>
        obtain ⟨d, rfl, hTk⟩ := hkn k o hlk
        rw [hT] at hTk
        have e : l[k].1 = ⟨#[d]⟩ := Option.some.inj hTk
        exact wpAny_bind (wpAny_pure (wpAny_pure (one d known true tk e hkn)))
      | none =>
        refine wpAny_bind (tableLookup_list (s := { s with toks := tk }) il hv (by omega) fun tk' => ?_)
        dsimp only
        by_cases h1 : (l[k].1.length == 1 && l[k].1.cps.all fun x => decide (x < 128)) = true
        · simp only [h1, if_true]
          have hlen : l[k].1.cps.size = 1 := by simp only [Bool.and_eq_true, beq_iff_eq] at h1; exact h1.1
          obtain ⟨d, hdd⟩ : ∃ d, l[k].1 = ⟨#[d]⟩ := by
            rcases hlk' : l[k].1 with ⟨⟨cs⟩⟩
            rw [hlk'] at hlen
            match cs, hlen with
            | [d], _ => exact ⟨d, rfl⟩
          have e0 : l[k].1.cps[0]? = some d := by rw [hdd]; rfl
          rw [e0]
          refine wpAny_bind (wpAny_pure (wpAny_pure (one d _ true tk' hdd fun k' o' e' => ?_)))
          rw [List.lookup_cons] at e'
          by_cases hkk : (k' == k) = true
          · rw [hkk] at e'
            have : k' = k := eq_of_beq hkk
            subst this
            exact ⟨d, (Option.some.inj e').symm, by rw [hT, hdd]⟩
          · have hkf : (k' == k) = false := by simpa using hkk
            rw [hkf] at e'
            exact hkn k' o' e'
        · simp only [h1, if_false]
          refine wpAny_bind (wpAny_pure (wpAny_bind (wpAny_rule ?_)))
          try simp only [Bool.false_eq_true, if_false]
          exact wpAny_bind (tableLookup_list (s := { s with toks := tk' }) il hv (by omega) fun tk'' => wpAny_pure (slow known tk'' hkn))
  · obtain ⟨⟨tk, rfl⟩, ⟨dn, hd, hp, ht⟩, _, _⟩ := i
    rw [List.append_nil] at hd
    subst hd
    have hln := trans_len h3 x.cps.toList
    have hsm : tooLong b.2.1 = false := by
      unfold tooLong
      rw [ht]
      exact decide_eq_false (by omega)
    rw [hsm]
    simp only [Bool.false_eq_true, if_false]
    rw [fold_cps, hp]
    simp only [Array.empty_append]
    exact wpAny_bind (wpAny_mkStr (wpAny_pure (hq _ _)) (by show (trans _ _).toArray.size ≤ sizeLine; rw [List.size_toArray]; omega))
end

theorem Fn.translate {c : Cx} {n : Nat} (x : Str) (T : List Str) (hx : x.length ≠ 0) (h3 : ∀ y ∈ T, y.length ≤ 3) (hc : ∀ k ∈ x.cps.toList, k < T.length) (hl : x.length ≤ 1000) (hl2 : T.length ≤ 1000) :
    Fn c n (.builtin "str.translate") [.str x, .list (T.map D.str)] (.str ⟨(trans T x.cps.toList).toArray⟩) := fun F A s vs k rs => by
  obtain ⟨v, v', rfl, ⟨t, rfl⟩, r⟩ := rs.twoInv
  obtain ⟨a, ws, rfl, _, il, rs'⟩ := r.listInv
  obtain ⟨l, rfl, rfl⟩ := rs'.strs
  exact call_translate hx il h3 (by simpa using hc) hl (by simpa using hl2) fun tk t' => ⟨s.heap, tk, rfl, Ext.refl _, t', rfl⟩
end Qp
namespace Qp
open PySem PySem.Calls PyProof.Rows PySem.W
theorem swap_any {e : Expr} {g : List Comprehension} {s : Scope} {p q : Pos} {t : Str} {line : Nat} {sc : Scope} {b : Bool} {env : Env} (hs : env.scope = sc) (hk : sc.kind = .function)
    (hb : (sc.names.lookup t == some .local && q.line == p.line && !(s.names.any fun x => x.1 == t && (x.2 == .local || x.2 == .cell))) = b) :
    swapsWith (.ListComp e g s p) (some (.Name t q)) line env = pure b := by
  subst hb
  subst hs
  show pure _ = pure _
  congr 1
  have : env.blockKind = .function := by unfold Env.blockKind; rw [hk]; first | rfl | simp
  rw [this]
  rfl
end Qp
namespace Qp
open PySem PySem.Calls PyProof.Rows PySem.W PySem.NumText

/-- the code of a great hexadecimal figure -/
noncomputable def hexC (d : Nat) : Nat := if d < 10 then 48 + d else 55 + d
theorem read16 : ∀ k, k < 256 → (int_private% "readNumeral") 0 16 [hexC (k / 16), hexC (k % 16)] = (int_private% "Numeral.value") (k : Int) := by
  intro k hk
  rw [readNumeral_eq]
  revert k
  have : ∀ k : Fin 256, judge 0 (sign (([hexC (k.1 / 16), hexC (k.1 % 16)] : List Nat).dropWhile blank)).1 (based 16 (sign (([hexC (k.1 / 16), hexC (k.1 % 16)] : List Nat).dropWhile blank)).2).1 (based 16 (sign (([hexC (k.1 / 16), hexC (k.1 % 16)] : List Nat).dropWhile blank)).2).2.1
      (digits? (based 16 (sign (([hexC (k.1 / 16), hexC (k.1 % 16)] : List Nat).dropWhile blank)).2).1 (((based 16 (sign (([hexC (k.1 / 16), hexC (k.1 % 16)] : List Nat).dropWhile blank)).2).2.2.reverse.dropWhile blank).reverse)) = (int_private% "Numeral.value") (k.1 : Int) := by
    intro k
    have dg : digits? 16 [hexC (k.1 / 16), hexC (k.1 % 16)] = some #[k.1 / 16, k.1 % 16] := by revert k; decide +kernel
    have nb : ([hexC (k.1 / 16), hexC (k.1 % 16)] : List Nat).dropWhile blank = [hexC (k.1 / 16), hexC (k.1 % 16)] := by revert k; decide +kernel
    have sg : sign [hexC (k.1 / 16), hexC (k.1 % 16)] = (false, [hexC (k.1 / 16), hexC (k.1 % 16)]) := by revert k; decide +kernel
    have bs : based 16 [hexC (k.1 / 16), hexC (k.1 % 16)] = (16, false, [hexC (k.1 / 16), hexC (k.1 % 16)]) := by revert k; decide +kernel
    have rv : ((([hexC (k.1 / 16), hexC (k.1 % 16)] : List Nat).reverse.dropWhile blank).reverse) = [hexC (k.1 / 16), hexC (k.1 % 16)] := by revert k; decide +kernel
    rw [nb, sg]
    dsimp only
    rw [bs]
    dsimp only
    rw [rv, dg]
    show (int_private% "Numeral.value") (((0 * 16 + k.1 / 16) * 16 + k.1 % 16 : Nat) : Int) = _
    congr 1
    have := k.2
    omega
  exact fun k hk => this ⟨k, hk⟩
theorem wp16 {M : Model} {A : Around} {E : Value → Shared → Prop} {s : Shared} {Q : Value → Shared → Prop} {v : Value} {text : List Nat} {n : Int}
    (hs : (text.takeWhile (· != 0)).length ≤ 640) (hr : (int_private% "readNumeral") 0 16 (text.takeWhile (· != 0)) = (int_private% "Numeral.value") n)
    (ha : ((text.takeWhile (· != 0)).length == text.length) = true) (h : Q (.int n s.toks) { s with toks := s.toks + 1 }) :
    wpAny M A ((int_private% "intFromText") v text 16) Q E s := by
  obtain ⟨hp, g, d, tk, os⟩ := s
  repeat (any_goals (first
    | assumption
    | (with_reducible refine wpAny_ite_true (decide_eq_true hs) ?_)
    | (with_reducible refine wpAny_ite_true (decide_eq_true ha) ?_)
    | wp_step))
  all_goals (try rw [hr])
  all_goals (try dsimp only)
  repeat (any_goals (first
    | assumption
    | (with_reducible refine wpAny_ite_true (decide_eq_true hs) ?_)
    | (with_reducible refine wpAny_ite_true (decide_eq_true ha) ?_)
    | wp_step))
structure Hid (p : Prop) : Prop where
  out : p
set_option maxHeartbeats 4000000 in
theorem gives16 {x : Str} {u t : Tok} {n : Int} (h1 : x.cps.all (· < 128) = true) (h2 : (x.cps.toList.takeWhile (· != 0)).length ≤ 640) (h3 : (int_private% "readNumeral") 0 16 (x.cps.toList.takeWhile (· != 0)) = (int_private% "Numeral.value") n)
    (h4 : ((x.cps.toList.takeWhile (· != 0)).length == x.cps.toList.length) = true) : Gives (Builtin.«int.__new__» ⟨[.type "int", .str x u, .int 16 t], []⟩) (.int n) :=
  .of_wp fun M A E s Q h => by
    obtain ⟨hp, g, d, tk, os⟩ := s
    have f1 := PySem.F.conv_sub_int
    have f2 := PySem.F.madeHere_int
    have hk := Hid.mk (And.intro h2 (And.intro h3 h4))
    have e1 : (if x.cps.all (· < 128) then x.cps.toList else Unicode.numberText x.cps.toList) = x.cps.toList := by rw [h1]; rfl
    have e2 := Hid.mk e1
    clear h1 h2 h3 h4 e1
    repeat (any_goals (first
      | assumption
      | ((with_reducible show wpAny _ _ ((int_private% "intFromText") _ _ _) _ _ _); rw [e2.out]; refine wp16 hk.out.1 hk.out.2.1 hk.out.2.2 ?_)
      | wp_step))
    all_goals first | exact ⟨_, rfl, h⟩ | skip
theorem typeCall_int_2 (a b : Value) : checkTypeCall "int" ⟨[a, b], []⟩ = pure () := by kernel_rfl
theorem newCall_int_2 (a b : Value) : checkBuiltinCall "int.__new__" ⟨[.type "int", a, b], []⟩ = pure () := by kernel_rfl
theorem hex_ok : ∀ k, k < 256 → (#[hexC (k / 16), hexC (k % 16)] : Array Nat).all (· < 128) = true ∧ ([hexC (k / 16), hexC (k % 16)] : List Nat).takeWhile (· != 0) = [hexC (k / 16), hexC (k % 16)] := by
  have : ∀ k : Fin 256, (#[hexC (k.1 / 16), hexC (k.1 % 16)] : Array Nat).all (· < 128) = true ∧ ([hexC (k.1 / 16), hexC (k.1 % 16)] : List Nat).takeWhile (· != 0) = [hexC (k.1 / 16), hexC (k.1 % 16)] := by decide +kernel
  exact fun k hk => this ⟨k, hk⟩
theorem Fn.int16 {c : Cx} {n : Nat} (k : Nat) (hk : k < 256) : Fn c n (.type "int") [.str ⟨#[hexC (k / 16), hexC (k % 16)]⟩, .int 16] (.int k) := fun F A s vs ok rs => by
  obtain ⟨v, v', rfl, ⟨t, rfl⟩, u, rfl⟩ := rs.twoInv
  obtain ⟨h1, h2⟩ := hex_ok k hk
  refine callType_new PySem.F.called_int PySem.F.newNe_int (typeCall_int_2 _ _) (newCall_int_2 _ _) (fun obj => PySem.F.args_object_init_3 obj _ _) PySem.F.entry_int_new (gives16 (n := (k : Int)) h1 (by rw [h2]; show 2 ≤ 640; decide) (by rw [h2]; exact read16 k hk) (by rw [h2]; rfl)).meets (show (Made.int (k : Int)).post _ s from ⟨rfl, s.heap, _, rfl, Ext.refl _, _, rfl⟩)
end Qp
namespace Qp
open PySem PySem.Calls PyProof.Rows PySem.W

section
variable {α : Type}
open Classical in
noncomputable def compF (l : List α) (row : α → List D) (p : α → Bool) (g : α → D) (r : List D) : List D :=
  if h : ∃ a, a ∈ l ∧ row a = r then (if p h.choose then [g h.choose] else []) else []
noncomputable def Inj (l : List α) (row : α → List D) (p : α → Bool) (g : α → D) : Prop := ∀ a ∈ l, ∀ b ∈ l, row a = row b → p a = p b ∧ g a = g b
theorem compF_at {l : List α} {row : α → List D} {p : α → Bool} {g : α → D} (hi : Inj l row p g) {a : α} (ha : a ∈ l) : compF l row p g (row a) = if p a then [g a] else [] := by
  have h : ∃ b, b ∈ l ∧ row b = row a := ⟨a, ha, rfl⟩
  unfold compF
  rw [dif_pos h]
  obtain ⟨h1, h2⟩ := hi _ h.choose_spec.1 a ha h.choose_spec.2
  rw [h1, h2]
theorem compF_all {l : List α} {row : α → List D} {p : α → Bool} {g : α → D} (hi : Inj l row p g) : (l.map row).flatMap (compF l row p g) = (l.filter p).map g := by
  have : ∀ l' : List α, (∀ a ∈ l', a ∈ l) → (l'.map row).flatMap (compF l row p g) = (l'.filter p).map g := by
    intro l'
    induction l' with
    | nil => intro _; rfl
    | cons a l' ih =>
      intro hm
      rw [List.map_cons, List.flatMap_cons, ih fun b hb => hm b (List.mem_cons_of_mem _ hb), compF_at hi (hm a List.mem_cons_self)]
      cases h : p a <;> simp [h]
  exact this l fun _ h => h
end

section
variable {c : Cx} {n : Nat} {sc : Scope} {ρ : Str → Option D} {own : Str → Prop} {ac : List D} {α : Type}
/-- a comprehension of one clause: filter and map -/
theorem Ev.compFM {elt target iter : Expr} {ifs : List Expr} {pos : Pos} {xs : List Str} {scope : Scope} {l : List α} {row : α → List D} {p : α → Bool} {g : α → D}
    (t : Tgt target xs) (src : ItEv c n sc ρ iter target (l.map row)) (k : CompOK sc ρ scope xs) (hi : Inj l row p g) (hlen : l.length ≤ sizeLine)
    (hrow : ∀ a ∈ l, (row a).length = xs.length ∧ Ts c n (relabelS scope sc) (upds (restr ρ scope) xs (row a)) ifs (p a) ∧ (p a = true → Ev c n (relabelS scope sc) (upds (restr ρ scope) xs (row a)) elt (g a)))
    (hs : ∀ env x, foldedSetIterable iter env x = pure x := by intro _ _; rfl) :
    Ev c n sc ρ (.ListComp elt [⟨target, iter, ifs, 0⟩] scope pos) (.list ((l.filter p).map g)) := by
  have e := compF_all hi
  rw [← e]
  refine Ev.comp1 t src k (fun r hr => ?_) ?_ hs
  · obtain ⟨a, ha, rfl⟩ := List.mem_map.mp hr
    obtain ⟨h1, h2, h3⟩ := hrow a ha
    refine ⟨h1, p a, h2, fun q => ⟨g a, by rw [compF_at hi ha, if_pos q], h3 q⟩, fun q => by rw [compF_at hi ha, q]; rfl⟩
  · rw [e, List.length_map]; exact Nat.le_trans (List.length_filter_le _ _) hlen
theorem Ex.assignFM {x : Str} {px spos : Pos} {elt target iter : Expr} {ifs : List Expr} {pos : Pos} {xs : List Str} {scope : Scope} {l : List α} {row : α → List D} {p : α → Bool} {g : α → D} {b : Bool}
    (t : Tgt target xs) (src : ItEv c n sc ρ iter target (l.map row)) (k : CompOK sc ρ scope xs) (hi : Inj l row p g) (hlen : l.length ≤ sizeLine)
    (hrow : ∀ a ∈ l, (row a).length = xs.length ∧ Ts c n (relabelS scope sc) (upds (restr ρ scope) xs (row a)) ifs (p a) ∧ (p a = true → Ev c n (relabelS scope sc) (upds (restr ρ scope) xs (row a)) elt (g a)))
    (hk : sc.kind = .function) (hx : if b then sc.names.lookup x = some .local else (sc.names.lookup x = some .local ∨ own x))
    (hb : (sc.names.lookup x == some .local && px.line == pos.line && !(scope.names.any fun y => y.1 == x && (y.2 == .local || y.2 == .cell))) = b)
    (hs : ∀ env x, foldedSetIterable iter env x = pure x := by intro _ _; rfl) :
    Ex c n sc own none ρ ac (.Assign [.Name x px] (.ListComp elt [⟨target, iter, ifs, 0⟩] scope pos) spos) (.next (upd ρ x (.list ((l.filter p).map g))) ac) := by
  cases b with
  | false => exact Ex.assign (Ev.compFM t src k hi hlen hrow hs) (by simpa using hx) fun env he => swap_any he hk hb
  | true =>
    have e := compF_all hi
    rw [← e]
    refine Ex.assignComp t (turn_one elt target iter ifs scope pos) src k (fun r hr => ?_) ?_ (by simpa using hx) (fun env he => swap_any he hk hb) hs
    · obtain ⟨a, ha, rfl⟩ := List.mem_map.mp hr
      obtain ⟨h1, h2, h3⟩ := hrow a ha
      refine ⟨h1, p a, h2, fun q => ?_, fun q => by rw [compF_at hi ha, q]; rfl⟩
      rw [compF_at hi ha, if_pos q]
      exact Act.emit (h3 q)
    · rw [e, List.length_map]; exact Nat.le_trans (List.length_filter_le _ _) hlen
end
end Qp
namespace Qp
open PySem PySem.Calls PyProof.Rows PySem.W PySem.SeqAt

noncomputable def CmpL (k : Nat) (d : D) : Prop := flat d = true ∧ (toPy d).canLay0 = true ∧ (toPy d).depth ≤ k
theorem CmpL.cmp {k : Nat} {d : D} (h : CmpL k d) (hk : k ≤ 64) : Cmp d := ⟨h.1, by unfold shaped; rw [h.2.1]; simpa using Nat.le_trans h.2.2 hk⟩
theorem CmpL.int (k : Nat) (i : Int) : CmpL k (.int i) := ⟨rfl, rfl, Nat.zero_le _⟩
theorem CmpL.bool (k : Nat) (i : Bool) : CmpL k (.bool i) := ⟨rfl, rfl, Nat.zero_le _⟩
theorem CmpL.str (k : Nat) {x : Str} (h : PyData.strOk x = true) : CmpL k (.str x) := ⟨rfl, h, Nat.zero_le _⟩
theorem CmpL.all {k : Nat} : ∀ {l : List D}, (∀ d ∈ l, CmpL k d) → flats l = true ∧ PyData.canLayAll0 (toPys l) = true ∧ PyData.depthAll (toPys l) ≤ k
  | [], _ => ⟨rfl, rfl, Nat.zero_le _⟩
  | d :: l, h => by
    obtain ⟨a1, a2, a3⟩ := CmpL.all (l := l) fun x hx => h x (List.mem_cons_of_mem _ hx)
    obtain ⟨b1, b2, b3⟩ := h d List.mem_cons_self
    refine ⟨by simp [flats, a1, b1], by simp [toPys, PyData.canLayAll0, a2, b2], ?_⟩
    simp only [toPys, PyData.depthAll]
    exact Nat.max_le.mpr ⟨b3, a3⟩
theorem CmpL.list {k : Nat} {l : List D} (h : ∀ d ∈ l, CmpL k d) : CmpL (k + 1) (.list l) := by
  obtain ⟨a, b, e⟩ := CmpL.all h
  exact ⟨by simpa [flat] using a, by simpa [toPy, PyData.canLay0] using b, by simpa [toPy, PyData.depth] using e⟩
theorem CmpL.tup {k : Nat} {l : List D} (h : ∀ d ∈ l, CmpL k d) : CmpL (k + 1) (.tup l) := by
  obtain ⟨a, b, e⟩ := CmpL.all h
  exact ⟨by simpa [flat] using a, by simpa [toPy, PyData.canLay0] using b, by simpa [toPy, PyData.depth] using e⟩
theorem CmpL.ints (l : List Int) : CmpL 1 (.list (l.map D.int)) := CmpL.list fun d hd => by obtain ⟨i, _, rfl⟩ := List.mem_map.mp hd; exact CmpL.int 0 i
theorem CmpL.strs {l : List Str} (h : ∀ x ∈ l, PyData.strOk x = true) : CmpL 1 (.list (l.map D.str)) := CmpL.list fun d hd => by obtain ⟨i, hi, rfl⟩ := List.mem_map.mp hd; exact CmpL.str 0 (h i hi)

theorem eqD_int (a b : Int) : eqD (.int a) (.int b) = (a == b) := rfl
theorem eqD_bool (a b : Bool) : eqD (.bool a) (.bool b) = (a == b) := rfl
theorem eqD_str (a b : Str) : eqD (.str a) (.str b) = (a == b) := rfl
theorem eqD_list {α : Type} [BEq α] (f : α → D) (h : ∀ a b, eqD (f a) (f b) = (a == b)) : ∀ l r : List α, eqD (.list (l.map f)) (.list (r.map f)) = (l == r)
  | [], [] => rfl
  | [], _ :: _ => rfl
  | _ :: _, [] => rfl
  | a :: l, b :: r => by
    have ih := eqD_list f h l r
    have e : eqD (.list ((a :: l).map f)) (.list ((b :: r).map f)) = (eqD (f a) (f b) && eqD (.list (l.map f)) (.list (r.map f))) := rfl
    rw [e, h, ih]; rfl
end Qp
namespace Qp
open PySem PySem.Calls PyProof.Rows PySem.W
noncomputable def freeNames (scope : Scope) : List Str := (scope.names.filter fun x => x.2 == .free).map (·.1)
theorem freeOK_of {sc scope : Scope} {ρ : Str → Option D} {fs : List Str} (hfs : freeNames scope = fs) (h : (fs.all fun x => sc.names.lookup x == some .cell || sc.names.lookup x == some .free) = true) (hρ : ∀ x ∈ fs, (ρ x).isSome = true) : freeOK sc ρ scope = true := by
  unfold freeOK
  rw [List.all_eq_true]
  intro x hx
  by_cases hf : x.2 = .free
  · have hm : x.1 ∈ fs := by rw [← hfs]; exact List.mem_map.mpr ⟨x, List.mem_filter.mpr ⟨hx, by simp [hf]⟩, rfl⟩
    have h1 := List.all_eq_true.mp h x.1 hm
    rw [h1, hρ x.1 hm]; simp
  · simp [hf]
theorem restr_at {ρ : Str → Option D} {scope : Scope} {x : Str} {d : D} (hl : scope.names.lookup x = some .free) (h : ρ x = some d) : restr ρ scope x = some d := by
  unfold restr; rw [if_pos hl]; exact h
theorem upd_ne {ρ : Str → Option D} {x y : Str} {d e : D} (hne : x ≠ y) (h : ρ x = some d) : upd ρ y e x = some d := by
  unfold upd; rw [if_neg hne]; exact h
end Qp
namespace Qp
open PySem PySem.Calls PyProof.Rows PySem.W

section
variable {α : Type}
open Classical in
noncomputable def outF (l : List α) (row : α → List D) (outs : α → List D) (r : List D) : List D :=
  if h : ∃ a, a ∈ l ∧ row a = r then outs h.choose else []
noncomputable def Tells (l : List α) (row : α → List D) (outs : α → List D) : Prop := ∀ a ∈ l, ∀ b ∈ l, row a = row b → outs a = outs b
theorem outF_at {l : List α} {row : α → List D} {outs : α → List D} (hi : Tells l row outs) {a : α} (ha : a ∈ l) : outF l row outs (row a) = outs a := by
  have h : ∃ b, b ∈ l ∧ row b = row a := ⟨a, ha, rfl⟩
  unfold outF
  rw [dif_pos h]
  exact hi _ h.choose_spec.1 a ha h.choose_spec.2
theorem outF_all {l : List α} {row : α → List D} {outs : α → List D} (hi : Tells l row outs) : (l.map row).flatMap (outF l row outs) = l.flatMap outs := by
  have : ∀ l' : List α, (∀ a ∈ l', a ∈ l) → (l'.map row).flatMap (outF l row outs) = l'.flatMap outs := by
    intro l'
    induction l' with
    | nil => intro _; rfl
    | cons a l' ih =>
      intro hm
      rw [List.map_cons, List.flatMap_cons, ih fun b hb => hm b (List.mem_cons_of_mem _ hb), outF_at hi (hm a List.mem_cons_self), List.flatMap_cons]
  exact this l fun _ h => h
end

section
variable {c : Cx} {n : Nat} {sc : Scope} {ρ : Str → Option D} {own : Str → Prop} {ac : List D} {α β : Type}
/-- the inner clause of two, for one item of the outer -/
theorem act_inner {elt target iter target' iter' : Expr} {ifs ifs' : List Expr} {scope : Scope} {pos : Pos} {ys : List Str} {m : List β} {row : β → List D} {p : β → Bool} {g : β → D}
    (t : Tgt target' ys) (src : ItEv c n sc ρ iter' target' (m.map row)) (hx : ∀ x ∈ ys, sc.names.lookup x = some .local ∨ own x) (hr0 : ∀ x ∈ ys, ρ x = none) (hi : Inj m row p g)
    (hrow : ∀ b ∈ m, (row b).length = ys.length ∧ Ts c n sc (upds ρ ys (row b)) ifs' (p b) ∧ (p b = true → Ev c n sc (upds ρ ys (row b)) elt (g b)))
    (hs : ∀ env x, foldedSetIterable iter' env x = pure x := by intro _ _; rfl) :
    Act c n sc own ρ (deeper (.ListComp elt [⟨target, iter, ifs, 0⟩, ⟨target', iter', ifs', 0⟩] scope pos) 1 iter') ((m.filter p).map g) := by
  rw [← compF_all hi]
  refine Act.deeper t src hx hr0 (fun r hr => ?_) hs
  obtain ⟨a, ha, rfl⟩ := List.mem_map.mp hr
  obtain ⟨h1, h2, h3⟩ := hrow a ha
  exact ⟨h1, p a, h2, fun q => ⟨g a, by rw [compF_at hi ha, if_pos q], h3 q⟩, fun q => by rw [compF_at hi ha, q]; rfl⟩
/-- a comprehension of two clauses, the first without a test -/
theorem Ev.comp2 {elt target iter target' iter' : Expr} {ifs' : List Expr} {pos : Pos} {xs : List Str} {scope : Scope} {l : List α} {row : α → List D} {outs : α → List D}
    (t : Tgt target xs) (src : ItEv c n sc ρ iter target (l.map row)) (k : CompOK sc ρ scope xs) (hi : Tells l row outs) (hlen : (l.flatMap outs).length ≤ sizeLine)
    (hrow : ∀ a ∈ l, (row a).length = xs.length ∧ Act c n (relabelS scope sc) (fun x => (x, NameKind.cell) ∈ scope.names) (upds (restr ρ scope) xs (row a)) (deeper (.ListComp elt [⟨target, iter, [], 0⟩, ⟨target', iter', ifs', 0⟩] scope pos) 1 iter') (outs a))
    (hs : ∀ env x, foldedSetIterable iter env x = pure x := by intro _ _; rfl) :
    Ev c n sc ρ (.ListComp elt [⟨target, iter, [], 0⟩, ⟨target', iter', ifs', 0⟩] scope pos) (.list (l.flatMap outs)) := by
  have e := outF_all hi
  rw [← e]
  refine Ev.compAny t (turn_outer elt target iter target' iter' [] ifs' scope pos) src k (fun r hr => ?_) (by rw [e]; exact hlen) hs
  obtain ⟨a, ha, rfl⟩ := List.mem_map.mp hr
  obtain ⟨h1, h2⟩ := hrow a ha
  exact ⟨h1, true, rfl, fun _ => by rw [outF_at hi ha]; exact h2, fun q => by cases q⟩
theorem Ex.assignComp2 {x : Str} {px spos : Pos} {elt target iter target' iter' : Expr} {ifs' : List Expr} {pos : Pos} {xs : List Str} {scope : Scope} {l : List α} {row : α → List D} {outs : α → List D}
    (t : Tgt target xs) (src : ItEv c n sc ρ iter target (l.map row)) (k : CompOK sc ρ scope xs) (hi : Tells l row outs) (hlen : (l.flatMap outs).length ≤ sizeLine)
    (hrow : ∀ a ∈ l, (row a).length = xs.length ∧ Act c n (relabelS scope sc) (fun x => (x, NameKind.cell) ∈ scope.names) (upds (restr ρ scope) xs (row a)) (deeper (.ListComp elt [⟨target, iter, [], 0⟩, ⟨target', iter', ifs', 0⟩] scope pos) 1 iter') (outs a))
    (hk : sc.kind = .function) (hx : sc.names.lookup x = some .local)
    (hb : (sc.names.lookup x == some .local && px.line == pos.line && !(scope.names.any fun y => y.1 == x && (y.2 == .local || y.2 == .cell))) = true)
    (hs : ∀ env x, foldedSetIterable iter env x = pure x := by intro _ _; rfl) :
    Ex c n sc own none ρ ac (.Assign [.Name x px] (.ListComp elt [⟨target, iter, [], 0⟩, ⟨target', iter', ifs', 0⟩] scope pos) spos) (.next (upd ρ x (.list (l.flatMap outs))) ac) := by
  have e := outF_all hi
  rw [← e]
  refine Ex.assignComp t (turn_outer elt target iter target' iter' [] ifs' scope pos) src k (fun r hr => ?_) (by rw [e]; exact hlen) hx (fun env he => swap_any he hk hb) hs
  obtain ⟨a, ha, rfl⟩ := List.mem_map.mp hr
  obtain ⟨h1, h2⟩ := hrow a ha
  exact ⟨h1, true, rfl, fun _ => by rw [outF_at hi ha]; exact h2, fun q => by cases q⟩
end
end Qp
namespace Qp
open PySem PySem.Calls PyProof.Rows PySem.W PySem.Builtin PySem.Builtin.ObjectAttr

noncomputable def appendObj (l : Addr) : Obj := { cls := .type "builtin_function_or_method", data := .fields #[.builtin "list.append", .ref l] }
theorem slot_mget : Slot "method_descriptor" "__get__" "method_descriptor.__get__" :=
  .of (owner := "method_descriptor") (n := "__get__") (by rw [typeLookup_type, builtinLookup_eq_fast]; kernel_rfl) (by decide +kernel) (by decide +kernel) (by decide +kernel)
    (by first | exact .inl (by decide +kernel) | exact .inr (by decide +kernel)) (by rw [isSubtype_type]; kernel_rfl)
theorem entry_mget : entryFor table "method_descriptor.__get__" = some Builtin.«method_descriptor.__get__» := entryFor_of_tree (by kernel_rfl)
theorem args_mget (a b c : Value) : argsOk "method_descriptor.__get__" ⟨[a, b, c], []⟩ := by unfold argsOk; kernel_rfl
theorem noset_md : typeLookup (.type "method_descriptor") "__set__" = pure none := by rw [typeLookup_type, builtinLookup_eq_fast]; kernel_rfl
theorem nodel_md : typeLookup (.type "method_descriptor") "__delete__" = pure none := by rw [typeLookup_type, builtinLookup_eq_fast]; kernel_rfl
theorem owner_la : (kfb_private% "ownerAndName") "list.append" = ("list", "append") := by first | decide +kernel | kernel_rfl
theorem sub_list : isSubtype (.type "list") (.type "list") = pure true := by rw [isSubtype_type]; kernel_rfl
section
variable {prog : Program} {w : World} {A : Around} {E : Value → Shared → Prop} {s : Shared}
theorem checkInst {l : Addr} {Q : Unit → Shared → Prop} (hT : s.TypeIs (.ref l) "list") (h : Q () s) : wpAny (model prog w) A ((kfb_private% "checkInstance") (.builtin "list.append") (.ref l)) Q E s := by
  have e : (kfb_private% "nameAndClass") (.builtin "list.append") = pure ((PySem.Str.ofString "append"), .type "list") := by
    show pure (Str.ofString ((kfb_private% "ownerAndName") "list.append").2, Value.type ((kfb_private% "ownerAndName") "list.append").1) = pure _
    rw [owner_la]
  show wpAny _ _ ((kfb_private% "nameAndClass") (.builtin "list.append") >>= fun x => _) _ _ _
  rw [e]
  refine wpAny_bind (wpAny_pure ?_)
  refine wpAny_bind (wpAny_isInstance hT sub_list ?_)
  exact wpAny_pure h
theorem run_mget {l : Addr} {P : Fin → Shared → Prop} (hT : s.TypeIs (.ref l) "list") (h : P (.done (.ret (.ref s.heap.objs.size))) { s with heap := s.heap.push (appendObj l) }) :
    wpAny (model prog w) A (Builtin.«method_descriptor.__get__» ⟨[.builtin "list.append", .ref l, .type "list"], []⟩) P E s := by
  unfold Builtin.«method_descriptor.__get__»
  refine wpAny_bind (wpAny_of_eq (a := (.builtin "list.append", some (.ref l), some (.type "list"))) (by first | rfl | kernel_rfl) ?_)
  dsimp only
  rw [show Manifest.toldItsClass.contains "list.append" = false by decide +kernel]
  show wpAny _ _ ((kfb_private% "checkInstance") (.builtin "list.append") (.ref l) >>= fun _ => newFields "builtin_function_or_method" [.builtin "list.append", .ref l] >>= fun v => ret v) _ _ _
  exact wpAny_bind (checkInst hT (wpAny_bind (wpAny_newObj_type (wpAny_pure h))))
theorem run_ga {l : Addr} {o : Obj} {vs : Array Value} {u : Tok} {P : Fin → Shared → Prop} (hl : s.heap.get? l = some o) (hc : o.cls = .type "list") (hd : o.dict = none) {m : Nat} (hv : o.data = .seq vs m)
    (h : ∀ tk, P (.done (.ret (.ref s.heap.objs.size))) { s with heap := s.heap.push (appendObj l), toks := tk }) :
    wpAny (model prog w) A (Builtin.«object.__getattribute__» ⟨[.ref l, .str (PySem.Str.ofString "append") u], []⟩) P E s := by
  obtain ⟨cls, dct, dat, sl⟩ := o
  simp only at hc hd hv
  subst hc hd hv
  have hT : s.TypeIs (.ref l) "list" := ⟨_, hl, rfl⟩
  have f1 := slot_mget.lookup
  have f2 := slot_list_append.lookup
  have f3 := noset_md
  have f4 := nodel_md
  have f5 := type_list_append
  obtain ⟨hp, g, d, tk, os⟩ := s
  unfold Builtin.«object.__getattribute__»
  repeat (any_goals (first | assumption | wp_step))
  exact codeAny_call_builtin slot_mget.plain entry_mget (slot_mget.check _ _ _ _ _ _ _ _ f5 (args_mget _ _ _) (run_mget hT (wpAny_pure (h _))))
theorem getAttr_append {l : Addr} {o : Obj} {vs : Array Value} {Q : Value → Shared → Prop} (hl : s.heap.get? l = some o) (hc : o.cls = .type "list") (hd : o.dict = none) {m : Nat} (hv : o.data = .seq vs m)
    (h : ∀ tk, Q (.ref s.heap.objs.size) { s with heap := s.heap.push (appendObj l), toks := tk }) :
    wpAny (model prog w) A (getAttr (.ref l) (PySem.Str.ofString "append") true) Q E s := by
  obtain ⟨hp, g, d, tk, os⟩ := s
  obtain ⟨cls, dct, dat, sl⟩ := o
  simp only at hc hd hv
  subst hc hd hv
  have hT : ∀ tk', (⟨hp, g, d, tk', os⟩ : Shared).TypeIs (.ref l) "list" := fun _ => ⟨_, hl, rfl⟩
  have f3 := F.slot_list_getattribute.lookup
  have f4 := F.slot_list_getattribute.bind (.ref l)
  have f5 := am_list_getattr_none
  unfold getAttr getAttrBy
  repeat (any_goals (first | assumption | exact hT _ | ((with_reducible show wpAny _ _ (call (Value.builtin "list.__getattribute__") _ _) _ _ _); refine wpAny_call_entry F.slot_list_getattribute (hT _) am_entry_list_getattribute (run_ga (s := ⟨hp, g, d, _, os⟩) hl rfl rfl rfl fun tk' => ?_) (F.args_list_getattribute_2 _ _)) | wp_step))
  all_goals exact ⟨_, rfl, wpAny_pure (h _)⟩
end

section
variable {c : Cx} {n : Nat} {sc : Scope} {own : Str → Prop} {ρ : Str → Option D}
theorem Exs.openAcc {x y : Str} {px py px' pl ap p1 p2 : Pos} {rest : List Stmt} {d : D} (hx : sc.names.lookup x = some .local) (hy : sc.names.lookup y = some .local) (hdb : (x == ("__debug__" : Str)) = false)
    (hs1 : ∀ env, swapsWith (.List [] pl) (some (.Name x px)) p1.line env = pure false) (hs2 : ∀ env, swapsWith (.Attribute (.Name x px') "append" ap) (some (.Name y py)) p2.line env = pure false)
    (h : ∀ la ma, Exs c n sc own (some (la, ma)) (upd (upd ρ x (.val (.ref la))) y (.val (.ref ma))) [] rest (.ret d)) :
    Exs c n sc own none ρ [] (.Assign [.Name x px] (.List [] pl) p1 :: .Assign [.Name y py] (.Attribute (.Name x px') "append" ap) p2 :: rest) (.ret d) := fun F P A s env k => by
  have kx : env.kindOf x = some .local := by unfold Env.kindOf; rw [k.scope]; exact hx
  have ky : env.kindOf y = some .local := by unfold Env.kindOf; rw [k.scope]; exact hy
  refine wpAny_execs_cons (wpAny_Assign_Name (wpAny_List (wpAny_items_nil ⟨Nat.zero_le _, ?_⟩)) (hs1 env))
  generalize hH1 : s.heap.push { cls := .type "list", dict := none, data := .seq ([] : List Value).toArray } = H1
  have e1 : Ext s.heap H1 := by rw [← hH1]; exact Ext.push _ _
  have lnew : s.heap.get? s.heap.objs.size = none := fresh_at _
  have l1 : H1.get? s.heap.objs.size = some { cls := .type "list", dict := none, data := .seq ([] : List Value).toArray } := by rw [← hH1]; exact Heap.get?_push_size _ rfl
  generalize hla : s.heap.objs.size = la at lnew l1
  have nfp : ∀ {a : Addr}, FrameP env own a → a ≠ la := fun {a} q e => by
    subst e
    rcases q with q | ⟨z, ow, l⟩
    · obtain ⟨m', hn', _⟩ := k.sm.fm.fr.ns
      obtain ⟨o, _, _, g, _⟩ := hn'
      rw [← q, lnew] at g; cases g
    · obtain ⟨_, a, v, l', ⟨o, g, _⟩, _⟩ := k.sm.fm.cell z ow
      rw [l] at l'; cases l'
      rw [lnew] at g; cases g
  let F' : Addr → Prop := fun a => F a ∨ a = la
  let P' : Addr → Prop := fun a => P a ∨ a = la
  have hTs : c.hT.get? la = none := by
    cases q : c.hT.get? la with
    | none => rfl
    | some o => rw [k.ok.keep la o q] at lnew; cases lnew
  have subF : ∀ a, P' a → F' a := fun a q => q.imp (k.sm.fm.sub a) id
  have k1 : AtS c n F' P' A env sc own none ρ [] H1 := by
    refine ⟨⟨k.ok.room, fun b o e => e1 b o (k.ok.keep b o e), fun a q => q.elim (k.ok.lo a) fun z => z ▸ hTs, fun a q => ?_⟩, k.scope, k.eok, ⟨?_, trivial⟩⟩
    · rcases q with q | rfl
      · obtain ⟨o, e⟩ := k.ok.hi a q; exact ⟨o, e1 _ _ e⟩
      · exact ⟨_, l1⟩
    · have f := k.sm.fm
      have sb : ∀ a, F' a → F a ∨ s.heap.get? a = none := fun a q => q.imp id fun z => by rw [z]; exact lnew
      refine Fm.ext ⟨⟨?_, fun y d e r => ?_, f.fr.lv⟩, subF, .inl f.loc, f.apart, fun y o => ?_⟩ e1
      · obtain ⟨m, hn, q⟩ := f.fr.ns
        exact ⟨m, hn, fun y d e r => let ⟨v, e', z⟩ := q y d e r; ⟨v, e', Rep.sub sb _ z⟩⟩
      · obtain ⟨a, o, v, l, g, hd, z⟩ := f.fr.cl y d e r
        exact ⟨a, o, v, l, g, hd, Rep.sub sb _ z⟩
      · obtain ⟨kk, a, v, l, ic, p⟩ := f.cell y o
        exact ⟨kk, a, v, l, ic, .inl p⟩
  refine Fm.store (s := { s with heap := H1, toks := _ }) (d := .val (.ref la)) k1.sm.fm k.eok.kind (.inl kx) rfl fun h₂ t₂ x₂ f₂ => ?_
  have l2 : h₂.get? la = some { cls := .type "list", dict := none, data := .seq ([] : List Value).toArray } := x₂.1 _ _ (fun q => nfp q rfl) l1
  have k2 : AtS c n F' P' A env sc own none (upd ρ x (.val (.ref la))) [] h₂ := k1.to (x₂.mono fun a q => .inl q) (k1.sm.frame x₂ f₂)
  refine wpAny_execs_cons (wpAny_Assign_Name (Attribute_name ((Ev.localName (pos := px') hx (by unfold upd; rw [if_pos rfl]) hdb F' A { s with heap := h₂, toks := t₂ } env k2.at).use fun v h₃ t₃ e₃ q => ?_)) (hs2 env))
  have q' : v = .ref la := q
  subst q'
  refine getAttr_append (s := { s with heap := h₃, toks := t₃ }) (e₃ _ _ l2) rfl rfl rfl fun t₄ => ?_
  generalize hH4 : h₃.push (appendObj la) = H4
  have e4 : Ext h₃ H4 := by rw [← hH4]; exact Ext.push _ _
  have mnew : h₃.get? h₃.objs.size = none := fresh_at _
  have m4 : H4.get? h₃.objs.size = some (appendObj la) := by rw [← hH4]; exact Heap.get?_push_size _ rfl
  show wpAny _ A (storeName env y (.ref h₃.objs.size)) _ _ _
  generalize h₃.objs.size = ma at mnew m4
  have l4 := e4 _ _ (e₃ _ _ l2)
  have k4 := (k2.ext e₃).ext e4
  have mP : ¬ P' ma := fun q => (k2.ok.ext e₃).new mnew (subF _ q)
  refine Fm.store (s := { s with heap := H4, toks := t₄ }) (d := .val (.ref ma)) k4.sm.fm k.eok.kind (.inl ky) rfl fun h₅ t₅ x₅ f₅ => ?_
  have l5 : h₅.get? la = some { cls := .type "list", dict := none, data := .seq ([] : List Value).toArray } := x₅.1 _ _ (fun q => nfp q rfl) l4
  have m5 : h₅.get? ma = some (appendObj la) := x₅.1 _ _ (fun q => mP (k4.sm.fm.frameP q)) m4
  have k5 : AtS c n F' P' A env sc own none (upd (upd ρ x (.val (.ref la))) y (.val (.ref ma))) [] h₅ := k4.to (x₅.mono fun a q => .inl q) (k4.sm.frame x₅ f₅)
  have k6 : AtS c n F' P' A env sc own (some (la, ma)) (upd (upd ρ x (.val (.ref la))) y (.val (.ref ma))) [] h₅ :=
    ⟨k5.ok, k5.scope, k5.eok, ⟨k5.sm.fm, .inr rfl, ⟨[], ⟨_, l5, rfl, _, rfl⟩, Reps.nil⟩, mP, _, _, m5, rfl, rfl, rfl, rfl⟩⟩
  refine (h la ma F' P' A { s with heap := h₅, toks := t₅ } env k6).use fun fl h₆ t₆ x₆ q => ?_
  obtain ⟨v, rfl, r⟩ := q
  refine ⟨h₆, t₆, rfl, ?_, v, rfl, Rep.sub (fun a q => .inl (.inl q)) _ r⟩
  have xa : ExtP (MP env own (some (la, ma))) s.heap h₆ := ((((e1.p.trans (x₂.mono fun a q => .inl q)).trans e₃.p).trans e4.p).trans (x₅.mono fun a q => .inl q)).trans x₆
  refine xa.shrink fun a q => ?_
  rcases q with q | ⟨m', q⟩
  · exact .inl (.inl q)
  · cases q; exact .inr lnew
end
end Qp
namespace Qp
open PySem PySem.Calls PyProof.Rows PySem.W PySem.Builtin PySem.Builtin.ObjectAttr

section
variable {prog : Program} {w : World} {A : Around} {E : Value → Shared → Prop} {s : Shared}
theorem sig_la : Manifest.signature? "list.append" = some ⟨.oneArg, "list.append", "append", .self, [⟨"object", .posOnly, true⟩]⟩ := by
  rw [signature?_of (id := "list.append") (n := ['d', 'n', 'e', 'p', 'p', 'a']) (o := ['t', 's', 'i', 'l']) (by kernel_rfl) PySem.F.owner_list]; kernel_rfl
theorem sub_list_module : isSubtype (.type "list") (.type "module") = pure false := by rw [isSubtype_type]; kernel_rfl
theorem check_la {l : Addr} {v : Value} {o : Obj} {vs : Array Value} {m : Nat} {Q : Unit → Shared → Prop} (hl : s.heap.get? l = some o) (hc : o.cls = .type "list") (hv : o.data = .seq vs m) (h : Q () s) :
    wpAny (model prog w) A (checkBoundCall "list.append" ⟨[.ref l, v], []⟩) Q E s := by
  have hT : s.TypeIs (.ref l) "list" := ⟨_, hl, hc⟩
  unfold checkBoundCall
  rw [sig_la]
  dsimp only
  rw [show builtinKind "list.append" = some .method by decide +kernel]
  dsimp only
  rw [show Manifest.varargsMethods.contains "list.append" = false by decide +kernel]
  refine KFB.if_not (by decide +kernel) ?_
  refine wpAny_bind (wpAny_isInstance hT sub_list_module ?_)
  refine KFB.if_not rfl ?_
  refine wpAny_bind ?_
  unfold isType
  refine wpAny_bind (wpAny_bind (wpAny_loadPart hl ?_))
  refine wpAny_pure ?_
  rw [hv]
  refine wpAny_pure (KFB.if_not rfl ?_)
  refine wpAny_bind (wpAny_typeOf hT ?_)
  dsimp only
  refine wpAny_of_eq (a := ()) ?_ h
  kernel_rfl
theorem call_bound_append {l ma : Addr} {v : Value} {o : Obj} {vs : Array Value} {m : Nat} {Q : Value → Shared → Prop} (hl : s.heap.get? l = some o) (hc : o.cls = .type "list") (hv : o.data = .seq vs m) (hm : IsAppend s.heap ma l)
    (hQ : ∀ h', h'.IsList l (vs.push v) → Heap.SameBut l s.heap h' → Q .none { s with heap := h' }) (hsz : vs.size ≤ sizeLine) :
    wpAny (model prog w) A (call (.ref ma) [v]) Q E s := by
  obtain ⟨om, ws, hg, hcm, hdm, h0, h1⟩ := hm
  refine wpAny_call (codeAny_of_tree ?_)
  show wpAny _ A.in1 (callAny (.ref ma) ⟨[v], []⟩) _ _ s
  simp only [callAny]
  refine wpAny_bind (wpAny_load hg ?_)
  rw [hdm]
  dsimp only
  rw [hcm, h0, h1]
  refine KFB.if_so (by decide) ?_
  dsimp only
  refine KFB.if_so (by decide) ?_
  refine wpAny_bind (check_la hl hc hv ?_)
  refine wpAny_bind (wpAny_pure (wpAny_pure ?_))
  refine ⟨Code.quiet_builtin _ (by decide +kernel), codeAny_builtin entry_list_append ?_⟩
  obtain ⟨n', hd'⟩ := Obj.data_mapSeq hv (·.push v)
  show wpAny _ _ (updateSeq l (·.push v) >>= fun _ => ret .none) _ _ s
  refine wpAny_bind ?_
  refine wpAny_updateSeq hl hv (wpAny_pure (hQ _ ?_ (Heap.SameBut.update ..)))
  exact ⟨_, Heap.get?_update_self _ hl (Obj.isFreed_of_seq hd'), (Obj.cls_mapSeq ..).trans hc, n', hd'⟩
theorem callWith_append {pos : Pos} {u l : Addr} {args : List (Bool × Sem Value)} {Q : Value → Shared → Prop} (hplain : args.any (·.1) = false)
    (h : wpAny (model prog w) A (evalArgs (.ref u) true args []) (fun x s₁ => IsAppend s₁.heap u l ∧ wpAny (model prog w) A (call (.ref u) ([] ++ x.pos) x.kw) Q E s₁) E s) : wpAny (model prog w) A (callWith pos (.ref u) [] args []) Q E s := by
  unfold callWith
  refine wpAny_bind (wpAny_holding (wpAny_mono h (fun x s₁ h₁ => wpAny_bind (wpAny_standAt ?_)) fun _ _ x => x))
  obtain ⟨⟨om, ws, hg, hcm, hdm, h0, h1⟩, hcall⟩ := h₁
  simp only [hplain, List.any_nil, Bool.or_false]
  refine wpAny_bind (m := keeperOf (.ref u)) ?_
  unfold keeperOf
  refine wpAny_bind (wpAny_load hg ?_)
  rw [hdm]
  simp only [hcm, show (Value.type "builtin_function_or_method" != Value.type "method") = true by decide, show (Value.type "builtin_function_or_method" == Value.type "builtin_function_or_method" || Value.type "builtin_function_or_method" == Value.type "method-wrapper") = true by decide, if_true]
  refine wpAny_pure ?_
  exact wpAny_bind (wpAny_mono hcall (fun r s₂ hr => wpAny_bind (wpAny_holding (wpAny_point (wpAny_pure hr)))) fun _ _ x => x)
end
section
variable {c : Cx} {n : Nat} {sc : Scope} {own : Str → Prop} {ρ : Str → Option D}
/-- append(e) by the name of the bound method -/
theorem Ex.appendBy {y : Str} {py p pos : Pos} {la ma : Addr} {e : Expr} {ac : List D} {d : D} (hk : sc.kind = .function) (hy : sc.names.lookup y = some .local) (hr : ρ y = some (.val (.ref ma))) (hdb : (y == ("__debug__" : Str)) = false) (he : Ev c n sc ρ e d) (hl : ac.length ≤ sizeLine)
    (hst : ∀ env, starEach [e] env = [(false, eval e env)] := by intro _; rfl) :
    Ex c n sc own (some (la, ma)) ρ ac (.Expr (.Call (.Name y py) [e] [] p) pos) (.next ρ (ac ++ [d])) := fun F P A s env k => by
  refine wpAny_Expr_any ?_ (by unfold interactive; rw [k.scope, hk]; rfl) rfl
  show wpAny _ A (do callWith p (← eval (.Name y py) env) [] (backTo p (starEach [e] env)) (backToKw p (keywordEach [] env))) _ _ s
  refine wpAny_bind ((Ev.localName (pos := py) hy hr hdb F A s env k.at).use fun v h₁ t₁ e₁ q => ?_)
  have q' : v = .ref ma := q
  subst q'
  rw [show backToKw p (keywordEach [] env) = [] from rfl, hst]
  refine callWith_append (l := la) rfl (evalArgs_plain (Calls.spliced_cons ((he F A { s with heap := h₁, toks := t₁ } env (k.ext e₁).at).use fun va h₂ t₂ e₂ ra => Calls.spliced_nil ?_)))
  have k2 := (k.ext e₁).ext e₂
  obtain ⟨pl, ⟨vs, il, rs⟩, np, ia⟩ := k2.sm.acc
  refine ⟨ia, ?_⟩
  obtain ⟨o, ho, hc, m, hd⟩ := id il
  refine call_bound_append ho hc hd ia (fun h₃ il₃ hs₃ => ?_) (by rw [List.size_toArray, rs.length]; exact hl)
  have fla : F la := k.sm.fm.sub _ pl
  have kp : ∀ (d : D) {v : Value}, Rep F h₂ v d → Rep F h₃ v d := Rep.keep fun b o nf e => hs₃.extBut b o (fun z => nf (z ▸ fla)) e
  have kps : ∀ (d : List D) {v : List Value}, Reps F h₂ v d → Reps F h₃ v d := Reps.keep fun b o nf e => hs₃.extBut b o (fun z => nf (z ▸ fla)) e
  have mne : ma ≠ la := fun q => np (q ▸ pl)
  have f := k2.sm.fm
  refine ⟨h₃, t₂, rfl, (e₁.p.trans e₂.p).trans ⟨fun b o nb e => hs₃.extBut b o (fun z => nb (.inr ⟨ma, by rw [z]⟩)) e, fun b o e => ?_⟩, rfl, ⟨⟨?_, fun y d e r => ?_, fun y b l => ?_⟩, f.sub, f.loc, f.apart, fun y o => ?_⟩, ?_⟩
  · by_cases z : b = la
    · subst z; obtain ⟨o', e', _⟩ := il₃; exact ⟨o', e'⟩
    · exact ⟨o, hs₃.extBut b o z e⟩
  · obtain ⟨m, hn, q⟩ := f.fr.ns
    exact ⟨m, hn.sameBut hs₃ (Ne.symm (list_ne_ns hn il)), fun y d e r => let ⟨v, e', z⟩ := q y d e r; ⟨v, e', kp _ z⟩⟩
  · obtain ⟨a, o, v, l, g, hd, z⟩ := f.fr.cl y d e r
    exact ⟨a, o, v, l, hs₃.extBut _ _ (list_ne_cell il g hd) g, hd, kp _ z⟩
  · obtain ⟨o, e⟩ := f.fr.lv y b l
    by_cases z : b = la
    · subst z; obtain ⟨o', e', _⟩ := il₃; exact ⟨o', e'⟩
    · exact ⟨o, hs₃.extBut b o z e⟩
  · obtain ⟨kk, a, v, l, ⟨o, g, hd⟩, p⟩ := f.cell y o
    exact ⟨kk, a, v, l, ⟨o, hs₃.extBut _ _ (list_ne_cell il g hd) g, hd⟩, p⟩
  · obtain ⟨om, ws, g, r⟩ := ia
    exact ⟨pl, ⟨vs ++ [va], by simpa using il₃, Reps.append (kps _ rs) (Reps.one (kp _ ra))⟩, np, om, ws, hs₃.extBut _ _ mne g, r⟩
/-- a text reckoned from the list that has been filled -/
theorem Ex.retAcc {x : Str} {la ma : Addr} {e : Expr} {ac : List D} {t : Str} {pos : Pos} (hr : ρ x = some (.val (.ref la))) (he : Ev c n sc (upd ρ x (.list ac)) e (.str t)) :
    Ex c n sc own (some (la, ma)) ρ ac (.Return (some e) pos) (.ret (.str t)) := fun F P A s env k => by
  obtain ⟨pl, ⟨vs, il, rs⟩, np, ia⟩ := k.sm.acc
  let F₀ : Addr → Prop := fun a => F a ∧ a ≠ la
  have sb : ∀ {h : Heap} (d : D) {v : Value}, Rep F h v d → Rep F₀ h v d := fun {h} d {v} r => Rep.sub (fun a q => .inl q.1) d r
  have sbs : ∀ {h : Heap} (d : List D) {v : List Value}, Reps F h v d → Reps F₀ h v d := fun {h} d {v} r => Reps.sub (fun a q => .inl q.1) d r
  have lrep : ∀ v, Rep F s.heap v (.val (.ref la)) → Rep F₀ s.heap v (.list ac) := fun v q => by
    have q' : v = .ref la := q
    simp only [Rep]
    exact ⟨la, vs, q', fun z => z.2 rfl, il, sbs _ rs⟩
  have at' : At c n F₀ A env sc (upd ρ x (.list ac)) s.heap := by
    refine ⟨⟨k.ok.room, k.ok.keep, fun a q => k.ok.lo a q.1, fun a q => k.ok.hi a q.1⟩, k.scope, k.eok, ⟨?_, fun y d e r => ?_, k.sm.fm.fr.lv⟩⟩
    · obtain ⟨m, hn, q⟩ := k.sm.fm.fr.ns
      refine ⟨m, hn, fun y d e r => ?_⟩
      unfold upd at r
      by_cases z : y = x
      · subst z; rw [if_pos rfl] at r; cases r
        obtain ⟨v, e', q'⟩ := q y _ e hr
        exact ⟨v, e', lrep v q'⟩
      · rw [if_neg z] at r
        obtain ⟨v, e', q'⟩ := q y _ e r
        exact ⟨v, e', sb _ q'⟩
    · unfold upd at r
      by_cases z : y = x
      · subst z; rw [if_pos rfl] at r; cases r
        obtain ⟨a, o, v, l, g, hd, q'⟩ := k.sm.fm.fr.cl y _ e hr
        exact ⟨a, o, v, l, g, hd, lrep v q'⟩
      · rw [if_neg z] at r
        obtain ⟨a, o, v, l, g, hd, q'⟩ := k.sm.fm.fr.cl y _ e r
        exact ⟨a, o, v, l, g, hd, sb _ q'⟩
  exact wpAny_Return_some ((he F₀ A s env at').use fun v h₁ t₁ e₁ r => ⟨h₁, t₁, rfl, e₁.p, v, rfl, r⟩)
end
end Qp
namespace Qp
open PySem PySem.Calls PyProof.Rows PySem.W

/-! contracts that know a floor of the tokens and that the frame is the caller's first -/
structure First (A : Around) (env : Env) : Prop where
  frames : A.frames = some [env]
  frame : env.frame = some env.locals
section
variable {c : Cx} {A : Around} {s : Shared} {α : Type}
theorem W.useT {t : Sem α} {Q : α → Heap → Prop} {Q' : α → Shared → Prop} {E : Value → Shared → Prop} {k : Nat} (x : W c A s t Q) (hk : k ≤ s.toks) (h : ∀ a h' tk, k ≤ tk → Ext s.heap h' → Q a h' → Q' a { s with heap := h', toks := tk }) :
    wpAny (model c.prog c.w) A t Q' E s :=
  wpAny_with_toks hk (wpAny_mono x (fun a s' q => by
    obtain ⟨h', tk, rfl, ex, q⟩ := q
    exact fun hk => h a h' tk hk ex q) fun _ _ f => f.elim)
theorem WX.useT {P : Addr → Prop} {t : Sem α} {Q : α → Heap → Prop} {Q' : α → Shared → Prop} {E : Value → Shared → Prop} {k : Nat} (x : WX c A s P t Q) (hk : k ≤ s.toks)
    (h : ∀ a h' tk, k ≤ tk → ExtP P s.heap h' → Q a h' → Q' a { s with heap := h', toks := tk }) : wpAny (model c.prog c.w) A t Q' E s :=
  wpAny_with_toks hk (wpAny_mono x (fun a s' q => by
    obtain ⟨h', tk, rfl, ex, q⟩ := q
    exact fun hk => h a h' tk hk ex q) fun _ _ f => f.elim)
end
noncomputable def EvF (k : Nat) (c : Cx) (n : Nat) (sc : Scope) (ρ : Str → Option D) (e : Expr) (d : D) : Prop :=
  ∀ (F : Addr → Prop) (A : Around) (s : Shared) (env : Env), At c n F A env sc ρ s.heap → k ≤ s.toks → W c A s (eval e env) fun v h' => Rep F h' v d
noncomputable def TrF (k : Nat) (c : Cx) (n : Nat) (sc : Scope) (ρ : Str → Option D) (e : Expr) (b : Bool) : Prop :=
  ∀ (F : Addr → Prop) (A : Around) (s : Shared) (env : Env), At c n F A env sc ρ s.heap → k ≤ s.toks → W c A s (isTrue e env (eval e env)) fun r _ => r = b
noncomputable def EvsF (k : Nat) (c : Cx) (n : Nat) (sc : Scope) (ρ : Str → Option D) (es : List Expr) (ds : List D) : Prop :=
  ∀ (F : Addr → Prop) (A : Around) (s : Shared) (env : Env) (pos : Pos), At c n F A env sc ρ s.heap → k ≤ s.toks → W c A s (spliced (backTo pos (starEach es env))) fun vs h' => Reps F h' vs ds
noncomputable def ExF (k : Nat) (c : Cx) (n : Nat) (sc : Scope) (own : Str → Prop) (kc : Option (Addr × Addr)) (ρ : Str → Option D) (ac : List D) (st : Stmt) (out : Out) : Prop :=
  ∀ (F P : Addr → Prop) (A : Around) (s : Shared) (env : Env), AtS c n F P A env sc own kc ρ ac s.heap → k ≤ s.toks → First A env → WX c A s (MP env own kc) (exec st env) fun fl h' => OutOK F P env own kc h' fl out
noncomputable def ExsF (k : Nat) (c : Cx) (n : Nat) (sc : Scope) (own : Str → Prop) (kc : Option (Addr × Addr)) (ρ : Str → Option D) (ac : List D) (st : List Stmt) (out : Out) : Prop :=
  ∀ (F P : Addr → Prop) (A : Around) (s : Shared) (env : Env), AtS c n F P A env sc own kc ρ ac s.heap → k ≤ s.toks → First A env → WX c A s (MP env own kc) (execs st env) fun fl h' => OutOK F P env own kc h' fl out
section
variable {k : Nat} {c : Cx} {n : Nat} {sc : Scope} {own : Str → Prop} {kc : Option (Addr × Addr)} {ρ ρ' : Str → Option D} {ac ac' : List D} {out : Out}
theorem EvF.of {e : Expr} {d : D} (x : Ev c n sc ρ e d) : EvF k c n sc ρ e d := fun F A s env a _ => x F A s env a
theorem TrF.of {e : Expr} {b : Bool} (x : Tr c n sc ρ e b) : TrF k c n sc ρ e b := fun F A s env a _ => x F A s env a
theorem EvsF.of {es : List Expr} {ds : List D} (x : Evs c n sc ρ es ds) : EvsF k c n sc ρ es ds := fun F A s env p a _ => x F A s env p a
theorem ExF.of {st : Stmt} (x : Ex c n sc own kc ρ ac st out) : ExF k c n sc own kc ρ ac st out := fun F P A s env a _ _ => x F P A s env a
theorem ExsF.of {st : List Stmt} (x : Exs c n sc own kc ρ ac st out) : ExsF k c n sc own kc ρ ac st out := fun F P A s env a _ _ => x F P A s env a
theorem ExsF.up {k' : Nat} {st : List Stmt} (x : ExsF k' c n sc own kc ρ ac st out) (h : k' ≤ k) : ExsF k c n sc own kc ρ ac st out := fun F P A s env a hk hf => x F P A s env a (Nat.le_trans h hk) hf
theorem ExsF.nil : ExsF k c n sc own kc ρ ac [] (.next ρ ac) := ExsF.of Exs.nil
theorem ExsF.cons {st : Stmt} {rest : List Stmt} (x : ExF k c n sc own kc ρ ac st (.next ρ' ac')) (y : ExsF k c n sc own kc ρ' ac' rest out) : ExsF k c n sc own kc ρ ac (st :: rest) out := fun F P A s env a hk hf =>
  wpAny_execs_cons ((x F P A s env a hk hf).useT hk fun fl h₁ t₁ hk₁ e₁ q => by
    obtain ⟨rfl, sm⟩ := q
    exact (y F P A { s with heap := h₁, toks := t₁ } env (a.to e₁ sm) hk₁ hf).use fun fl h₂ t₂ e₂ q => ⟨h₂, t₂, rfl, e₁.trans e₂, q⟩)
theorem ExsF.ret {st : Stmt} {rest : List Stmt} {d : D} (x : ExF k c n sc own kc ρ ac st (.ret d)) : ExsF k c n sc own kc ρ ac (st :: rest) (.ret d) := fun F P A s env a hk hf =>
  wpAny_execs_cons ((x F P A s env a hk hf).use fun fl h₁ t₁ e₁ q => by
    obtain ⟨v, rfl, r⟩ := q
    exact ⟨h₁, t₁, rfl, e₁, v, rfl, r⟩)
theorem ExF.ifT {t : Expr} {body orelse : List Stmt} {pos : Pos} (x : TrF k c n sc ρ t true) (y : ExsF k c n sc own kc ρ ac body out) : ExF k c n sc own kc ρ ac (.If t body orelse pos) out := fun F P A s env a hk hf =>
  wpAny_If ((x F A s env a.at hk).useT hk fun b h₁ t₁ hk₁ e₁ q => by
    subst q
    exact (y F P A { s with heap := h₁, toks := t₁ } env (a.ext e₁) hk₁ hf).use fun fl h₂ t₂ e₂ q => ⟨h₂, t₂, rfl, e₁.p.trans e₂, q⟩)
theorem ExF.ifF {t : Expr} {body orelse : List Stmt} {pos : Pos} (x : TrF k c n sc ρ t false) (y : ExsF k c n sc own kc ρ ac orelse out) : ExF k c n sc own kc ρ ac (.If t body orelse pos) out := fun F P A s env a hk hf =>
  wpAny_If ((x F A s env a.at hk).useT hk fun b h₁ t₁ hk₁ e₁ q => by
    subst q
    exact (y F P A { s with heap := h₁, toks := t₁ } env (a.ext e₁) hk₁ hf).use fun fl h₂ t₂ e₂ q => ⟨h₂, t₂, rfl, e₁.p.trans e₂, q⟩)
theorem TrF.cmp {l r : Expr} {op : CmpOp} {pos : Pos} {a b : D} {z : Bool} (x : EvF k c n sc ρ l a) (y : EvF k c n sc ρ r b) (f : Op2 c n (compareOp op) a b (.bool z)) (hm : behindInMarks op r = false) : TrF k c n sc ρ (.Compare l [op] [r] pos) z :=
  fun F A s env k' hk => wpAny_isTrue_Compare1 ((x F A s env k' hk).useT hk fun va h₁ t₁ hk₁ e₁ ra => (y F A { s with heap := h₁, toks := t₁ } env (k'.ext e₁) hk₁).use fun vb h₂ t₂ e₂ rb =>
    (f F A { s with heap := h₂, toks := t₂ } va vb ((k'.ok.ext e₁).ext e₂) (ra.ext e₂) rb).use fun v h₃ t₃ e₃ rv => by
      have rv' : v = .bool z := rv
      subst rv'
      exact wpAny_truthy_bool ⟨h₃, t₃, rfl, (e₁.trans e₂).trans e₃, rfl⟩) hm
theorem TrF.orT {x : Expr} {rest : List Expr} {pos : Pos} (h : TrF k c n sc ρ x true) : TrF k c n sc ρ (.BoolOp .Or (x :: rest) pos) true :=
  fun F A s env a hk => wpAny_isTrue_BoolOp (wpAny_allTrue_Or_cons ((h F A s env a hk).use fun r h₁ t₁ e₁ q => by subst q; exact ⟨h₁, t₁, rfl, e₁, rfl⟩))
theorem TrF.orF {x : Expr} {rest : List Expr} {pos : Pos} {b : Bool} (h : TrF k c n sc ρ x false) (t : TrF k c n sc ρ (.BoolOp .Or rest pos) b) : TrF k c n sc ρ (.BoolOp .Or (x :: rest) pos) b :=
  fun F A s env a hk => wpAny_isTrue_BoolOp (wpAny_allTrue_Or_cons ((h F A s env a hk).useT hk fun r h₁ t₁ hk₁ e₁ q => by
    subst q
    have z := t F A { s with heap := h₁, toks := t₁ } env (a.ext e₁) hk₁
    unfold W at z
    rw [arm_isTrue_BoolOp] at z
    exact wpAny_mono z (fun r s' q => let ⟨h₂, t₂, e, e₂, q⟩ := q; ⟨h₂, t₂, e, e₁.trans e₂, q⟩) fun _ _ f => f))
theorem EvsF.cons {e : Expr} {es : List Expr} {d : D} {ds : List D} (x : EvF k c n sc ρ e d) (y : EvsF k c n sc ρ es ds) (he : ∀ env, starEach (e :: es) env = (false, eval e env) :: starEach es env := by intro _; rfl) : EvsF k c n sc ρ (e :: es) (d :: ds) :=
  fun F A s env pos a hk => wpAny_items_cons ((x F A s env a hk).useT hk fun _ h₁ t₁ hk₁ e₁ ra => (y F A { s with heap := h₁, toks := t₁ } env pos (a.ext e₁) hk₁).use fun vs h₂ t₂ e₂ rs => ⟨h₂, t₂, rfl, e₁.trans e₂, Reps.cons (ra.ext e₂) rs⟩) (he _)
theorem EvF.call {x : Str} {p pos : Pos} {e : Expr} {es : List Expr} {f : Value} {ds : List D} {d : D} (hf : Ev c n sc ρ (.Name x p) (.val f)) (pl : Plain c f) (ha : EvsF k c n sc ρ (e :: es) ds) (fn : Fn c n f ds d)
    (he : ∀ env, starEach (e :: es) env = (false, eval e env) :: starEach es env := by intro _; rfl) (hp : ∀ env, (backTo pos (starEach es env)).any (·.1) = false := by intro _; rfl) :
    EvF k c n sc ρ (.Call (.Name x p) (e :: es) [] pos) d := fun F A s env a hk => by
  show wpAny _ A (do callWith pos (← eval (.Name x p) env) [] (backTo pos (starEach (e :: es) env)) (backToKw pos (keywordEach [] env))) _ _ s
  refine wpAny_bind ((hf F A s env a).useT hk fun v h₁ t₁ hk₁ e₁ q => ?_)
  have q' : v = f := q
  subst q'
  rw [show backToKw pos (keywordEach [] env) = [] from rfl]
  have h2 := ha F A { s with heap := h₁, toks := t₁ } env pos (a.ext e₁) hk₁
  rw [he] at h2 ⊢
  refine callWith_of (P := fun h => ∀ b o, c.hT.get? b = some o → h.get? b = some o) (by show ((false || (backTo pos (starEach es env)).any (·.1)) || false) = false; rw [hp]; rfl) (fun h hh => keeper_of pl hh) (evalArgs_plain (h2.use fun vs h₂ t₂ e₂ rs => ⟨((a.ext e₁).ext e₂).ok.keep, ?_⟩))
  exact (fn F A { s with heap := h₂, toks := t₂ } vs (((a.ext e₁).ext e₂).ok) rs).use fun v h₃ t₃ e₃ r => ⟨h₃, t₃, rfl, (e₁.trans e₂).trans e₃, r⟩
/-- text.replace(y, z + y), y a kept text with its token -/
theorem EvF.replace {o ey ey' : Expr} {x y z : Str} {apos p1 p2 pos : Pos} {zk : Nat} {u : Tok} (hu : u ≠ 0) (huk : u < k) (h : EvF k c n sc ρ o (.str x)) (hy : Ev c n sc ρ ey (.val (.str y u))) (hy' : Ev c n sc ρ ey' (.val (.str y u))) (hz0 : z.length ≠ 0) (hy0 : y.length ≠ 0) (hx : x.length + (x.length + 1) * (z ++ y).length ≤ 16777216)
    (hbase : ∀ env, attributeBase o "replace" env (eval o env) = eval o env) (hline : (apos.endLine == pos.line) = true)
    (hst : ∀ env, starEach [ey, .BinOp (.Constant (.str z) zk p1) .Add ey' p2] env = [(false, eval ey env), (false, eval (.BinOp (.Constant (.str z) zk p1) .Add ey' p2) env)] := by intro _; rfl) :
    EvF k c n sc ρ (.Call (.Attribute o "replace" apos) [ey, .BinOp (.Constant (.str z) zk p1) .Add ey' p2] [] pos) (.str (Txt.replace x y (z ++ y))) := fun F A s env a hk => by
  have hlen : (z ++ y).length = z.length + y.length := Str.length_append z y
  have hyz : (y == z ++ y) = false := by
    rw [beq_eq_false_iff_ne]
    intro q
    have := congrArg Str.length q
    rw [hlen] at this; omega
  have hsz : (z ++ y).length ≤ sizeLine := by
    rw [sizeLine_eq]
    have h1 : (z ++ y).length ≤ (x.length + 1) * (z ++ y).length := Nat.le_mul_of_pos_left _ (by omega)
    omega
  refine Call_method2 (hbase env) (hst env) hline ((h F A s env a hk).useT hk fun v h₁ t₁ hk₁ e₁ r => ?_)
  obtain ⟨t, rfl⟩ := r
  refine ⟨"str", "str.replace", PySem.F.plainAttrs_str, PySem.F.slot_str_replace, PySem.F.type_str_replace, typeIs_str _ _ _, (fun _ e => nomatch e), ?_⟩
  refine Calls.callWith_builtin rfl (Calls.evalArgs_plain (Calls.spliced_cons ((hy F A { s with heap := h₁, toks := t₁ } env (a.ext e₁)).useT hk₁ fun vy h₂ t₂ hk₂ e₂ ry => ?_)))
  have ry' : vy = .str y u := ry
  subst ry'
  refine Calls.spliced_cons (wpAny_BinOp (wpAny_Constant_str ?_))
  refine (hy' F A { s with heap := h₂, toks := t₂ + 1 } env ((a.ext e₁).ext e₂)).useT (k := k) (by show k ≤ t₂ + 1; omega) fun vy h₃ t₃ hk₃ e₃ ry => ?_
  have ry' : vy = .str y u := ry
  subst ry'
  refine PySem.P.add_str ?_
  rw [if_neg (by simpa using hz0), if_neg (by simpa using hy0)]
  refine ⟨hsz, Calls.spliced_nil ?_⟩
  dsimp only at hk₃ ⊢
  refine SC.replace (s := { s with heap := h₃, toks := t₃ + 1 }) hu (Nat.ne_of_gt (Nat.lt_of_lt_of_le (Nat.lt_of_le_of_lt (Nat.zero_le _) huk) hk₃)) (Nat.ne_of_lt (Nat.lt_of_lt_of_le huk hk₃)) hyz hx fun t' tk => ?_
  exact ⟨h₃, tk, rfl, (e₁.trans e₂).trans e₃, t', rfl⟩
/-- the eol's own assignment: an item of a pair of written texts -/
theorem ExsF.assignTok {x : Str} {p pos tp sp p1 p2 : Pos} {k1 k2 k3 : Nat} {y1 y2 : Str} {ei : Expr} {b : Bool} {rest : List Stmt} (hx : sc.names.lookup x = some .local) (hi : Ev c n sc ρ ei (.int (if b then 1 else 0)))
    (hs : ∀ env, env.scope = sc → swapsWith (.Subscript (.Tuple [.Constant (.str y1) k1 p1, .Constant (.str y2) k2 p2] k3 tp) ei sp) (some (.Name x p)) pos.line env = pure false)
    (hsub : ∀ o j, subscripted ei false o j = operate [o, j] (getItem o j))
    (h : ∀ t : Tok, t ≠ 0 → ExsF (t + 1) c n sc own kc (upd ρ x (.val (.str (if b then y2 else y1) t))) ac rest out) :
    ExsF 1 c n sc own kc ρ ac (.Assign [.Name x p] (.Subscript (.Tuple [.Constant (.str y1) k1 p1, .Constant (.str y2) k2 p2] k3 tp) ei sp) pos :: rest) out := fun F P A s env a hk hf => by
  have kx : env.kindOf x = some .local := by unfold Env.kindOf; rw [a.scope]; exact hx
  refine wpAny_execs_cons (wpAny_Assign_Name (Subscript_ (wpAny_Tuple (wpAny_items_cons (wpAny_Constant_str (wpAny_items_cons (wpAny_Constant_str (wpAny_items_nil ⟨by show 2 ≤ sizeLine; rw [sizeLine_eq]; decide, ?_⟩)) rfl)) rfl))) (hs env a.scope))
  dsimp only
  generalize hH1 : s.heap.push _ = H1
  have e1 : Ext s.heap H1 := by rw [← hH1]; exact Ext.push _ _
  have t1 : H1.IsTuple s.heap.objs.size [Value.str y1 s.toks, Value.str y2 (s.toks + 1)].toArray := by rw [← hH1]; exact ⟨_, Heap.get?_push_size _ rfl, rfl, _, rfl⟩
  refine (hi F A { s with heap := H1, toks := s.toks + 1 + 1 } env (a.ext e1).at).useT (k := s.toks + 1 + 1) (Nat.le_refl _) fun vi h₂ t₂ hk₂ e₂ ri => ?_
  have t2 : h₂.IsTuple s.heap.objs.size [Value.str y1 s.toks, Value.str y2 (s.toks + 1)].toArray := t1.at fun o e => e₂ _ o e
  have a2 := (a.ext e1).ext e₂
  obtain ⟨ti, rfl⟩ := ri
  have pos1 : 0 < s.toks := hk
  have fin : ∀ (t : Tok), t ≠ 0 → t < t₂ → wpAny (model c.prog c.w) A (storeName env x (.str (if b then y2 else y1) t)) (fun _ s₃ => wpAny (model c.prog c.w) A (execs rest env) (fun a s' => ∃ h' tk, s' = { s with heap := h', toks := tk } ∧ ExtP (MP env own kc) s.heap h' ∧ OutOK F P env own kc h' a out) (fun _ _ => False) s₃) (fun _ _ => False) { s with heap := h₂, toks := t₂ } := fun t ht0 ht => by
    refine wpAny_with_toks (n := t + 1) ht (Fm.store (s := { s with heap := h₂, toks := t₂ }) (d := .val (.str (if b then y2 else y1) t)) a2.sm.fm a.eok.kind (.inl kx) rfl fun h₃ t₃ x₃ f₃ => ?_)
    intro hk₃
    have a3 : AtS c n F P A env sc own kc (upd ρ x (.val (.str (if b then y2 else y1) t))) ac h₃ := a2.to (x₃.mono fun a q => .inl q) (a2.sm.frame x₃ f₃)
    exact (h t ht0 F P A { s with heap := h₃, toks := t₃ } env a3 hk₃ hf).use fun fl h₄ t₄ e₄ q => ⟨h₄, t₄, rfl, ((e1.p.trans e₂.p).trans (x₃.mono fun a q => .inl q)).trans e₄, q⟩
  cases b with
  | false => exact item_tupleT (s := { s with heap := h₂, toks := t₂ }) t2 (by decide) (by decide) (j := 0) rfl (x := .str y1 s.toks) rfl (fin s.toks (Nat.ne_of_gt pos1) (by show s.toks < t₂; omega)) (hsub _ _)
  | true => exact item_tupleT (s := { s with heap := h₂, toks := t₂ }) t2 (by decide) (by decide) (j := 1) rfl (x := .str y2 (s.toks + 1)) rfl (fin (s.toks + 1) (by show s.toks + 1 ≠ 0; omega) (by show s.toks + 1 < t₂; omega)) (hsub _ _)
/-- a sum that opens with a written int: behind it a token has been drawn -/
theorem ExsF.assignBump {x : Str} {p pos p1 p2 : Pos} {k1 : Nat} {i b j : Int} {op : Operator} {r : Expr} {rest : List Stmt} (hx : sc.names.lookup x = some .local) (hr : Ev c n sc ρ r (.int b)) (f : Op2 c n (binaryOp op) (.int i) (.int b) (.int j))
    (hs : ∀ env, env.scope = sc → swapsWith (.BinOp (.Constant (.int i) k1 p1) op r p2) (some (.Name x p)) pos.line env = pure false)
    (h : ExsF 1 c n sc own kc (upd ρ x (.int j)) ac rest out) :
    ExsF 0 c n sc own kc ρ ac (.Assign [.Name x p] (.BinOp (.Constant (.int i) k1 p1) op r p2) pos :: rest) out := fun F P A s env a _ hf => by
  have kx : env.kindOf x = some .local := by unfold Env.kindOf; rw [a.scope]; exact hx
  refine wpAny_execs_cons (wpAny_Assign_Name (wpAny_BinOp (wpAny_Constant_int ?_)) (hs env a.scope))
  refine (hr F A { s with toks := s.toks + 1 } env a.at).useT (k := 1) (by show 1 ≤ s.toks + 1; omega) fun vb h₁ t₁ hk₁ e₁ rb => ?_
  refine (f F A { s with heap := h₁, toks := t₁ } _ vb (a.ok.ext e₁) ⟨_, rfl⟩ rb).useT (k := 1) hk₁ fun v h₂ t₂ hk₂ e₂ rv => ?_
  have a2 := (a.ext e₁).ext e₂
  refine wpAny_with_toks (n := 1) hk₂ (Fm.store (s := { s with heap := h₂, toks := t₂ }) a2.sm.fm a.eok.kind (.inl kx) rv fun h₃ t₃ x₃ f₃ => ?_)
  intro hk₃
  have a3 : AtS c n F P A env sc own kc (upd ρ x (.int j)) ac h₃ := a2.to (x₃.mono fun a q => .inl q) (a2.sm.frame x₃ f₃)
  exact (h F P A { s with heap := h₃, toks := t₃ } env a3 hk₃ hf).use fun fl h₄ t₄ e₄ q => ⟨h₄, t₄, rfl, ((e₁.p.trans e₂.p).trans (x₃.mono fun a q => .inl q)).trans e₄, q⟩
end
end Qp
namespace Qp
open PySem PySem.Calls PyProof.Rows PySem.W

section
variable {k : Nat} {c : Cx} {n : Nat} {sc : Scope} {own : Str → Prop} {kc : Option (Addr × Addr)}
noncomputable def ForsF (k : Nat) (c : Cx) (n : Nat) (sc : Scope) (own : Str → Prop) (kc : Option (Addr × Addr)) (xs : List Str) (body : List Stmt) : List (List D) → (Str → Option D) → List D → Out → Prop
  | [], ρ, ac, out => out = .next ρ ac
  | row :: rows, ρ, ac, out => (∃ ρ' ac', (ExsF k c n sc own kc (upds ρ xs row) ac body (.next ρ' ac') ∨ ExsF k c n sc own kc (upds ρ xs row) ac body (.cont ρ' ac')) ∧ ForsF k c n sc own kc xs body rows ρ' ac' out) ∨
      (∃ d, ExsF k c n sc own kc (upds ρ xs row) ac body (.ret d) ∧ out = .ret d)
theorem ExF.for {ρ : Str → Option D} {ac : List D} {out : Out} {target iter : Expr} {body : List Stmt} {pos : Pos} {xs : List Str} {rows : List (List D)} (t : Tgt target xs) (src : ItEv c n sc ρ iter target rows) (hx : ∀ x ∈ xs, sc.names.lookup x = some .local ∨ own x)
    (hl : ∀ row ∈ rows, row.length = xs.length) (hb : ForsF k c n sc own kc xs body rows ρ ac out) (hs : ∀ env x, foldedSetIterable iter env x = pure x := by intro _ _; rfl) :
    ExF k c n sc own kc ρ ac (.For target iter body [] pos) out := fun F P A s env at' hk hfi => by
  refine wpAny_For ((src F A s env at'.at).useT hk fun x h₁ t₁ hk₁ x₁ q₁ => (q₁ t₁).useT (k := k) hk₁ fun it h₂ t₂ hk₂ x₂ q₂ => ?_) (hs env)
  obtain ⟨h₀, x0, x02, I, fp, wr, Pk, Md, St, rfl, K, hst, hfp, hwn, hlv, hself, hrows⟩ := q₂
  have x12 : Ext s.heap h₂ := x0.trans x02
  let F' : Addr → Prop := fun a => F a ∨ a ∈ wr
  have wrn : ∀ b ∈ wr, s.heap.get? b = none := fun b hb => x0.none (hwn b hb)
  have F'new0 : ∀ a, F' a → F a ∨ h₀.get? a = none := fun a q => q.imp id fun z => hwn a z
  have F'new : ∀ a, F' a → F a ∨ s.heap.get? a = none := fun a q => q.imp id fun z => wrn a z
  have hTs : ∀ b, s.heap.get? b = none → c.hT.get? b = none := fun b e => by
    cases q : c.hT.get? b with
    | none => rfl
    | some o => rw [at'.ok.keep b o q] at e; cases e
  have wl : ∀ {b o}, s.heap.get? b = some o → b ∉ wr := fun e q => by rw [wrn _ q] at e; cases e
  have fpl : ∀ b ∈ fp, ¬ P b := fun b hb q => (hfp b hb).1 (at'.sm.fm.sub b q)
  have wrp : ∀ b ∈ wr, ¬ P b := fun b hb => fpl b (K.sub b hb)
  have hma : ∀ la ma, kc = some (la, ma) → ma ∉ wr := fun la ma e => by
    have := at'.sm.acc
    subst e
    obtain ⟨_, _, _, o, ws, g, _⟩ := this
    exact wl g
  have hcw : ∀ y a, env.cells.lookup y = some a → a ∉ wr := fun y a l => by obtain ⟨o, e⟩ := at'.sm.fm.fr.lv y a l; exact wl e
  have subF : ∀ a, P a → F' a := fun a q => .inl (at'.sm.fm.sub a q)
  have sm2 : SM F' P env own kc ρ ac h₂ := (SM.sub' at'.sm F'new subF).ext x12
  have ok2 : Ok c n F' A h₂ := ⟨at'.ok.room, fun b o e => x12 b o (at'.ok.keep b o e), fun a q => q.elim (at'.ok.lo a) fun z => hTs a (wrn a z), fun a q => by
    rcases q with q | q
    · obtain ⟨o, e⟩ := at'.ok.hi a q; exact ⟨o, x12 _ _ e⟩
    · exact hlv 0 _ hst a q⟩
  have back : ∀ {h : Heap} {fl : Flow}, OutOK F' P env own kc h fl out → OutOK F P env own kc h fl out := fun x => x.sub' (fun a q => .inl (.inl q)) at'.sm.fm.sub
  have fin : ∀ {h : Heap}, LoopExt (MP env own kc) wr s.heap h → ExtP (MP env own kc) s.heap h := fun le => ⟨fun b o nb e => le.1 b o nb (wl e) e, fun b o e => le.2 b o (wl e) e⟩
  have hdkd : ∀ x ∈ xs, env.kindOf x = some .local ∨ own x := fun x q => kind_of at'.scope (hx x q)
  have key : ∀ (rows' : List (List D)) (i : Nat) (ρ : Str → Option D) (ac : List D) (h : Heap) (tk : Nat), k ≤ tk → rows.drop i = rows' → i ≤ rows.length → St i h → SM F' P env own kc ρ ac h → Ok c n F' A h → LoopExt (MP env own kc) wr s.heap h → (∀ b o, h₂.get? b = some o → ¬ F' b → h.get? b = some o) → ForsF k c n sc own kc xs body rows' ρ ac out →
      codeAny (model c.prog c.w) A (.forLoop target (.ref I) body [] env) (fun r s' => match r with
        | .ok f => ∃ h' tk, s' = { s with heap := h', toks := tk } ∧ ExtP (MP env own kc) s.heap h' ∧ OutOK F P env own kc h' f out
        | .error e => cameBackBy (model c.prog c.w) A env (fun _ _ => False) e s') { s with heap := h, toks := tk } := by
    intro rows'
    induction rows' with
    | nil =>
      intro i ρ ac h tk htk hd hi hst sm ok le hk2 hf
      obtain rfl : i = rows.length := Nat.le_antisymm hi (List.drop_eq_nil_iff.mp hd)
      have hf' : out = .next ρ ac := hf
      refine codeAny_of_tree ?_
      rw [show A.under (.forLoop target (.ref I) body [] env) = A from Around.under_of_weight rfl rfl]
      show wpAny _ A ((forTurn target (.ref I) body [] env).onRaise (fun x => do noteFrame x env; theTreesLotGoes x)) _ _ _
      refine wpAny_noted ?_
      simp only [forTurn]
      refine wpAny_bind (wpAny_standAt (wpAny_bind (wpAny_onRaise ?_)))
      refine K.done { s with heap := h, toks := tk } _ _ hst fun h' tk' hk => ?_
      refine wpAny_pure ⟨rfl, codeAny_block (wpAny_execs_nil ⟨h', tk', rfl, fin ⟨fun b o nb nw e => hk b o nw (le.1 b o nb nw e), fun b o nw e => let ⟨o', e'⟩ := le.2 b o nw e; ⟨o', hk b o' nw e'⟩⟩, ?_⟩)⟩
      subst hf'
      exact back ⟨rfl, sm.off wr (fun b q => .inr q) wrp hma hcw hk⟩
    | cons row rows' ih =>
      intro i ρ ac h tk htk hd hi hst sm ok le hk2 hf
      have hlt : i < rows.length := by
        apply Nat.lt_of_not_le
        intro q
        rw [List.drop_eq_nil_iff.mpr q] at hd; cases hd
      have hrw : rows[i]? = some row := by
        have := congrArg List.head? hd
        simpa [List.head?_drop] using this
      have hd' : rows.drop (i + 1) = rows' := by
        have := congrArg List.tail hd
        simpa [List.tail_drop] using this
      have hmem : row ∈ rows := List.mem_of_getElem? hrw
      refine codeAny_of_tree ?_
      rw [show A.under (.forLoop target (.ref I) body [] env) = A from Around.under_of_weight rfl rfl]
      show wpAny _ A ((forTurn target (.ref I) body [] env).onRaise (fun x => do noteFrame x env; theTreesLotGoes x)) _ _ _
      refine wpAny_noted ?_
      simp only [forTurn]
      refine wpAny_bind (wpAny_standAt (wpAny_bind (wpAny_onRaise ?_)))
      refine wpAny_with_toks (n := k) htk (K.item i { s with heap := h, toks := tk } _ _ hlt hst fun v h₃ t₃ hMd hk₃ htk₃ => ?_)
      refine wpAny_bind (K.go i v { s with heap := h₃, toks := t₃ } _ _ hMd fun h₄ hP hst₄ hk₄ => ?_)
      have kk : ∀ b o, b ∉ wr → h.get? b = some o → h₄.get? b = some o := fun b o q e => hk₄ b o q (hk₃ b o q e)
      have sm₄ := sm.off wr (fun b q => .inr q) wrp hma hcw kk
      have le₄ : LoopExt (MP env own kc) wr s.heap h₄ := ⟨fun b o nb nw e => kk b o nw (le.1 b o nb nw e), fun b o nw e => let ⟨o', e'⟩ := le.2 b o nw e; ⟨o', kk b o' nw e'⟩⟩
      have ok₄ : Ok c n F' A h₄ := ⟨ok.room, fun b o e => kk b o (fun q => by rw [hTs b (wrn b q)] at e; cases e) (ok.keep b o e), ok.lo, fun a q => by
        by_cases z : a ∈ wr
        · exact hlv _ _ hst₄ a z
        · obtain ⟨o, e⟩ := ok.hi a q; exact ⟨o, kk a o z e⟩⟩
      have hk4 : ∀ b o, h₂.get? b = some o → ¬ F' b → h₄.get? b = some o := fun b o e nf => kk b o (fun q => nf (.inr q)) (hk2 b o e nf)
      have ra : RowAt F' h₄ v target row := hrows F' i v h₄ row F'new0 (fun b o nf e => hk4 b o (x02 _ _ e) nf) hP hrw
      refine wpAny_bind (wpAny_with_toks (n := k) htk₃ (assign_row (s := { s with heap := h₄, toks := t₃ }) t sm₄.fm at'.ok.room.handled at'.eok.kind hdkd (hl row hmem) ra fun h₅ t₅ x₅ f₅ htk₅ => ?_))
      have sm₅ := sm₄.frame x₅ f₅
      have x₅' : ExtP (MP env own kc) h₄ h₅ := x₅.mono fun a q => .inl q
      have ok₅ : Ok c n F' A h₅ := ok₄.extP x₅' fun a q => subF a (sm₄.mp q)
      have st5 : AtS c n F' P A env sc own kc (upds ρ xs row) ac h₅ := ⟨ok₅, at'.scope, at'.eok, sm₅⟩
      have go : ∀ {ρ' ac' h₆ t₆}, k ≤ t₆ → ExtP (MP env own kc) h₅ h₆ → SM F' P env own kc ρ' ac' h₆ → ForsF k c n sc own kc xs body rows' ρ' ac' out → codeAny (model c.prog c.w) A (.forLoop target (.ref I) body [] env) (fun r s' => match r with
          | .ok f => ∃ h' tk, s' = { s with heap := h', toks := tk } ∧ ExtP (MP env own kc) s.heap h' ∧ OutOK F P env own kc h' f out
          | .error e => cameBackBy (model c.prog c.w) A env (fun _ _ => False) e s') { s with heap := h₆, toks := t₆ } := fun {ρ' ac' h₆ t₆} htk₆ x₆ sm₆ hf' => by
        have x46 := x₅'.trans x₆
        have mpP : ∀ a, MP env own kc a → P a := fun a q => sm₄.mp q
        exact ih (i + 1) ρ' ac' h₆ t₆ htk₆ hd' hlt (K.frame _ _ _ hst₄ fun b hb o e => x46.1 b o (fun q => fpl b hb (mpP b q)) e) sm₆ (ok₅.extP x₆ fun a q => subF a (mpP a q))
          ⟨fun b o nb nw e => x46.1 b o nb (le₄.1 b o nb nw e), fun b o nw e => let ⟨o', e'⟩ := le₄.2 b o nw e; x46.2 b o' e'⟩ (fun b o e nf => x46.1 b o (fun q => nf (subF b (mpP b q))) (hk4 b o e nf)) hf'
      rcases hf with ⟨ρ', ac', hb' | hb', hf'⟩ | ⟨d, hb', rfl⟩
      · refine wpAny_bind ((hb' F' P A { s with heap := h₅, toks := t₅ } env st5 htk₅ hfi).useT (k := k) htk₅ fun fl h₆ t₆ htk₆ x₆ q => ?_)
        obtain ⟨rfl, sm₆⟩ := q
        exact wpAny_pure ⟨rfl, go htk₆ x₆ sm₆ hf'⟩
      · refine wpAny_bind ((hb' F' P A { s with heap := h₅, toks := t₅ } env st5 htk₅ hfi).useT (k := k) htk₅ fun fl h₆ t₆ htk₆ x₆ q => ?_)
        obtain ⟨rfl, sm₆⟩ := q
        exact wpAny_pure ⟨rfl, go htk₆ x₆ sm₆ hf'⟩
      · refine wpAny_bind ((hb' F' P A { s with heap := h₅, toks := t₅ } env st5 htk₅ hfi).useT (k := k) htk₅ fun fl h₆ t₆ htk₆ x₆ q => ?_)
        obtain ⟨v', rfl, r⟩ := q
        have x46 := x₅'.trans x₆
        exact wpAny_pure ⟨h₆, t₆, rfl, fin ⟨fun b o nb nw e => x46.1 b o nb (le₄.1 b o nb nw e), fun b o nw e => let ⟨o', e'⟩ := le₄.2 b o nw e; x46.2 b o' e'⟩, back ⟨v', rfl, r⟩⟩
  exact key rows 0 ρ ac h₂ t₂ hk₂ (by simp) (Nat.zero_le _) hst sm2 ok2 ⟨fun b o nb nw e => x12 b o e, fun b o nw e => ⟨o, x12 b o e⟩⟩ (fun b o e _ => e) hb

end
end Qp
namespace Qp
open PySem PySem.Calls PyProof.Rows PySem.W

/-- the suite raises ValueError(msg), its heap but grown till then -/
noncomputable def ExsR (c : Cx) (n : Nat) (sc : Scope) (own : Str → Prop) (ρ : Str → Option D) (st : List Stmt) (msg : Str) : Prop :=
  ∀ (F P : Addr → Prop) (A : Around) (s : Shared) (env : Env), AtS c n F P A env sc own none ρ [] s.heap →
    wpAny (model c.prog c.w) A (execs st env) (fun _ _ => False) (fun x s' => ∃ h₁ h' tk e u, x = .ref e ∧ s' = { s with heap := h', toks := tk } ∧ Ext s.heap h₁ ∧ Heap.MadeExc h₁ h' e "ValueError" [.str msg u]) s
noncomputable def FnR (c : Cx) (n : Nat) (f : Value) (as : List D) (msg : Str) : Prop :=
  ∀ (F : Addr → Prop) (A : Around) (s : Shared) (vs : List Value) (env : Env) (base : Heap), Ok c n F A s.heap → Reps F s.heap vs as → A.frames = some [env] → base.StaysIn s.heap → s.heap.FunFrames base [env] →
    wpAny (model c.prog c.w) A (call f vs) (fun _ _ => False) (fun x s' => ∃ h' tk e t u, x = .ref e ∧ s' = { s with heap := h', toks := tk } ∧ Heap.FlyingW base [env] e (.type "ValueError") (.ref t) h' ∧ h'.TupAt t [.str msg u] ∧ s.heap.UpToSlots h') s
section
variable {c : Cx} {n : Nat}
theorem ExsR.raiseIf {sc : Scope} {own : Str → Prop} {ρ : Str → Option D} {t : Expr} {x : Str} {np cpos pos p2 p3 : Pos} {k : Nat} {msg : Str} {orelse rest body : List Stmt} (G : c.Good) (ht : Tr c n sc ρ t true) (hl : sc.names.lookup x = some .globalImplicit) (bm : c.mg x = none) (bb : c.mb x = some (.type "ValueError")) (hd : (x == ("__debug__" : Str)) = false) :
    ExsR c n sc own ρ (.If t (.Raise (some (.Call (.Name x np) [.Constant (.str msg) k p2] [] cpos)) none pos :: body) orelse p3 :: rest) msg := fun F P A s env a => by
  refine wpAny_execs_cons (wpAny_If ((ht F A s env a.at).use fun z h₁ t₁ e₁ q => ?_))
  subst q
  refine wpAny_execs_cons (Raise_madeB PySem.F.excCall_ValueError PySem.F.excRaise_ValueError a.ok.room.handled ((Ev.builtinName (pos := np) G hl bm bb hd F A { s with heap := h₁, toks := t₁ } env (a.ext e₁).at).use fun f h₂ t₂ e₂ q => ⟨q, ?_⟩))
  refine ((Evs.cons (Ev.str (x := msg) (k := k) (pos := p2)) Evs.nil (by intro _; rfl) : Evs c n sc ρ _ _) F A { s with heap := h₂, toks := t₂ } env cpos ((a.ext e₁).ext e₂).at).use fun vs h₃ t₃ e₃ rs => ⟨?_, fun h' e hm => ?_⟩
  · rw [rs.length]; show 1 ≤ sizeLine; rw [sizeLine_eq]; decide
  · obtain ⟨v, rfl, u, rfl⟩ := rs.oneInv
    exact ⟨h₃, h', t₃, e, u, rfl, rfl, (e₁.trans e₂).trans e₃, hm⟩

theorem FnR.def {a : Addr} {o : Obj} {fd : FuncData} {body : List Stmt} {scope : Scope} {xs : List Str} {as dd : List D} {dv : List Value} {msg : Str} (G : c.Good)
    (ho : c.hT.get? a = some o) (hd : o.data = .func fd) (hbody : fd.body = .stmts body) (hsc : fd.scope = scope) (hg : fd.globals = mainGlobals) (hb : fd.builtins = builtinsNs) (hcl : fd.closure = []) (hcd : c.hT.CodeRec fd.code fd.qualname)
    (hk : scope.kind = .function) (hco : scope.isCoroutine = false) (hgen : scope.isGenerator = false)
    (hdv : ∀ F : Addr → Prop, (∀ a, F a → c.hT.get? a = none) → Reps F c.hT dv dd)
    (hbind : ∀ (s : Shared) (vs : List Value), vs.length = as.length → (∀ b o, c.hT.get? b = some o → s.heap.get? b = some o) → BindsTo s fd ⟨vs, []⟩ (xs.zip (vs ++ dv)))
    (hxs : (xs.all fun x => scope.names.lookup x == some .local || scope.names.lookup x == some .cell) = true)
    (hx : ExsR c n scope (fun x => scope.names.lookup x = some .cell) (upds (fun _ => none) xs (as ++ dd)) body msg) :
    FnR c (n + 1) (.ref a) as msg := fun F A s vs env₀ base k rs hfr hst hff => by
  refine wpAny_call (codeAny_call_function k.room.d (k.keep _ _ ho) hd (by rw [hsc]; exact hco) (by rw [hsc]; exact hgen) hbody (hcd.keeps k.keep) ?_)
  refine hbind s vs rs.length k.keep _ _ _ _ ?_
  rw [hcl, hsc, hg, hb]
  have mem_of : ∀ {x v}, (x, v) ∈ xs.zip (vs ++ dv) → x ∈ xs := fun h => (List.of_mem_zip h).1
  have hkind : ∀ x ∈ xs.zip (vs ++ dv), scope.names.lookup x.1 = some .local ∨ (scope.names.lookup x.1 = some .cell ∧ ((cellsFrom (s.heap.objs.size + 1) scope.names []).lookup x.1).isSome = true) := fun x hm => by
    have := List.all_eq_true.mp hxs x.1 (mem_of (show (x.1, x.2) ∈ _ from hm))
    rcases Bool.or_eq_true_iff.mp this with q | q
    · exact .inl (by simpa using q)
    · have q' : scope.names.lookup x.1 = some .cell := by simpa using q
      exact .inr ⟨q', PySem.W.cellsFrom_some _ _ _ (.inl q')⟩
  refine wpAny_newFunctionEnv_cells hk hkind fun env he s' ic => ?_
  have kp := ic.toInCall.keep
  refine ⟨(G.nolimit.keeps k.keep).keeps kp, codeAny_func ?_⟩
  have esc : env.scope = scope := by rw [he]; rfl
  have eL : env.locals = s.heap.objs.size := by rw [he]; rfl
  have eF : env.frame = some env.locals := by rw [he]; rfl
  have eC : env.cells = cellsFrom (s.heap.objs.size + 1) scope.names [] := by rw [he]; rfl
  have eo : EnvOK env := ⟨by rw [esc]; exact hk, by rw [he]; rfl, by rw [he]; rfl, ic.apart⟩
  obtain ⟨h', tk', rfl⟩ := ic.toInCall.same
  let P : Addr → Prop := fun a => a = env.locals ∨ ∃ x, env.cells.lookup x = some a
  let F' : Addr → Prop := fun a => F a ∨ P a
  have lt : s.heap.objs.size ≤ env.locals := by rw [eL]; exact Nat.le_refl _
  have pn : ∀ a, P a → s.heap.get? a = none := fun a q => by
    rcases q with rfl | ⟨x, q⟩
    · exact fresh_ge lt
    · exact fresh_ge (Nat.le_trans lt (Nat.le_of_lt (ic.above x a (mem_of_lookup q))))
  have own_look : ∀ x, scope.names.lookup x = some .cell → ∃ b, env.cells.lookup x = some b := fun x q => by
    rw [eC]; exact Option.isSome_iff_exists.mp (PySem.W.cellsFrom_some _ _ _ (.inl q))
  have plive : ∀ a, P a → ∃ o, h'.get? a = some o := fun a q => by
    rcases q with rfl | ⟨x, q⟩
    · obtain ⟨o, _, _, e, _⟩ := ic.toInCall.ns; exact ⟨o, e⟩
    · obtain ⟨o, e, _⟩ := ic.cell x a q; exact ⟨o, e⟩
  have F'new : ∀ a, F' a → F a ∨ s.heap.get? a = none := fun a q => q.imp id (pn a)
  have hTs : ∀ b, s.heap.get? b = none → c.hT.get? b = none := fun b e => by
    cases q : c.hT.get? b with
    | none => rfl
    | some o => rw [k.keep b o q] at e; cases e
  have ok' : Ok c n F' (A.deeper env) h' := ⟨k.room.deeper, fun b o e => kp b o (k.keep b o e), fun a q => q.elim (k.lo a) fun z => hTs a (pn a z), fun a q => by
    rcases q with q | q
    · obtain ⟨o, e⟩ := k.hi a q; exact ⟨o, kp _ _ e⟩
    · exact plive a q⟩
  have rall : Reps F' h' (vs ++ dv) (as ++ dd) := Reps.append ((Reps.sub F'new _ rs).ext kp) (Reps.keep (fun b o _ e => kp b o (k.keep b o e)) _ (hdv F' ok'.lo))
  have bindsOk : ∀ (xs : List Str) (vs : List Value) (ds : List D) (m cm : Str → Option Value) (ρ : Str → Option D), Reps F' h' vs ds → (∀ x d, env.kindOf x = some .local → ρ x = some d → ∃ v, m x = some v ∧ Rep F' h' v d) → (∀ x d, env.kindOf x ≠ some .local → ρ x = some d → ∃ v, cm x = some v ∧ Rep F' h' v d) →
      (∀ x d, env.kindOf x = some .local → upds ρ xs ds x = some d → ∃ v, bindL env.kindOf (xs.zip vs) m x = some v ∧ Rep F' h' v d) ∧ (∀ x d, env.kindOf x ≠ some .local → upds ρ xs ds x = some d → ∃ v, bindC env.kindOf (xs.zip vs) cm x = some v ∧ Rep F' h' v d) := by
    intro xs
    induction xs with
    | nil => intro vs ds m cm ρ _ h1 h2; cases ds <;> exact ⟨h1, h2⟩
    | cons y ys ih =>
      intro vs ds m cm ρ r h1 h2
      cases ds with
      | nil => simp only [Reps] at r; subst r; exact ⟨h1, h2⟩
      | cons d' ds =>
        simp only [Reps] at r
        obtain ⟨v', vs', rfl, r', rs'⟩ := r
        simp only [List.zip_cons_cons, upds, bindL, bindC]
        refine ih vs' ds _ _ _ rs' (fun x d hk' e => ?_) (fun x d hk' e => ?_)
        · unfold upd at e
          by_cases z : x = y
          · subst z; rw [if_pos rfl] at e; cases e; rw [if_pos hk']; exact ⟨v', by simp, r'⟩
          · rw [if_neg z] at e
            obtain ⟨v, e', q⟩ := h1 x d hk' e
            refine ⟨v, ?_, q⟩
            split
            · simp [z, e']
            · exact e'
        · unfold upd at e
          by_cases z : x = y
          · subst z; rw [if_pos rfl] at e; cases e; rw [if_neg hk']; exact ⟨v', by simp, r'⟩
          · rw [if_neg z] at e
            obtain ⟨v, e', q⟩ := h2 x d hk' e
            refine ⟨v, ?_, q⟩
            split
            · exact e'
            · simp [z, e']
  obtain ⟨bl, bc⟩ := bindsOk xs (vs ++ dv) (as ++ dd) (fun _ => none) (fun _ => none) (fun _ => none) rall (fun _ _ _ e => by cases e) (fun _ _ _ e => by cases e)
  have fm : Fm F' P env (fun x => scope.names.lookup x = some .cell) (upds (fun _ => none) xs (as ++ dd)) h' := by
    refine ⟨⟨⟨_, ic.toInCall.ns, bl⟩, fun x d hl e => ?_, fun x a l => by obtain ⟨o, e, _⟩ := ic.cell x a l; exact ⟨o, e⟩⟩, fun a q => .inr q, .inl rfl, ic.apart, fun x ho' => ?_⟩
    · have hnl : env.kindOf x ≠ some .local := by rcases hl with q | q <;> (rw [q]; decide)
      obtain ⟨v, e', r⟩ := bc x d hnl e
      have hxm : x ∈ xs := Classical.byContradiction fun q => by rw [upds_other q] at e; cases e
      have := List.all_eq_true.mp hxs x hxm
      have hkc : scope.names.lookup x = some .cell := by
        rcases Bool.or_eq_true_iff.mp this with q | q
        · exfalso; apply hnl; unfold Env.kindOf; rw [esc]; simpa using q
        · simpa using q
      obtain ⟨b, hb'⟩ := own_look x hkc
      have hc := ic.cell x b hb'
      rw [e'] at hc
      obtain ⟨o', g, hd'⟩ := hc
      exact ⟨b, o', v, hb', g, hd', r⟩
    · obtain ⟨b, hb'⟩ := own_look x ho'
      exact ⟨by unfold Env.kindOf; rw [esc]; exact ho', b, _, hb', ic.cell x b hb', .inr ⟨x, hb'⟩⟩
  refine wpAny_mono (hx F' P (A.deeper env) { s with heap := h', toks := tk' } env ⟨ok', esc, eo, fm, trivial⟩) (fun _ _ f => f.elim) fun x s₂ q => ?_
  obtain ⟨h₁, h₂, tk₂, e, u, rfl, rfl, ex, hm⟩ := q
  have hbn : ∀ b, s.heap.get? b = none → base.get? b = none := fun b e => by
    cases q : base.get? b with
    | none => rfl
    | some o => rw [hst b o q] at e; cases e
  have kall : ∀ b o, s.heap.get? b = some o → h₁.get? b = some o := fun b o e => ex b o (kp b o e)
  have hff1 : h₁.FunFrames base [env₀] := hff.of_keeps fun b o e _ => ⟨o, kall b o e, rfl⟩
  have hff2 : h₁.FunFrames base [env, env₀] := by
    refine ⟨by rw [eo.kind]; decide, ?_, hff1⟩
    obtain ⟨o', es, ep, e', hd', _⟩ := ic.toInCall.ns
    exact ⟨env.locals, o', eF, hbn _ (pn _ (.inl rfl)), ex _ _ e', fun ws q => by rw [hd'] at q; cases q⟩
  refine wpAny_leaves_madeW (h := h₁) (Around.frames_deeper hfr) eF (fun b o e => kall b o (hst b o e)) hff2 hm.of fun h₃ t x1 x2 x3 x4 => ?_
  exact ⟨h₃, tk₂, e, t, u, rfl, rfl, x1, x2, ((Heap.UpToSlots.of_keeps kall).trans (Heap.UpToSlots.of_keeps hm.keeps)).trans x4⟩
end
end Qp
namespace Qp
open PySem PySem.Calls PyProof.Rows PySem.W

theorem Fm.relocal {F P : Addr → Prop} {env : Env} {own : Str → Prop} {ρ : Str → Option D} {h h' : Heap} (f : Fm F P env own ρ h) (k : ∀ b o, b ≠ env.locals → h.get? b = some o → h'.get? b = some o)
    (hn : ∀ m, h.Ns env.locals m → ∃ m', h'.Ns env.locals m' ∧ ∀ x d, env.kindOf x = some .local → ρ x = some d → m' x = m x) : Fm F P env own ρ h' := by
  have fl : F env.locals := f.sub _ f.loc
  have kp : ∀ (d : D) {v : Value}, Rep F h v d → Rep F h' v d := Rep.keep fun b o nf e => k b o (fun z => nf (z ▸ fl)) e
  obtain ⟨m, hm, q⟩ := f.fr.ns
  obtain ⟨m', hm', hq⟩ := hn m hm
  refine ⟨⟨⟨m', hm', fun y d e r => ?_⟩, fun y d e r => ?_, fun y b l => ?_⟩, f.sub, f.loc, f.apart, fun y o => ?_⟩
  · obtain ⟨v, e', z⟩ := q y d e r
    exact ⟨v, by rw [hq y d e r]; exact e', kp _ z⟩
  · obtain ⟨a, o, v, l, g, hd, z⟩ := f.fr.cl y d e r
    exact ⟨a, o, v, l, k _ _ (ns_ne_cell hm g hd) g, hd, kp _ z⟩
  · obtain ⟨o, e⟩ := f.fr.lv y b l
    by_cases z : b = env.locals
    · subst z; obtain ⟨o', _, _, e', _⟩ := hm'; exact ⟨o', e'⟩
    · exact ⟨o, k b o z e⟩
  · obtain ⟨kk, a, v, l, ⟨o, g, hd⟩, p⟩ := f.cell y o
    exact ⟨kk, a, v, l, ⟨o, k _ _ (ns_ne_cell hm g hd) g, hd⟩, p⟩

section
variable {k : Nat} {c : Cx} {n : Nat} {sc : Scope} {own : Str → Prop} {ρ : Str → Option D}
theorem ExF.tryVE (hn : 1 ≤ n) {f : Value} {ds : List D} {fn er : Str} {msg : Str} {fp cp ep np sp ep2 cp2 kp p2 p3 hp tp : Pos} {kk : Nat} {e0 : Expr} {es : List Expr} {rest ib : List Stmt} (G : c.Good) (hk : sc.kind = .function)
    (hf : Ev c n sc ρ (.Name fn fp) (.val f)) (pl : Plain c f) (ha : Evs c n sc ρ (e0 :: es) ds) (fr : FnR c n f ds msg)
    (her : sc.names.lookup er = some .local) (hρ : ρ er = none) (herd : (er == ("__debug__" : Str)) = false)
    (lv : sc.names.lookup ("ValueError" : Str) = some .globalImplicit) (bv : c.mg "ValueError" = none) (bv' : c.mb "ValueError" = some (.type "ValueError"))
    (ls : sc.names.lookup ("str" : Str) = some .globalImplicit) (bs : c.mg "str" = none) (bs' : c.mb "str" = some (.type "str"))
    (he : ∀ env, starEach (e0 :: es) env = (false, eval e0 env) :: starEach es env := by intro _; rfl) (hpl : ∀ env, (backTo cp (starEach es env)).any (·.1) = false := by intro _; rfl) :
    ExF k c n sc own none ρ [] (.Try (.Expr (.Call (.Name fn fp) (e0 :: es) [] cp) ep :: rest)
      [.ExceptHandler (some (.Name "ValueError" np)) (some er) [.If (.Compare (.Call (.Name "str" sp) [.Name er ep2] [] cp2) [.NotEq] [.Constant (.str msg) kk kp] p2) ib [] p3] hp] [] [] tp) (.next ρ []) := fun F P A s env a _ hfi => by
  have ker : env.kindOf er = some .local := by unfold Env.kindOf; rw [a.scope]; exact her
  have kve : env.kindOf "ValueError" = some .globalImplicit := by unfold Env.kindOf; rw [a.scope]; exact lv
  have kst : env.kindOf "str" = some .globalImplicit := by unfold Env.kindOf; rw [a.scope]; exact ls
  refine wpAny_Try_except (wpAny_execs_cons (wpAny_Expr_any ?_ (by unfold interactive; rw [a.eok.kind]; rfl) rfl))
  -- the call
  show wpAny _ A (do callWith cp (← eval (.Name fn fp) env) [] (backTo cp (starEach (e0 :: es) env)) (backToKw cp (keywordEach [] env))) _ _ s
  refine wpAny_bind ((hf F A s env a.at).use fun v h₁ t₁ e₁ q => ?_)
  have q' : v = f := q
  subst q'
  rw [show backToKw cp (keywordEach [] env) = [] from rfl]
  have h2 := ha F A { s with heap := h₁, toks := t₁ } env cp (a.ext e₁).at
  rw [he] at h2 ⊢
  refine callWith_of (P := fun h => ∀ b o, c.hT.get? b = some o → h.get? b = some o) (by show ((false || (backTo cp (starEach es env)).any (·.1)) || false) = false; rw [hpl]; rfl) (fun h hh => keeper_of pl hh) (evalArgs_plain (h2.use fun vs h₂ t₂ e₂ rs => ⟨((a.ext e₁).ext e₂).ok.keep, ?_⟩))
  have a2 := (a.ext e₁).ext e₂
  obtain ⟨m, hm, hmq⟩ := a2.sm.fm.fr.ns
  obtain ⟨oL, es', ep', hoL, hdL, hNsR⟩ := id hm
  let base := hideAll h₂ [env.locals]
  have hbL : base.get? env.locals = none := hideAll_none _ (List.mem_singleton.mpr rfl)
  have hbk : ∀ b o, b ≠ env.locals → h₂.get? b = some o → base.get? b = some o := fun b o hb e => hideAll_get _ e (by simpa using hb)
  have hst : base.StaysIn h₂ := fun b o e => of_hideAll _ e
  have hff : h₂.FunFrames base [env] := ⟨by rw [a.eok.kind]; decide, ⟨env.locals, oL, hfi.frame, hbL, hoL, fun ws q => by rw [hdL] at q; cases q⟩, trivial⟩
  refine wpAny_mono (fr F A { s with heap := h₂, toks := t₂ } vs env base a2.ok rs hfi.frames hst hff) (fun _ _ z => z.elim) fun x s₃ hx => ?_
  obtain ⟨h₃, t₃, e, t, u, rfl, rfl, hfl, htup, hup⟩ := hx
  dsimp only at hfl htup hup
  -- caught
  refine wpAny_looks_onW (s := { s with heap := h₃, toks := t₃ }) hfi.frames hfi.frame hfl fun h₄ hheld₄ hsm₄ => ?_
  refine wpAny_landsW (s := { s with heap := h₄, toks := t₃ }) hheld₄ fun h₅ hfl₅ hsm₅ => ?_
  dsimp only at hsm₄ hsm₅
  have up5 := (hup.trans hsm₄).trans hsm₅
  obtain ⟨ob, hob, hobc⟩ := hfl₅.there
  have hTL : c.hT.get? env.locals = none := a.ok.lo _ (a.sm.fm.sub _ a.sm.fm.loc)
  have kT : ∀ {h : Heap}, base.StaysIn h → ∀ b o, c.hT.get? b = some o → h.get? b = some o := fun {h} z b o e => z b o (hbk b o (fun q => by rw [q, hTL] at e; cases e) (a2.ok.keep b o e))
  refine wpAny_handleBy_builtin_as (s := { s with heap := h₅, toks := t₃ }) (X := "ValueError") (T := "ValueError") (b := true) PySem.F.isExc_ValueError PySem.F.notTuple_ValueError (by rw [isSubtype_type]; kernel_rfl) ?_
  refine Name_function_global a.eok.kind kve (loadGlobal_builtin (by rw [a.eok.globals]; exact G.g.keeps (kT hfl₅.1)) bv (by rw [a.eok.builtins]; exact G.b.keeps (kT hfl₅.1)) bv' ⟨rfl, ⟨ob, hob, hobc⟩, ?_⟩) (by decide +kernel)
  -- bound to its name
  refine lands_againW (s := { s with heap := h₅, toks := t₃ }) hfl₅ fun h₆ hfl₆ hsm₆ => ?_
  dsimp only at hsm₆
  have up6 := up5.trans hsm₆
  have hm6 : h₆.Ns env.locals m := up6.ns hm
  obtain ⟨oe, ws, hoe, hoec, hoed, hoe0⟩ := hfl₆.first
  obtain ⟨ot, nt, hot, hotc, hotd⟩ := ((htup.of_slots hsm₄).of_slots hsm₅).of_slots hsm₆
  obtain ⟨oL6, es6, ep6, hoL6, hdL6, _⟩ := id hm6
  have enl : e ≠ env.locals := fun q => by rw [q, hoL6] at hoe; cases hoe; rw [hdL6] at hoed; cases hoed
  have tnl : t ≠ env.locals := fun q => by rw [q, hoL6] at hot; cases hot; rw [hdL6] at hotd; cases hotd
  refine wpAny_storeName_local ker hm6 (fun h₇ hm7 hs7 => ?_) (by rw [a.eok.kind]; rfl)
  dsimp only at hs7
  have x7 : h₇.ExcAt e "ValueError" (.ref t) := ⟨oe, ws, hs7.extBut _ _ enl hoe, hoec, hoed, hoe0⟩
  have t7 : h₇.TupAt t [.str msg u] := ⟨ot, nt, hs7.extBut _ _ tnl hot, hotc, hotd⟩
  have k7 : ∀ b o, b ≠ env.locals → h₂.get? b = some o → h₇.get? b = some o := fun b o hb e => hs7.extBut _ _ hb (hfl₆.1 b o (hbk b o hb e))
  have kT7 : ∀ b o, c.hT.get? b = some o → h₇.get? b = some o := fun b o e => k7 b o (fun q => by rw [q, hTL] at e; cases e) (a2.ok.keep b o e)
  -- the suite's test
  refine wpAny_execs_cons (wpAny_If (wpAny_isTrue_Compare1 ?_ (by rfl)))
  show wpAny _ _ (do callWith cp2 (← eval (.Name "str" sp) env) [] (backTo cp2 (starEach [.Name er ep2] env)) (backToKw cp2 (keywordEach [] env))) _ _ _
  refine wpAny_bind (Name_function_global a.eok.kind kst (loadGlobal_builtin (by rw [a.eok.globals]; exact G.g.keeps kT7) bs (by rw [a.eok.builtins]; exact G.b.keeps kT7) bs' ?_) (by decide +kernel))
  rw [show backToKw cp2 (keywordEach [] env) = [] from rfl]
  refine callWith_of (P := fun _ => True) rfl (fun h _ => ⟨.machine, .inr (.inl rfl), Looks.of_pure rfl⟩) (evalArgs_plain (Calls.spliced_cons (wpAny_Name (wpAny_loadName_local a.eok.kind ker hm7 (if_pos rfl) (Calls.spliced_nil ⟨trivial, ?_⟩)) herd)))
  refine PySem.P.str_of_exc_one PySem.F.excStr_ValueError (by show A.units + 2 < cLine; have := a.ok.room.units; omega) x7 t7 ?_
  refine wpAny_Constant_str (PyProof.Rows.ne_str ?_)
  rw [show (msg != msg) = false by simp]
  refine wpAny_truthy_bool ?_
  refine wpAny_execs_nil (wpAny_execs_nil ?_)
  -- the name goes
  refine wpAny_nameGoes_keeps ker hm7 (by rw [a.eok.kind]; rfl) fun h₈ v8 hm8 hs8 => ?_
  dsimp only at hs8
  have k8 : ∀ b o, b ≠ env.locals → h₂.get? b = some o → h₈.get? b = some o := fun b o hb e => hs8.extBut _ _ hb (k7 b o hb e)
  refine ⟨h₈, _, rfl, ?_, rfl, ⟨a2.sm.fm.relocal k8 fun m' hm' => ?_, trivial⟩⟩
  · refine ⟨fun b o nb e => k8 b o (fun q => nb (.inl (.inl q))) (e₂ _ _ (e₁ _ _ e)), fun b o e => ?_⟩
    by_cases z : b = env.locals
    · subst z; obtain ⟨o', _, _, e', _⟩ := hm8; exact ⟨o', e'⟩
    · exact ⟨o, k8 b o z (e₂ _ _ (e₁ _ _ e))⟩
  · have em : m' = m := hm'.eq_nsMap.trans hm.eq_nsMap.symm
    subst em
    refine ⟨_, hm8, fun y d _ hy => ?_⟩
    have hne : y ≠ er := fun q => by rw [q, hρ] at hy; cases hy
    simp [hne]
end
end Qp
namespace Qp
open PySem PySem.Calls PyProof.Rows PySem.W
noncomputable def stB : Stmt → List Stmt
  | .FunctionDef _ _ body _ _ _ _ _ _ _ => body
  | _ => []
noncomputable def stS : Stmt → Scope
  | .FunctionDef _ _ _ _ _ _ scope _ _ _ => scope
  | _ => default
noncomputable def top (i : Nat) : Stmt := (PySem.Challenge.pw_rs0126_01.main.body).getD i (.Pass ⟨0,0,0,0⟩)
noncomputable def fB (i : Nat) : List Stmt := stB (top i)
noncomputable def fS (i : Nat) : Scope := stS (top i)

/-- a builtin's name at the top -/
noncomputable def Bi (c : Cx) (x : Str) (v : Value) : Prop := c.mg x = none ∧ c.mb x = some v
structure Tops (c : Cx) : Prop where
  good : c.Good
  sorted : Bi c "sorted" (.builtin "sorted")
  len : Bi c "len" (.builtin "len")
  sum : Bi c "sum" (.builtin "sum")
  chr : Bi c "chr" (.builtin "chr")
  ord : Bi c "ord" (.builtin "ord")
  int : Bi c "int" (.type "int")
  range : Bi c "range" (.type "range")
  all : Bi c "all" (.builtin "all")
  zip : Bi c "zip" (.type "zip")
  enumerate : Bi c "enumerate" (.type "enumerate")
  max : Bi c "max" (.builtin "max")
  min : Bi c "min" (.builtin "min")
  abs : Bi c "abs" (.builtin "abs")
  isinstance : Bi c "isinstance" (.builtin "isinstance")
  bool : Bi c "bool" (.type "bool")

theorem idx_nat {α : Type} (l : List α) (i : Int) (k : Nat) (a : α) (hi : i = k) (h : l[k]? = some a) : idx? l i = some a := by
  subst hi
  unfold idx? seqIndex?
  have hk : k < l.length := (List.getElem?_eq_some_iff.mp h).1
  have h0 : ¬ ((k : Int) < 0) := by omega
  simp [h0, hk]
  exact (List.getElem?_eq_some_iff.mp h).2
theorem idx_map {α β : Type} (f : α → β) (l : List α) (i : Int) (a : α) (h : idx? l i = some a) : idx? (l.map f) i = some (f a) := by
  unfold idx? at h ⊢
  rw [List.length_map]
  cases e : seqIndex? i l.length with
  | none => rw [e] at h; cases h
  | some j => rw [e] at h; simp at h ⊢; simp [h]
theorem fdiv_nat (a b : Nat) : ((a : Int).fdiv (b : Int)) = ((a / b : Nat) : Int) := by
  rw [Int.fdiv_eq_ediv_of_nonneg _ (by omega)]; rfl

section
variable {c : Cx} {n : Nat}
theorem x_median_high (T : Tops c) (ns ns' : List Int) (h64 : ns.length < 64) (hne : ns ≠ []) (hp : ns'.Perm ns) (hs : ns'.Pairwise (· ≤ ·)) (m : Int) (hm : ns'[ns.length / 2]? = some m) :
    Exs c n (fS 25) (fun x => (fS 25).names.lookup x = some .cell) none (upds (fun _ => none) ["data"] [D.list (ns.map D.int)]) [] (fB 25) (.ret (.int m)) := by
  have hl : ns'.length = ns.length := hp.length_eq
  have hpos : 0 < ns.length := List.length_pos_iff.mpr hne
  refine Exs.cons (Ex.assign (Ev.call (Ev.builtinName T.good (by kernel_rfl) T.sorted.1 T.sorted.2 (by kernel_rfl)) trivial (Evs.cons (Ev.localName (by kernel_rfl) rfl (by kernel_rfl)) Evs.nil) (Fn.sorted ns h64 ns' hp hs)) (.inl (by kernel_rfl)) (fun _ _ => rfl)) ?_
  refine Exs.cons (Ex.assign (Ev.call (Ev.builtinName T.good (by kernel_rfl) T.len.1 T.len.2 (by kernel_rfl)) trivial (Evs.cons (Ev.localName (by kernel_rfl) rfl (by kernel_rfl)) Evs.nil) (Fn.lenList _ (by simp; omega))) (.inl (by kernel_rfl)) (fun _ _ => rfl)) ?_
  refine Exs.cons (Ex.ifF (Tr.cmp (Ev.localName (by kernel_rfl) rfl (by kernel_rfl)) Ev.int (by
    have := Op2.eqInt (c := c) (n := n) ((ns'.map D.int).length : Int) 0
    rwa [show (((ns'.map D.int).length : Int) == 0) = false by rw [beq_eq_false_iff_ne]; simp only [List.length_map]; omega] at this) (by kernel_rfl)) Exs.nil) ?_
  refine Exs.ret (Ex.retE (Ev.idxL (ds := ns'.map D.int) (Ev.localName (by kernel_rfl) rfl (by kernel_rfl)) (Ev.binop (Ev.localName (by kernel_rfl) rfl (by kernel_rfl)) Ev.int (Op2.divInt _ _ (by decide) (PyProof.noPylong_small (by decide)))) ?_ (by simp; omega)))
  refine idx_map D.int ns' _ m (idx_nat _ _ (ns.length / 2) _ ?_ hm)
  rw [List.length_map, hl]; exact fdiv_nat ns.length 2

theorem x_median_low (T : Tops c) (ns ns' : List Int) (h64 : ns.length < 64) (hne : ns ≠ []) (hp : ns'.Perm ns) (hs : ns'.Pairwise (· ≤ ·)) (m : Int) (hm : ns'[(ns.length - 1) / 2]? = some m) :
    Exs c n (fS 24) (fun x => (fS 24).names.lookup x = some .cell) none (upds (fun _ => none) ["data"] [D.list (ns.map D.int)]) [] (fB 24) (.ret (.int m)) := by
  have hl : ns'.length = ns.length := hp.length_eq
  have hpos : 0 < ns.length := List.length_pos_iff.mpr hne
  refine Exs.cons (Ex.assign (Ev.call (Ev.builtinName T.good (by kernel_rfl) T.sorted.1 T.sorted.2 (by kernel_rfl)) trivial (Evs.cons (Ev.localName (by kernel_rfl) rfl (by kernel_rfl)) Evs.nil) (Fn.sorted ns h64 ns' hp hs)) (.inl (by kernel_rfl)) (fun _ _ => rfl)) ?_
  refine Exs.cons (Ex.assign (Ev.call (Ev.builtinName T.good (by kernel_rfl) T.len.1 T.len.2 (by kernel_rfl)) trivial (Evs.cons (Ev.localName (by kernel_rfl) rfl (by kernel_rfl)) Evs.nil) (Fn.lenList _ (by simp; omega))) (.inl (by kernel_rfl)) (fun _ _ => rfl)) ?_
  refine Exs.cons (Ex.ifF (Tr.cmp (Ev.localName (by kernel_rfl) rfl (by kernel_rfl)) Ev.int (by
    have := Op2.eqInt (c := c) (n := n) ((ns'.map D.int).length : Int) 0
    rwa [show (((ns'.map D.int).length : Int) == 0) = false by rw [beq_eq_false_iff_ne]; simp only [List.length_map]; omega] at this) (by kernel_rfl)) Exs.nil) ?_
  have hmod : ((ns'.map D.int).length : Int).fmod 2 = ((ns.length % 2 : Nat) : Int) := by
    rw [List.length_map, hl, Int.fmod_eq_emod_of_nonneg _ (by decide)]; rfl
  have tst : ∀ b, ((((ns'.map D.int).length : Int).fmod 2) == 1) = b → Op2 c n (compareOp .Eq) (.int (((ns'.map D.int).length : Int).fmod 2)) (.int 1) (.bool b) := fun b h => h ▸ Op2.eqInt _ _
  by_cases ho : ns.length % 2 = 1
  · refine Exs.ret (Ex.ifT (Tr.cmp (Ev.binop (Ev.localName (by kernel_rfl) rfl (by kernel_rfl)) Ev.int (Op2.modInt _ _ (by decide))) Ev.int (tst _ (by rw [hmod, ho]; rfl)) (by kernel_rfl)) (Exs.ret (Ex.retE ?_)))
    refine (Ev.idxL (ds := ns'.map D.int) (Ev.localName (by kernel_rfl) rfl (by kernel_rfl)) (Ev.binop (Ev.localName (by kernel_rfl) rfl (by kernel_rfl)) Ev.int (Op2.divInt _ _ (by decide) (PyProof.noPylong_small (by decide)))) ?_ (by simp; omega))
    refine idx_map D.int ns' _ m (idx_nat _ _ ((ns.length - 1) / 2) _ ?_ hm)
    rw [List.length_map, hl, show ((ns.length : Int).fdiv 2) = ((ns.length / 2 : Nat) : Int) from fdiv_nat ns.length 2]; omega
  · refine Exs.ret (Ex.ifF (Tr.cmp (Ev.binop (Ev.localName (by kernel_rfl) rfl (by kernel_rfl)) Ev.int (Op2.modInt _ _ (by decide))) Ev.int (tst _ (by rw [hmod, show ns.length % 2 = 0 by omega]; rfl)) (by kernel_rfl)) (Exs.ret (Ex.retE ?_)))
    refine (Ev.idxL (ds := ns'.map D.int) (Ev.localName (by kernel_rfl) rfl (by kernel_rfl)) (Ev.binop (Ev.binop (Ev.localName (by kernel_rfl) rfl (by kernel_rfl)) Ev.int (Op2.divInt _ _ (by decide) (PyProof.noPylong_small (by decide)))) Ev.int (Op2.subInt _ _)) ?_ (by simp; omega))
    refine idx_map D.int ns' _ m (idx_nat _ _ ((ns.length - 1) / 2) _ ?_ hm)
    rw [List.length_map, hl, show ((ns.length : Int).fdiv 2) = ((ns.length / 2 : Nat) : Int) from fdiv_nat ns.length 2]; omega
end
end Qp
namespace Qp
open PySem PySem.Calls PyProof.Rows PySem.W

/-- an octet's escape -/
noncomputable def escS (k : Nat) : Str := ⟨#[61, hexC (k / 16), hexC (k % 16)]⟩
noncomputable def chS (k : Nat) : Str := ⟨#[k]⟩
/-- an octet that stays as it is in a body -/
noncomputable def bareK (k : Nat) : Bool := k == 9 || (32 ≤ k && k < 127 && k != 61)
noncomputable def codeS (k : Nat) : Str := if bareK k then chS k else escS k
noncomputable def mapAll : List Str := (List.range 256).map escS
noncomputable def mapBody : List Str := (List.range 256).map codeS
noncomputable def mapEnc : List Str := (List.range 256).map fun k => if k == 10 || k == 13 then chS k else codeS k

/-- a table of the top -/
noncomputable def Tab (c : Cx) (x : Str) (l : List Str) : Prop := ∃ v, c.mg x = some v ∧ ∀ F : Addr → Prop, (∀ a, F a → c.hT.get? a = none) → Rep F c.hT v (.list (l.map D.str))
structure Tabs (c : Cx) : Prop where
  all : Tab c "_QUOPRI_MAP" mapAll
  body : Tab c "_QUOPRI_BODY_MAP" mapBody
  enc : Tab c "_QUOPRI_BODY_ENCODE_MAP" mapEnc

section
variable {c : Cx} {n : Nat} {sc : Scope} {ρ : Str → Option D}
theorem Ev.tab {x : Str} {pos : Pos} {l : List Str} (G : c.Good) (t : Tab c x l) (hl : sc.names.lookup x = some .globalImplicit) (hd : (x == ("__debug__" : Str)) = false) : Ev c n sc ρ (.Name x pos) (.list (l.map D.str)) := by
  obtain ⟨v, hv, r⟩ := t
  exact Ev.asData (Ev.globalName G hl hv hd) r
theorem bare_ne (k : Nat) : (chS k != codeS k) = !bareK k := by
  unfold codeS
  cases bareK k with
  | true => simp
  | false => simp [chS, escS]
theorem x_body_check (T : Tops c) (B : Tabs c) (k : Nat) (hk : k < 256) :
    Exs c n (fS 14) (fun x => (fS 14).names.lookup x = some .cell) none (upds (fun _ => none) ["octet"] [D.int k]) [] (fB 14) (.ret (.bool (!bareK k))) := by
  refine Exs.ret (Ex.retE (Ev.cmp (a := .str (chS k)) (b := .str (codeS k)) (Ev.call (Ev.builtinName T.good (by kernel_rfl) T.chr.1 T.chr.2 (by kernel_rfl)) trivial (Evs.cons (Ev.localName (by kernel_rfl) rfl (by kernel_rfl)) Evs.nil) (Fn.chr k (by omega) (by omega)))
    (Ev.idxL (Ev.tab T.good B.body (by kernel_rfl) (by kernel_rfl)) (Ev.localName (by kernel_rfl) rfl (by kernel_rfl)) ?_ (by decide +kernel)) ?_ (by kernel_rfl)))
  · refine idx_map D.str mapBody _ (codeS k) (idx_nat _ _ k _ rfl ?_)
    simp [mapBody, hk]
  · have := Op2.neStr (c := c) (n := n) (chS k) (codeS k)
    rwa [bare_ne] at this
theorem x_quote (T : Tops c) (B : Tabs c) (k : Nat) (hk : k < 256) :
    Exs c n (fS 16) (fun x => (fS 16).names.lookup x = some .cell) none (upds (fun _ => none) ["c"] [D.str (chS k)]) [] (fB 16) (.ret (.str (escS k))) := by
  refine Exs.ret (Ex.retE (Ev.idxL (Ev.tab T.good B.all (by kernel_rfl) (by kernel_rfl)) (Ev.call (Ev.builtinName T.good (by kernel_rfl) T.ord.1 T.ord.2 (by kernel_rfl)) trivial (Evs.cons (Ev.localName (by kernel_rfl) rfl (by kernel_rfl)) Evs.nil) (Fn.ord k)) ?_ (by decide +kernel)))
  refine idx_map D.str mapAll _ (escS k) (idx_nat _ _ k _ rfl ?_)
  simp [mapAll, hk]
theorem x_unquote (T : Tops c) (k : Nat) (hk : k < 256) :
    Exs c n (fS 15) (fun x => (fS 15).names.lookup x = some .cell) none (upds (fun _ => none) ["s"] [D.str (escS k)]) [] (fB 15) (.ret (.str (chS k))) := by
  have e : cutS (escS k) (some 1) (some 3) = ⟨#[hexC (k / 16), hexC (k % 16)]⟩ := by
    unfold cutS; rw [pick_plain]; rfl
  refine Exs.ret (Ex.retE (Ev.call (Ev.builtinName T.good (by kernel_rfl) T.chr.1 T.chr.2 (by kernel_rfl)) trivial (Evs.cons (Ev.call (Ev.builtinName T.good (by kernel_rfl) T.int.1 T.int.2 (by kernel_rfl)) trivial
    (Evs.cons (d := .str (cutS (escS k) (some 1) (some 3))) (Ev.sliceS (Ev.localName (by kernel_rfl) rfl (by kernel_rfl)) (l := some 1) (u := some 3) Ev.int Ev.int (by show 3 ≤ sizeLine; decide)) (Evs.cons Ev.int Evs.nil)) (d := .int k) ?_) Evs.nil) (Fn.chr k (by omega) (by omega))))
  rw [e]; exact Fn.int16 k hk
end
end Qp
namespace Qp
open PySem PySem.Calls PyProof.Rows PySem.W

theorem pick_map {α β : Type} (f : α → β) (l : List α) (a b s : Option Int) : pick (l.map f) a b s = (pick l a b s).map f := by
  unfold pick
  rw [List.length_map, List.map_filterMap]
  congr 1
  funext k
  simp
theorem zipRows {α β : Type} (f : α → D) (g : β → D) (l : List α) (r : List β) : List.zipWith (fun a b => [a, b]) (l.map f) (r.map g) = (l.zip r).map fun p => [f p.1, g p.2] := by
  rw [List.zipWith_map, List.zip_eq_zipWith, List.map_zipWith]
theorem pick_le {α : Type} (l : List α) (a b : Option Int) : (pick l a b none).length ≤ l.length := by
  rw [pick_plain, List.length_take, List.length_drop]; omega

/-- the rows of a way -/
noncomputable def cuts (codes : List Str) (way : List Int) : List (List Str) := ((0 :: way).zip (way ++ [(codes.length : Int)])).map fun p => pick codes (some p.1) (some p.2) none
noncomputable def lastCut (codes : List Str) (way : List Int) : List Str := (cuts codes way).getLastD []
noncomputable def rowsOf (codes : List Str) (way : List Int) (blank : Str) : List (List Str) :=
  if blank != ⟨#[]⟩ && lastCut codes way != [] then (cuts codes way).dropLast ++ [(lastCut codes way).dropLast ++ [blank]] else cuts codes way
noncomputable def letter (codes : List Str) (way : List Int) (blank eol : Str) : Str := Txt.join ((⟨#[61]⟩ : Str) ++ eol) ((rowsOf codes way blank).map fun r => Txt.join ⟨#[]⟩ r)
noncomputable def strsD (l : List Str) : D := .list (l.map D.str)

section
variable {c : Cx} {n : Nat}
theorem Ev.bi {sc : Scope} {ρ : Str → Option D} {x : Str} {pos : Pos} {v : Value} (G : c.Good) (b : Bi c x v) (hl : sc.names.lookup x = some .globalImplicit) (hd : (x == ("__debug__" : Str)) = false) : Ev c n sc ρ (.Name x pos) (.val v) := Ev.builtinName G hl b.1 b.2 hd
theorem x_letter_rows (T : Tops c) (codes : List Str) (way : List Int) (blank eol : Str) (hc : codes.length ≤ 100) (hw : way.length ≤ 100) {out : Out}
    (h : Exs c n (fS 28) (fun x => (fS 28).names.lookup x = some .cell) none (upd (upds (fun _ => none) ["codes", "way", "blank", "eol"] [strsD codes, .list (way.map D.int), .str blank, .str eol]) "rows" (.list ((cuts codes way).map strsD))) [] (fB 28).tail out) :
    Exs c n (fS 28) (fun x => (fS 28).names.lookup x = some .cell) none (upds (fun _ => none) ["codes", "way", "blank", "eol"] [strsD codes, .list (way.map D.int), .str blank, .str eol]) [] (fB 28) out := by
  have hsz : sizeLine = 16777216 := sizeLine_eq
  have e : (cuts codes way).map strsD = ((((0 :: way).zip (way ++ [(codes.length : Int)])).filter fun _ => true).map fun p => strsD (pick codes (some p.1) (some p.2) none)) := by
    unfold cuts; rw [List.filter_eq_self.mpr (fun _ _ => rfl), List.map_map]; rfl
  rw [e] at h
  refine Exs.cons (Ex.assignFM (l := (0 :: way).zip (way ++ [(codes.length : Int)])) (row := fun p => [D.int p.1, D.int p.2]) (p := fun _ => true) (g := fun p => strsD (pick codes (some p.1) (some p.2) none)) (b := true)
    (Tgt.two _ _ _ _ _ _) ?src ⟨by kernel_rfl, by decide +kernel, by kernel_rfl, by kernel_rfl⟩ ?inj ?len ?row (by kernel_rfl) (by rw [if_pos rfl]; kernel_rfl) (by kernel_rfl)) h
  case src =>
    rw [← zipRows]
    refine ItEv.zip2 (Ev.bi T.good T.zip (by kernel_rfl) (by kernel_rfl)) (Evs.cons (d := .list ((0 :: way).map D.int)) (Ev.binop (Ev.list (Evs.cons Ev.int Evs.nil) (by show 1 ≤ _; omega)) (Ev.localName (by kernel_rfl) rfl (by kernel_rfl)) (Op2.addList (a := [.int 0]) (b := way.map D.int) (by simp; omega)))
      (Evs.cons (d := .list ((way ++ [(codes.length : Int)]).map D.int)) ?_ Evs.nil))
    rw [List.map_append]
    refine Ev.binop (Ev.localName (by kernel_rfl) rfl (by kernel_rfl)) (Ev.list (Evs.cons (Ev.call (Ev.bi T.good T.len (by kernel_rfl) (by kernel_rfl)) trivial (Evs.cons (Ev.cellName (.inl (by kernel_rfl)) rfl (by kernel_rfl) (by kernel_rfl)) Evs.nil) (d := .int codes.length) ?_) Evs.nil) (by show 1 ≤ _; omega)) (Op2.addList (by simp; omega))
    have := Fn.lenList (c := c) (n := n) (codes.map D.str) (by simp; omega)
    rwa [List.length_map] at this
  case inj =>
    rintro ⟨a, b⟩ _ ⟨a', b'⟩ _ e
    simp only [List.cons.injEq, D.int.injEq, and_true] at e
    obtain ⟨rfl, rfl⟩ := e
    exact ⟨rfl, rfl⟩
  case len => simp; omega
  case row =>
    rintro ⟨a, b⟩ _
    refine ⟨rfl, rfl, fun _ => ?_⟩
    unfold strsD
    rw [← pick_map]
    exact Ev.sliceL (ds := codes.map D.str) (l := some a) (u := some b) (z := none) (Ev.cellName (.inl (by kernel_rfl)) rfl (by kernel_rfl) (by kernel_rfl)) (Ev.localName (by kernel_rfl) rfl (by kernel_rfl)) (Ev.localName (by kernel_rfl) rfl (by kernel_rfl)) trivial (by simp) (by simp; omega)
end
end Qp
namespace Qp
open PySem PySem.Calls PyProof.Rows PySem.W
theorem idx_last {α : Type} (l : List α) (hne : l ≠ []) (d : α) : idx? l (-1) = some (l.getLastD d) := by
  have hl : 0 < l.length := List.length_pos_iff.mpr hne
  unfold idx? seqIndex?
  have h1 : ((-1 : Int) + (l.length : Int)).toNat = l.length - 1 := by omega
  have h2 : (0 ≤ (-1 : Int) + (l.length : Int) ∧ (-1 : Int) + (l.length : Int) < l.length) := by omega
  simp only [show ((-1 : Int) < 0) by decide, if_true, h2.1, h2.2, decide_true, Bool.and_self, if_true, Option.bind_some, h1]
  rw [List.getLastD_eq_getLast?, List.getLast?_eq_getElem?]
  rw [List.getElem?_eq_getElem (by omega)]; rfl
theorem pick_init {α : Type} (l : List α) : pick l none (some (-1)) none = l.dropLast := by
  rw [pick_plain]
  have : clipAt l.length (-1) = l.length - 1 := clipAt_neg l.length 1 (Nat.le_refl 1)
  simp only [Option.elim, this, List.drop_zero, Nat.sub_zero]
  rw [List.dropLast_eq_take]
theorem cuts_ne (codes : List Str) (way : List Int) : cuts codes way ≠ [] := by
  unfold cuts; cases way <;> simp
theorem cuts_len (codes : List Str) (way : List Int) : (cuts codes way).length = way.length + 1 := by
  unfold cuts; simp
theorem last_map (codes : List Str) (way : List Int) : idx? ((cuts codes way).map strsD) (-1) = some (strsD (lastCut codes way)) :=
  idx_map strsD _ _ _ (idx_last _ (cuts_ne codes way) [])
section
variable {c : Cx} {n : Nat}
theorem x_letter_blank (T : Tops c) (codes : List Str) (way : List Int) (blank eol : Str) (hc : codes.length ≤ 100) (hw : way.length ≤ 100) (hok : ∀ x ∈ lastCut codes way, PyData.strOk x = true) {out : Out} {ρ : Str → Option D}
    (hb : ρ "blank" = some (.str blank)) (hr : ρ "rows" = some (.list ((cuts codes way).map strsD)))
    (h : Exs c (n + 8) (fS 28) (fun x => (fS 28).names.lookup x = some .cell) none (if (blank != ⟨#[]⟩ && lastCut codes way != []) = true then upd ρ "rows" (.list ((rowsOf codes way blank).map strsD)) else ρ) [] (fB 28).tail.tail out) :
    Exs c (n + 8) (fS 28) (fun x => (fS 28).names.lookup x = some .cell) none ρ [] (fB 28).tail out := by
  have hsz : sizeLine = 16777216 := sizeLine_eq
  have hcl := cuts_len codes way
  have tst : Op2 c (n + 8) (compareOp .NotEq) (strsD (lastCut codes way)) (.list []) (.bool (lastCut codes way != [])) := by
    have := Op2.ne (c := c) (n := n) ((CmpL.strs hok).cmp (by decide)) ((CmpL.list (k := 0) (l := []) (by simp)).cmp (by decide))
    have e : eqD (.list ((lastCut codes way).map D.str)) (.list []) = (lastCut codes way == []) := eqD_list D.str eqD_str (lastCut codes way) []
    rw [e] at this
    exact this
  by_cases hB : (blank != ⟨#[]⟩ && lastCut codes way != []) = true
  · rw [if_pos hB] at h
    refine Exs.cons (Ex.ifT (hB ▸ Tr.and2 (Tr.cmp (Ev.localName (by kernel_rfl) hb (by kernel_rfl)) Ev.str (Op2.neStr _ _) (by kernel_rfl)) fun _ => Tr.cmp (Ev.idxL (Ev.localName (by kernel_rfl) hr (by kernel_rfl)) (Ev.unary Ev.int (Op1.neg 1)) (last_map codes way) (by simp; omega)) (Ev.list Evs.nil (by simp)) tst (by kernel_rfl)) (Exs.cons (Ex.assign ?_ (.inl (by kernel_rfl)) (fun _ _ => rfl)) Exs.nil)) h
    have e1 : (rowsOf codes way blank).map strsD = ((cuts codes way).map strsD).dropLast ++ [.list (((lastCut codes way).map D.str).dropLast ++ [.str blank])] := by
      unfold rowsOf; rw [if_pos hB]; simp [strsD, List.map_dropLast]
    have hll : (lastCut codes way).length ≤ 100 := by
      have : lastCut codes way ∈ cuts codes way := by
        unfold lastCut; rw [List.getLastD_eq_getLast?, List.getLast?_eq_some_getLast (cuts_ne codes way)]; exact List.getLast_mem _
      unfold cuts at this
      obtain ⟨p, _, e⟩ := List.mem_map.mp this
      rw [← e]; exact Nat.le_trans (pick_le _ _ _) hc
    rw [e1, ← pick_init, ← pick_init]
    refine Ev.binop (Ev.sliceL (l := none) (u := some (-1)) (z := none) (Ev.localName (by kernel_rfl) hr (by kernel_rfl)) trivial (Ev.unary Ev.int (Op1.neg 1)) trivial (by simp) (by simp; omega))
      (Ev.list (Evs.cons (Ev.binop (Ev.sliceL (l := none) (u := some (-1)) (z := none) (Ev.idxL (d := strsD (lastCut codes way)) (Ev.localName (by kernel_rfl) hr (by kernel_rfl)) (Ev.unary Ev.int (Op1.neg 1)) (last_map codes way) (by simp; omega)) trivial (Ev.unary Ev.int (Op1.neg 1)) trivial (by simp) (by simp; omega))
        (Ev.list (Evs.cons (Ev.localName (by kernel_rfl) hb (by kernel_rfl)) Evs.nil) (by show 1 ≤ _; omega)) (Op2.addList ?_)) Evs.nil) (by show 1 ≤ _; omega)) (Op2.addList ?_)
    · rw [pick_init]; simp; omega
    · rw [pick_init]; simp; omega
  · rw [if_neg hB] at h
    have hB' : (blank != ⟨#[]⟩ && lastCut codes way != []) = false := by simpa using hB
    exact Exs.cons (Ex.ifF (hB' ▸ Tr.and2 (Tr.cmp (Ev.localName (by kernel_rfl) hb (by kernel_rfl)) Ev.str (Op2.neStr _ _) (by kernel_rfl)) fun _ => Tr.cmp (Ev.idxL (Ev.localName (by kernel_rfl) hr (by kernel_rfl)) (Ev.unary Ev.int (Op1.neg 1)) (last_map codes way) (by simp; omega)) (Ev.list Evs.nil (by simp)) tst (by kernel_rfl)) Exs.nil) h
end
end Qp
namespace Qp
open PySem PySem.Calls PyProof.Rows PySem.W
section
variable {c : Cx} {n : Nat}
theorem x_letter_ret (rs : List (List Str)) (eol : Str) {ρ : Str → Option D} (he : ρ "eol" = some (.str eol)) (hr : ρ "rows" = some (.list (rs.map strsD))) (hl : eol.length ≤ 100) (hrl : rs.length ≤ 1000)
    (h1 : ∀ r ∈ rs, JoinOk ⟨#[]⟩ r = true) (h2 : JoinOk ((⟨#[61]⟩ : Str) ++ eol) (rs.map fun r => Txt.join ⟨#[]⟩ r) = true) :
    Exs c n (fS 28) (fun x => (fS 28).names.lookup x = some .cell) none ρ [] (fB 28).tail.tail (.ret (.str (Txt.join ((⟨#[61]⟩ : Str) ++ eol) (rs.map fun r => Txt.join ⟨#[]⟩ r)))) := by
  have hsz : sizeLine = 16777216 := sizeLine_eq
  refine Exs.ret (Ex.retE (Ev.meth1 (x := (⟨#[61]⟩ : Str) ++ eol) (a := .list ((rs.map fun r => Txt.join ⟨#[]⟩ r).map D.str)) (Ev.binop Ev.str (Ev.localName (by kernel_rfl) he (by kernel_rfl)) (Op2.addStr _ _ (by show 1 + _ ≤ _; omega))) ?_ mJoin (Fn.join _ _ h2) (fun _ => rfl) (by kernel_rfl)))
  have e : ((rs.map fun r => Txt.join ⟨#[]⟩ r).map D.str) = ((rs.filter fun _ => true).map fun r => D.str (Txt.join ⟨#[]⟩ r)) := by
    rw [List.filter_eq_self.mpr (fun _ _ => rfl), List.map_map]; rfl
  rw [e]
  refine Ev.compFM (row := fun r => [strsD r]) (Tgt.name _ _) ?_ ⟨by kernel_rfl, by decide +kernel, by kernel_rfl, by kernel_rfl⟩ ?_ (by omega) (fun r hr' => ⟨rfl, rfl, fun _ => ?_⟩)
  · have := ItEv.list (x := "row") (px := default) (Ev.localName (c := c) (n := n) (sc := fS 28) (ρ := ρ) (x := "rows") (pos := default) (by kernel_rfl) hr (by kernel_rfl))
    rw [List.map_map] at this
    exact ItEv.list (Ev.localName (by kernel_rfl) hr (by kernel_rfl)) |> (List.map_map (f := strsD) (g := fun d => [d]) (l := rs) ▸ ·)
  · intro a _ b _ q
    have q' : a.map D.str = b.map D.str := by simpa [strsD] using q
    have : a = b := List.map_inj_right (fun x y z => by injection z) |>.mp q'
    subst this; exact ⟨rfl, rfl⟩
  · exact Ev.meth1 (x := ⟨#[]⟩) (a := .list (r.map D.str)) Ev.str (Ev.localName (by kernel_rfl) rfl (by kernel_rfl)) mJoin (Fn.join _ _ (h1 r hr')) (fun _ => rfl) (by kernel_rfl)
end
end Qp
namespace Qp
open PySem PySem.Calls PyProof.Rows PySem.W
section
variable {c : Cx} {n : Nat}
theorem x_letter (T : Tops c) (codes : List Str) (way : List Int) (blank eol : Str) (hc : codes.length ≤ 100) (hw : way.length ≤ 100) (hok : ∀ x ∈ lastCut codes way, PyData.strOk x = true) (hl : eol.length ≤ 100)
    (h1 : ∀ r ∈ rowsOf codes way blank, JoinOk ⟨#[]⟩ r = true) (h2 : JoinOk ((⟨#[61]⟩ : Str) ++ eol) ((rowsOf codes way blank).map fun r => Txt.join ⟨#[]⟩ r) = true) :
    Exs c (n + 8) (fS 28) (fun x => (fS 28).names.lookup x = some .cell) none (upds (fun _ => none) ["codes", "way", "blank", "eol"] [strsD codes, .list (way.map D.int), .str blank, .str eol]) [] (fB 28) (.ret (.str (letter codes way blank eol))) := by
  refine x_letter_rows T codes way blank eol hc hw (x_letter_blank T codes way blank eol hc hw hok rfl rfl ?_)
  have hcl := cuts_len codes way
  have hrl : (rowsOf codes way blank).length ≤ 1000 := by
    unfold rowsOf; split
    · simp; omega
    · omega
  refine x_letter_ret (rowsOf codes way blank) eol ?_ ?_ hl hrl h1 h2
  · split <;> rfl
  · by_cases h : (blank != ⟨#[]⟩ && lastCut codes way != []) = true
    · rw [if_pos h]; rfl
    · rw [if_neg h]
      have : rowsOf codes way blank = cuts codes way := by unfold rowsOf; rw [if_neg h]
      rw [this]; rfl
end
end Qp
namespace Qp
open PySem PySem.Calls PyProof.Rows PySem.W
noncomputable def intsD (l : List Int) : D := .list (l.map D.int)
/-- place by place -/
noncomputable def midOf (pk : List Int → Int) (k : Nat) (left : List (List Int)) : List Int := (List.range k).map fun i => pk (left.map fun w => w.getD i 0)
noncomputable def keepBy (sg : Int) (mid : List Int) (left : List (List Int)) : List (List Int) := left.filter fun w => (w.zip mid).all fun p => decide (sg * p.2 ≤ sg * p.1)
noncomputable def climbN (pk : List Int → Int) (sg : Int) (k : Nat) : Nat → List (List Int) → List (List Int)
  | 0, left => left
  | m + 1, left => if (left.contains (midOf pk k left)) then climbN pk sg k m (keepBy sg (midOf pk k left) left) else []
end Qp
namespace Qp
open PySem PySem.Calls PyProof.Rows PySem.W
noncomputable def forB : Stmt → List Stmt
  | .For _ _ body _ _ => body
  | _ => []
noncomputable def climbB : List Stmt := forB ((fB 29).getD 1 (.Pass ⟨0,0,0,0⟩))
noncomputable def Cells (i : Nat) (x : Str) : Prop := (fS i).names.lookup x = some .cell
theorem filter_true {α : Type} (l : List α) : l.filter (fun _ => true) = l := List.filter_eq_self.mpr fun _ _ => rfl
theorem getD_at (w : List Int) (i : Nat) (h : i < w.length) : idx? (w.map D.int) (i : Int) = some (.int (w.getD i 0)) :=
  idx_map D.int w _ _ (idx_nat _ _ i _ rfl (by simp [List.getD, h]))
theorem upds1_ne {ρ : Str → Option D} {x y : Str} {d e : D} (h : ρ x = some d) (hne : x ≠ y) : upds ρ [y] [e] x = some d := upd_ne hne h
section
variable {c : Cx} {n : Nat}
theorem x_climb_mid (T : Tops c) (f : Value) (pl : Plain c f) (pk : List Int → Int) (ways left : List (List Int)) (k : Nat) (hk : k ≤ 100) (hw : ∃ w, ways[0]? = some w ∧ w.length = k) (hleft : ∀ w ∈ left, w.length = k) (hll : left.length ≤ 100) (hwl : ways.length ≤ 100)
    (hf : ∀ i, i < k → Fn c n f [intsD (left.map fun w => w.getD i 0)] (.int (pk (left.map fun w => w.getD i 0)))) {ρ : Str → Option D}
    (h1 : ρ "ways" = some (.list (ways.map intsD))) (h2 : ρ "left" = some (.list (left.map intsD))) (h3 : ρ "pick" = some (.val f)) {out : Out}
    (h : Exs c n (fS 29) (Cells 29) none (upd ρ "middle" (intsD (midOf pk k left))) [] climbB.tail out) : Exs c n (fS 29) (Cells 29) none ρ [] climbB out := by
  have hsz : sizeLine = 16777216 := sizeLine_eq
  obtain ⟨w0, hw0, hw1⟩ := hw
  have e : intsD (midOf pk k left) = .list (((rangeI 0 k).filter fun _ => true).map fun i => D.int (pk (left.map fun w => w.getD i.toNat 0))) := by
    rw [filter_true]; unfold intsD midOf rangeI; simp
  rw [e] at h
  have rk : (rangeI 0 (k : Int)).length = k := by unfold rangeI; simp
  refine Exs.cons (Ex.assignFM (l := rangeI 0 k) (row := fun i => [D.int i]) (p := fun _ => true) (b := false) (Tgt.name _ _) ?src ⟨by kernel_rfl, by decide +kernel, ?fo, by kernel_rfl⟩ ?inj (by omega) ?row (by kernel_rfl) (by rw [if_neg (by decide)]; exact .inr (show (fS 29).names.lookup _ = _ by kernel_rfl)) (by kernel_rfl)) h
  case src =>
    refine ItEv.range (Ev.call (Ev.bi T.good T.range (by kernel_rfl) (by kernel_rfl)) trivial (Evs.cons (Ev.call (Ev.bi T.good T.len (by kernel_rfl) (by kernel_rfl)) trivial (Evs.cons (d := intsD w0) (Ev.idxL (ds := ways.map intsD) (Ev.localName (by kernel_rfl) h1 (by kernel_rfl)) Ev.int (idx_map intsD ways _ _ (idx_nat _ _ 0 _ rfl hw0)) (by simp; omega)) Evs.nil) (d := .int k) ?_) Evs.nil) (Fn.range1 _)) (by decide) (by omega)
    have := Fn.lenList (c := c) (n := n) (w0.map D.int) (by simp; omega)
    rw [List.length_map, hw1] at this; exact this
  case fo => exact freeOK_of (fs := ["left", "pick"]) (by kernel_rfl) (by kernel_rfl) (by intro x hx; simp only [List.mem_cons, List.not_mem_nil, or_false] at hx; rcases hx with rfl | rfl <;> simp [h2, h3])
  case inj => intro a _ b _ q; simp only [List.cons.injEq, D.int.injEq, and_true] at q; subst q; exact ⟨rfl, rfl⟩
  case row =>
    intro i hi
    refine ⟨rfl, rfl, fun _ => ?_⟩
    obtain ⟨j, hj, rfl⟩ : ∃ j : Nat, j < k ∧ i = (j : Int) := by
      unfold rangeI at hi
      obtain ⟨j, hj, rfl⟩ := List.mem_map.mp hi
      exact ⟨j, by simpa using hj, by simp⟩
    refine Ev.call (f := f) (ds := [intsD (left.map fun w => w.getD j 0)]) (Ev.cellName (.inl (by kernel_rfl)) (upds1_ne (restr_at (by kernel_rfl) h3) (by decide +kernel)) (by kernel_rfl) (by kernel_rfl)) pl (Evs.cons ?_ Evs.nil) (hf j hj)
    have e2 : intsD (left.map fun w => w.getD j 0) = .list ((left.filter fun _ => true).map fun w => D.int (w.getD j 0)) := by
      rw [filter_true]; unfold intsD; rw [List.map_map]; rfl
    rw [e2]
    refine Ev.compFM (row := fun w => [intsD w]) (Tgt.name _ _) ?_ ⟨by kernel_rfl, by decide +kernel, by kernel_rfl, by kernel_rfl⟩ ?_ (by omega) (fun w hw' => ⟨rfl, rfl, fun _ => ?_⟩)
    · exact ItEv.list (Ev.cellName (.inl (by kernel_rfl)) (upds1_ne (restr_at (by kernel_rfl) h2) (by decide +kernel)) (by kernel_rfl) (by kernel_rfl)) |> (List.map_map (f := intsD) (g := fun d => [d]) (l := left) ▸ ·)
    · intro a _ b _ q
      have q' : a.map D.int = b.map D.int := by simpa [intsD] using q
      have : a = b := List.map_inj_right (fun x y z => by injection z) |>.mp q'
      subst this; exact ⟨rfl, rfl⟩
    · exact Ev.idxL (ds := w.map D.int) (Ev.localName (by kernel_rfl) rfl (by kernel_rfl)) (Ev.cellName (.inl (by kernel_rfl)) rfl (by kernel_rfl) (by kernel_rfl)) (getD_at w j (by rw [hleft w hw']; exact hj)) (by simp; have := hleft w hw'; omega)
end
end Qp
namespace Qp
open PySem PySem.Calls PyProof.Rows PySem.W
theorem eqD_ints (a b : List Int) : eqD (intsD a) (intsD b) = (a == b) := eqD_list D.int eqD_int a b
theorem intsD_inj {a b : List Int} (h : [intsD a] = [intsD b]) : a = b := by
  have q' : a.map D.int = b.map D.int := by simpa [intsD] using h
  exact List.map_inj_right (fun x y z => by injection z) |>.mp q'
theorem any_ints (l : List (List Int)) (m : List Int) : ((l.map intsD).any fun y => eqD y (intsD m)) = l.contains m := by
  rw [List.any_map, List.contains_eq_any_beq]
  congr 1
  funext y
  show eqD (intsD y) (intsD m) = (m == y)
  rw [eqD_ints]
  exact Bool.beq_comm ..
theorem cmp_ints (l : List Int) : Cmp (intsD l) := (CmpL.ints l).cmp (by decide)
theorem cmp_intss (l : List (List Int)) : Cmp (.list (l.map intsD)) := (CmpL.list (k := 1) fun d hd => by obtain ⟨i, _, rfl⟩ := List.mem_map.mp hd; exact CmpL.ints i).cmp (by decide)
section
variable {c : Cx} {n : Nat}
theorem x_climb_in (left : List (List Int)) (mid : List Int) {ρ : Str → Option D} (h2 : ρ "left" = some (.list (left.map intsD))) (h3 : ρ "middle" = some (intsD mid)) {out : Out}
    (h : if left.contains mid then Exs c (n + 8) (fS 29) (Cells 29) none ρ [] climbB.tail.tail out else out = .ret (.list [])) : Exs c (n + 8) (fS 29) (Cells 29) none ρ [] climbB.tail out := by
  have tst := Op2.notInList (c := c) (n := n) (cmp_ints mid) (cmp_intss left)
  rw [any_ints] at tst
  by_cases hc : left.contains mid = true
  · rw [if_pos hc] at h
    rw [hc] at tst
    exact Exs.cons (Ex.ifF (Tr.cmp (Ev.cellName (.inl (by kernel_rfl)) h3 (by kernel_rfl) (by kernel_rfl)) (Ev.cellName (.inl (by kernel_rfl)) h2 (by kernel_rfl) (by kernel_rfl)) tst (by kernel_rfl)) Exs.nil) h
  · rw [if_neg hc] at h
    have hc' : left.contains mid = false := by simpa using hc
    rw [hc'] at tst
    subst h
    exact Exs.ret (Ex.ifT (Tr.cmp (Ev.cellName (.inl (by kernel_rfl)) h3 (by kernel_rfl) (by kernel_rfl)) (Ev.cellName (.inl (by kernel_rfl)) h2 (by kernel_rfl) (by kernel_rfl)) tst (by kernel_rfl)) (Exs.ret (Ex.retE (Ev.list Evs.nil (by simp)))))
end
end Qp
namespace Qp
open PySem PySem.Calls PyProof.Rows PySem.W
theorem map_rows {α : Type} (f : α → D) (l : List α) : ((l.map f).map fun d => [d]) = l.map fun a => [f a] := by rw [List.map_map]; rfl
theorem upds_ne {ρ : Str → Option D} {x : Str} {ys : List Str} {d : D} {row : List D} (h : ρ x = some d) (hn : ys.contains x = false) : upds ρ ys row x = some d := by
  rw [upds_other (by intro q; rw [List.contains_iff_mem.mpr q] at hn; cases hn)]; exact h
theorem upds2 {ρ : Str → Option D} {x y : Str} {d e : D} : upds ρ [x, y] [d, e] = upd (upd ρ x d) y e := rfl
section
variable {c : Cx} {n : Nat}
theorem x_climb_keep (T : Tops c) (left : List (List Int)) (mid : List Int) (sg : Int) (hsg : sg.natAbs ≤ 1) (hm : mid.length ≤ 100) (hll : left.length ≤ 100) (hleft : ∀ w ∈ left, w.length ≤ 100) (hb : ∀ w ∈ left, ∀ a ∈ w, IntMulOk sg a) (hb2 : ∀ a ∈ mid, IntMulOk sg a)
    {ρ : Str → Option D} (h2 : ρ "left" = some (.list (left.map intsD))) (h3 : ρ "middle" = some (intsD mid)) (h4 : ρ "sign" = some (.int sg)) {out : Out}
    (h : Exs c (n + 1) (fS 29) (Cells 29) none (upd ρ "left" (.list ((keepBy sg mid left).map intsD))) [] climbB.tail.tail.tail out) : Exs c (n + 1) (fS 29) (Cells 29) none ρ [] climbB.tail.tail out := by
  have hsz : sizeLine = 16777216 := sizeLine_eq
  unfold keepBy at h
  refine Exs.cons (Ex.assignFM (l := left) (row := fun w => [intsD w]) (p := fun w => (w.zip mid).all fun p => decide (sg * p.2 ≤ sg * p.1)) (g := intsD) (b := false) (Tgt.name _ _) ?src ⟨by kernel_rfl, by decide +kernel, ?fo, by kernel_rfl⟩ ?inj (by omega) ?row (by kernel_rfl) (by rw [if_neg (by decide)]; exact .inr (show (fS 29).names.lookup _ = _ by kernel_rfl)) (by kernel_rfl)) h
  case src => exact map_rows intsD left ▸ ItEv.list (Ev.cellName (.inl (by kernel_rfl)) h2 (by kernel_rfl) (by kernel_rfl))
  case fo => exact freeOK_of (fs := ["middle", "sign"]) (by kernel_rfl) (by kernel_rfl) (by intro x hx; simp only [List.mem_cons, List.not_mem_nil, or_false] at hx; rcases hx with rfl | rfl <;> simp [h3, h4])
  case inj => intro a _ b _ q; have := intsD_inj q; subst this; exact ⟨rfl, rfl⟩
  case row =>
    intro w hw
    refine ⟨rfl, ?_, fun _ => Ev.localName (by kernel_rfl) rfl (by kernel_rfl)⟩
    have e : (w.zip mid).all (fun p => decide (sg * p.2 ≤ sg * p.1)) = (((w.zip mid).map fun p => decide (sg * p.2 ≤ sg * p.1)).all id) := by rw [List.all_map]; rfl
    rw [e]
    show Tr _ _ _ _ _ _
    refine Tr.value (Ev.call (f := .builtin "all") (Ev.bi T.good T.all (by kernel_rfl) (by kernel_rfl)) trivial (Evs.cons ?_ Evs.nil) (Fn.all _)) (Tru.bool _) (fun _ _ => rfl)
    have e2 : (D.list (((w.zip mid).map fun p => decide (sg * p.2 ≤ sg * p.1)).map D.bool)) = .list (((w.zip mid).filter fun _ => true).map fun p => D.bool (decide (sg * p.2 ≤ sg * p.1))) := by
      rw [filter_true, List.map_map]; rfl
    rw [e2]
    refine Ev.compFM (row := fun p => [D.int p.1, D.int p.2]) (Tgt.two _ _ _ _ _ _) ?_ ⟨by kernel_rfl, by decide +kernel, ?_, by kernel_rfl⟩ ?_ (by simp; omega) (fun p hp => ⟨rfl, rfl, fun _ => ?_⟩)
    · rw [← zipRows]
      exact ItEv.zip2 (Ev.bi T.good T.zip (by kernel_rfl) (by kernel_rfl)) (Evs.cons (Ev.localName (by kernel_rfl) rfl (by kernel_rfl)) (Evs.cons (Ev.cellName (.inl (by kernel_rfl)) (upds1_ne (restr_at (by kernel_rfl) h3) (by decide +kernel)) (by kernel_rfl) (by kernel_rfl)) Evs.nil))
    · exact freeOK_of (fs := ["sign"]) (by kernel_rfl) (by kernel_rfl) (by intro x hx; simp only [List.mem_cons, List.not_mem_nil, or_false] at hx; subst hx; rw [upds1_ne (restr_at (by kernel_rfl) h4) (by decide +kernel)]; rfl)
    · rintro ⟨a, b⟩ _ ⟨a', b'⟩ _ q
      simp only [List.cons.injEq, D.int.injEq, and_true] at q
      obtain ⟨rfl, rfl⟩ := q
      exact ⟨rfl, rfl⟩
    · obtain ⟨a, b⟩ := p
      refine Ev.cmp (Ev.binop (Ev.cellName (.inl (by kernel_rfl)) (upds_ne (restr_at (by kernel_rfl) (upds_ne (restr_at (by kernel_rfl) h4) (by kernel_rfl))) (by kernel_rfl)) (by kernel_rfl) (by kernel_rfl)) (Ev.localName (by kernel_rfl) rfl (by kernel_rfl)) (Op2.mulInt _ _ (hb w hw a (List.of_mem_zip hp).1)))
        (Ev.binop (Ev.cellName (.inl (by kernel_rfl)) (upds_ne (restr_at (by kernel_rfl) (upds_ne (restr_at (by kernel_rfl) h4) (by kernel_rfl))) (by kernel_rfl)) (by kernel_rfl) (by kernel_rfl)) (Ev.localName (by kernel_rfl) rfl (by kernel_rfl)) (Op2.mulInt _ _ (hb2 b (List.of_mem_zip hp).2))) (Op2.geInt _ _) (by kernel_rfl)
end
end Qp
namespace Qp
open PySem PySem.Calls PyProof.Rows PySem.W
section
variable {c : Cx} {n : Nat}
/-- what a turn of the climb must know -/
structure ClimbOK (c : Cx) (n : Nat) (f : Value) (pk : List Int → Int) (sg : Int) (k : Nat) (left : List (List Int)) : Prop where
  mem : left.contains (midOf pk k left) = true
  len : ∀ w ∈ left, w.length = k
  few : left.length ≤ 100
  fn : ∀ i, i < k → Fn c n f [intsD (left.map fun w => w.getD i 0)] (.int (pk (left.map fun w => w.getD i 0)))
theorem mulOk_sg {sg : Int} (h : sg = 1 ∨ sg = -1) (a : Int) : IntMulOk sg a := by
  rcases h with rfl | rfl
  · exact IntMulOk.of_left (by decide +kernel)
  · exact IntMulOk.of_left (by decide +kernel)
theorem climb_for (T : Tops c) (f : Value) (pl : Plain c f) (pk : List Int → Int) (sg : Int) (hsg : sg = 1 ∨ sg = -1) (ways : List (List Int)) (k : Nat) (hk : k ≤ 100) (hw : ∃ w, ways[0]? = some w ∧ w.length = k) (hwl : ways.length ≤ 100)
    (I : List (List Int) → Prop) (hI : ∀ left, I left → ClimbOK c (n + 8) f pk sg k left ∧ I (keepBy sg (midOf pk k left) left)) :
    ∀ (rows : List (List D)) (left : List (List Int)) (ρ : Str → Option D), I left → (∀ row ∈ rows, ∃ d, row = [d]) → ρ "ways" = some (.list (ways.map intsD)) → ρ "left" = some (.list (left.map intsD)) → ρ "pick" = some (.val f) → ρ "sign" = some (.int sg) →
      ∃ ρ', ρ' "left" = some (.list ((climbN pk sg k rows.length left).map intsD)) ∧ Fors c (n + 8) (fS 29) (Cells 29) none ["turn"] climbB rows ρ [] (.next ρ' [])
  | [], left, ρ, _, _, _, h2, _, _ => ⟨ρ, h2, rfl⟩
  | row :: rows, left, ρ, hi, hr, h1, h2, h3, h4 => by
    obtain ⟨d, rfl⟩ := hr row List.mem_cons_self
    obtain ⟨ok, hi'⟩ := hI left hi
    let ρ1 := upd (upds ρ ["turn"] [d]) "middle" (intsD (midOf pk k left))
    let ρ2 := upd ρ1 "left" (.list ((keepBy sg (midOf pk k left) left).map intsD))
    have a1 : ∀ {x : Str} {d' : D}, x ≠ "turn" → x ≠ "middle" → ρ x = some d' → ρ1 x = some d' := fun n1 n2 e => upd_ne n2 (upd_ne n1 e)
    have a2 : ∀ {x : Str} {d' : D}, x ≠ "left" → ρ1 x = some d' → ρ2 x = some d' := fun n1 e => upd_ne n1 e
    obtain ⟨ρ', e', hf⟩ := climb_for T f pl pk sg hsg ways k hk hw hwl I hI rows (keepBy sg (midOf pk k left) left) ρ2 hi' (fun r hr' => hr r (List.mem_cons_of_mem _ hr'))
      (a2 (by decide +kernel) (a1 (by decide +kernel) (by decide +kernel) h1)) rfl (a2 (by decide +kernel) (a1 (by decide +kernel) (by decide +kernel) h3)) (a2 (by decide +kernel) (a1 (by decide +kernel) (by decide +kernel) h4))
    refine ⟨ρ', ?_, .inl ⟨ρ2, [], .inl ?_, hf⟩⟩
    · rw [e']; show _ = some (D.list (List.map intsD (climbN pk sg k (rows.length + 1) left))); rw [climbN, if_pos ok.mem]
    · have hml : (midOf pk k left).length = k := by simp [midOf]
      refine x_climb_mid T f pl pk ways left k hk hw ok.len ok.few hwl ok.fn (upds1_ne h1 (by decide +kernel)) (upds1_ne h2 (by decide +kernel)) (upds1_ne h3 (by decide +kernel)) ?_
      refine x_climb_in left (midOf pk k left) (a1 (by decide +kernel) (by decide +kernel) h2) rfl ?_
      rw [if_pos ok.mem]
      refine x_climb_keep (n := n + 7) T left (midOf pk k left) sg (by rcases hsg with rfl | rfl <;> decide) (by omega) ok.few (fun w hw' => by rw [ok.len w hw']; exact hk) (fun _ _ a _ => mulOk_sg hsg a) (fun a _ => mulOk_sg hsg a) (a1 (by decide +kernel) (by decide +kernel) h2) rfl (a1 (by decide +kernel) (by decide +kernel) h4) ?_
      exact Exs.nil
theorem x_climb (T : Tops c) (f : Value) (pl : Plain c f) (pk : List Int → Int) (sg : Int) (hsg : sg = 1 ∨ sg = -1) (ways : List (List Int)) (k : Nat) (hk : k ≤ 100) (hw : ∃ w, ways[0]? = some w ∧ w.length = k) (hwl : ways.length ≤ 100)
    (I : List (List Int) → Prop) (h0 : I ways) (hI : ∀ left, I left → ClimbOK c (n + 8) f pk sg k left ∧ I (keepBy sg (midOf pk k left) left)) :
    Exs c (n + 8) (fS 29) (Cells 29) none (upds (fun _ => none) ["ways", "pick", "sign"] [.list (ways.map intsD), .val f, .int sg]) [] (fB 29) (.ret (.list ((climbN pk sg k (ways.length - 1) ways).map intsD))) := by
  have hsz : sizeLine = 16777216 := sizeLine_eq
  have e1 : pick (ways.map intsD) (some 1) none none = (ways.drop 1).map intsD := by
    rw [pick_map, pick_plain]
    have hp : 0 < ways.length := by obtain ⟨w, e, _⟩ := hw; exact (List.getElem?_eq_some_iff.mp e).1
    have : clipAt ways.length 1 = 1 := by have := clipAt_cast ways.length 1; omega
    simp only [Option.elim, this]
    rw [List.take_of_length_le (by simp)]
  refine Exs.cons (Ex.assign (Ev.localName (by kernel_rfl) rfl (by kernel_rfl)) (.inr (show (fS 29).names.lookup _ = _ by kernel_rfl)) (fun _ _ => rfl)) ?_
  obtain ⟨ρ', e', hf⟩ := climb_for (c := c) (n := n) T f pl pk sg hsg ways k hk hw hwl I hI (((ways.drop 1).map intsD).map fun d => [d]) ways (upd (upds (fun _ => none) ["ways", "pick", "sign"] [.list (ways.map intsD), .val f, .int sg]) "left" (.list (ways.map intsD))) h0 (by intro row hr; obtain ⟨d, _, rfl⟩ := List.mem_map.mp hr; exact ⟨d, rfl⟩) rfl rfl rfl rfl
  refine Exs.cons (Ex.for (Tgt.name _ _) (rows := ((ways.drop 1).map intsD).map fun d => [d]) (ItEv.list (e1 ▸ Ev.sliceL (l := some 1) (u := none) (z := none) (Ev.localName (by kernel_rfl) rfl (by kernel_rfl)) Ev.int trivial trivial (by simp) (by simp; omega))) (by intro x hx; rw [List.mem_singleton.mp hx]; exact .inl (by kernel_rfl)) (by intro row hr; obtain ⟨d, _, rfl⟩ := List.mem_map.mp hr; rfl) hf) ?_
  rw [List.length_map, List.length_map, List.length_drop] at e'
  exact Exs.ret (Ex.retE (Ev.cellName (.inl (by kernel_rfl)) e' (by kernel_rfl) (by kernel_rfl)))
end
end Qp
namespace Qp
open PySem PySem.Calls PyProof.Rows PySem.W
/-- what is left from a place on -/
noncomputable def lf (sizes : List Int) (p : Int) : Int := (sizes.drop p.toNat).sum
noncomputable def lastP (r : List Int) : Int := r.getLastD 0
noncomputable def doneOf (sizes : List Int) (width extra : Int) (rows : List (List Int)) : List (List Int) := (rows.filter fun r => decide (lf sizes (lastP r) + extra ≤ width)).map fun r => r.drop 1
noncomputable def growOne (sizes : List Int) (width extra : Int) (r : List Int) : List (List Int) :=
  ((rangeI (lastP r + 1) ((sizes.length : Int) + extra.fdiv 2)).filter fun p => decide (lf sizes (lastP r) - lf sizes p < width)).map fun p => r ++ [p]
noncomputable def grow (sizes : List Int) (width extra : Int) (rows : List (List Int)) : List (List Int) := rows.flatMap (growOne sizes width extra)
noncomputable def waysN (sizes : List Int) (width extra : Int) : Nat → List (List Int) → List (List Int)
  | 0, _ => []
  | m + 1, rows => if doneOf sizes width extra rows != [] then doneOf sizes width extra rows else waysN sizes width extra m (grow sizes width extra rows)
noncomputable def leftL (sizes : List Int) : List Int := (List.range (sizes.length + 1)).map fun i => (sizes.drop i).sum

noncomputable def waysB : List Stmt := forB ((fB 27).getD 2 (.Pass ⟨0,0,0,0⟩))
/-- rows that the walk may hold -/
structure RowsOK (sizes : List Int) (rows : List (List Int)) : Prop where
  few : rows.length ≤ 1000
  row : ∀ r ∈ rows, r ≠ [] ∧ r.length ≤ 1000 ∧ 0 ≤ lastP r ∧ lastP r ≤ sizes.length
theorem leftL_at (sizes : List Int) (p : Int) (h0 : 0 ≤ p) (h1 : p ≤ sizes.length) : idx? ((leftL sizes).map D.int) p = some (.int (lf sizes p)) := by
  refine idx_map D.int _ _ _ (idx_nat _ _ p.toNat _ (by omega) ?_)
  unfold leftL lf
  rw [List.getElem?_map, List.getElem?_range (by omega)]; rfl
theorem last_at (r : List Int) (h : r ≠ []) : idx? (r.map D.int) (-1) = some (.int (lastP r)) := idx_map D.int _ _ _ (idx_last r h 0)
section
variable {c : Cx} {n : Nat}
theorem x_ways_left (T : Tops c) (sizes : List Int) (width extra : Int) (hs : sizes.length ≤ 100) {out : Out}
    (h : Exs c n (fS 27) (Cells 27) none (upd (upds (fun _ => none) ["sizes", "width", "extra"] [intsD sizes, .int width, .int extra]) "left" (intsD (leftL sizes))) [] (fB 27).tail out) :
    Exs c n (fS 27) (Cells 27) none (upds (fun _ => none) ["sizes", "width", "extra"] [intsD sizes, .int width, .int extra]) [] (fB 27) out := by
  have hsz : sizeLine = 16777216 := sizeLine_eq
  have e : intsD (leftL sizes) = .list (((rangeI 0 ((sizes.length + 1 : Nat) : Int)).filter fun _ => true).map fun i => D.int (lf sizes i)) := by
    rw [filter_true]; unfold intsD leftL rangeI lf; simp
  rw [e] at h
  have rk : (rangeI 0 ((sizes.length + 1 : Nat) : Int)).length = sizes.length + 1 := by unfold rangeI; simp
  refine Exs.cons (Ex.assignFM (l := rangeI 0 ((sizes.length + 1 : Nat) : Int)) (row := fun i => [D.int i]) (p := fun _ => true) (b := false) (Tgt.name _ _) ?src ⟨by kernel_rfl, by decide +kernel, by kernel_rfl, by kernel_rfl⟩ ?inj (by omega) ?row (by kernel_rfl) (by rw [if_neg (by decide)]; exact .inr (show (fS 27).names.lookup _ = _ by kernel_rfl)) (by kernel_rfl)) h
  case src =>
    refine ItEv.range (Ev.call (Ev.bi T.good T.range (by kernel_rfl) (by kernel_rfl)) trivial (Evs.cons (Ev.binop (a := .int sizes.length) (b := .int 1) (Ev.call (Ev.bi T.good T.len (by kernel_rfl) (by kernel_rfl)) trivial (Evs.cons (d := intsD sizes) (Ev.cellName (.inl (by kernel_rfl)) rfl (by kernel_rfl) (by kernel_rfl)) Evs.nil) ?_) Ev.int (Op2.addInt _ _)) Evs.nil) (Fn.range1 _)) (by decide) (by omega)
    have := Fn.lenList (c := c) (n := n) (sizes.map D.int) (by simp; omega)
    rwa [List.length_map] at this
  case inj => intro a _ b _ q; simp only [List.cons.injEq, D.int.injEq, and_true] at q; subst q; exact ⟨rfl, rfl⟩
  case row =>
    intro i hi
    refine ⟨rfl, rfl, fun _ => ?_⟩
    obtain ⟨j, hj, rfl⟩ : ∃ j : Nat, j ≤ sizes.length ∧ i = (j : Int) := by
      unfold rangeI at hi
      obtain ⟨j, hj, rfl⟩ := List.mem_map.mp hi
      exact ⟨j, by have := List.mem_range.mp hj; omega, by simp⟩
    refine Ev.call (f := .builtin "sum") (ds := [intsD (sizes.drop j)]) (Ev.bi T.good T.sum (by kernel_rfl) (by kernel_rfl)) trivial (Evs.cons ?_ Evs.nil) (by have := Fn.sum (c := c) (n := n) (sizes.drop j); exact this)
    have e2 : pick (sizes.map D.int) (some (j : Int)) none none = (sizes.drop j).map D.int := by
      rw [pick_map, pick_plain]
      have : clipAt sizes.length (j : Int) = j := by have := clipAt_cast sizes.length j; omega
      simp only [Option.elim, this]
      rw [List.take_of_length_le (by simp)]
    unfold intsD
    rw [← e2]
    exact Ev.sliceL (l := some (j : Int)) (u := none) (z := none) (Ev.cellName (.inl (by kernel_rfl)) rfl (by kernel_rfl) (by kernel_rfl)) (Ev.localName (by kernel_rfl) rfl (by kernel_rfl)) trivial trivial (by simp) (by simp; omega)
end
end Qp
namespace Qp
open PySem PySem.Calls PyProof.Rows PySem.W
theorem pick_tl (r : List Int) : pick (r.map D.int) (some 1) none none = (r.drop 1).map D.int := by
  rw [pick_map, pick_plain]
  cases r with
  | nil => simp
  | cons a r =>
    have : clipAt (a :: r).length 1 = 1 := by have := clipAt_cast (a :: r).length 1; simp only [List.length_cons] at *; omega
    simp only [Option.elim, this]
    rw [List.take_of_length_le (by simp)]
section
variable {c : Cx} {n : Nat}
theorem x_ways_done (sizes : List Int) (width extra : Int) (rows : List (List Int)) (hs : sizes.length ≤ 100) (hr : RowsOK sizes rows) {ρ : Str → Option D}
    (h1 : ρ "left" = some (intsD (leftL sizes))) (h2 : ρ "rows" = some (.list (rows.map intsD))) (h3 : ρ "width" = some (.int width)) (h4 : ρ "extra" = some (.int extra)) {out : Out}
    (h : Exs c n (fS 27) (Cells 27) none (upd ρ "done" (.list ((doneOf sizes width extra rows).map intsD))) [] waysB.tail out) :
    Exs c n (fS 27) (Cells 27) none ρ [] waysB out := by
  have hsz : sizeLine = 16777216 := sizeLine_eq
  have hfew := hr.few
  have e : (doneOf sizes width extra rows).map intsD = ((rows.filter fun r => decide (lf sizes (lastP r) + extra ≤ width)).map fun r => intsD (r.drop 1)) := by
    unfold doneOf; rw [List.map_map]; rfl
  rw [e] at h
  refine Exs.cons (Ex.assignFM (l := rows) (row := fun r => [intsD r]) (b := true) (Tgt.name _ _) ?src ⟨by kernel_rfl, by decide +kernel, ?fo, by kernel_rfl⟩ ?inj (by omega) ?row (by kernel_rfl) (by rw [if_pos rfl]; kernel_rfl) (by kernel_rfl)) h
  case src => exact map_rows intsD rows ▸ ItEv.list (Ev.localName (by kernel_rfl) h2 (by kernel_rfl))
  case fo => exact freeOK_of (fs := ["extra", "left", "width"]) (by kernel_rfl) (by kernel_rfl) (by intro x hx; simp only [List.mem_cons, List.not_mem_nil, or_false] at hx; rcases hx with rfl | rfl | rfl <;> simp [h1, h3, h4])
  case inj => intro a _ b _ q; have := intsD_inj q; subst this; exact ⟨rfl, rfl⟩
  case row =>
    intro r hr'
    obtain ⟨hne, hrl, l0, l1⟩ := hr.row r hr'
    refine ⟨rfl, ?_, fun _ => ?_⟩
    · show Tr _ _ _ _ _ _
      exact Tr.cmp (Ev.binop (Ev.idxL (Ev.cellName (.inl (by kernel_rfl)) (upds_ne (restr_at (by kernel_rfl) h1) (by kernel_rfl)) (by kernel_rfl) (by kernel_rfl)) (Ev.idxL (Ev.localName (by kernel_rfl) rfl (by kernel_rfl)) (Ev.unary Ev.int (Op1.neg 1)) (last_at r hne) (by simp; omega)) (leftL_at sizes _ l0 l1) (by simp [leftL]; omega)) (Ev.cellName (.inl (by kernel_rfl)) (upds_ne (restr_at (by kernel_rfl) h4) (by kernel_rfl)) (by kernel_rfl) (by kernel_rfl)) (Op2.addInt _ _))
        (Ev.cellName (.inl (by kernel_rfl)) (upds_ne (restr_at (by kernel_rfl) h3) (by kernel_rfl)) (by kernel_rfl) (by kernel_rfl)) (Op2.leInt _ _) (by kernel_rfl)
    · unfold intsD
      rw [← pick_tl]
      exact Ev.sliceL (l := some 1) (u := none) (z := none) (Ev.localName (by kernel_rfl) rfl (by kernel_rfl)) Ev.int trivial trivial (by simp) (by simp; omega)
theorem x_ways_grow (T : Tops c) (sizes : List Int) (width extra : Int) (rows : List (List Int)) (hs : sizes.length ≤ 100) (he0 : 0 ≤ extra) (he : extra ≤ 2) (hr : RowsOK sizes rows) (hg : (grow sizes width extra rows).length ≤ 1000) {ρ : Str → Option D}
    (h1 : ρ "left" = some (intsD (leftL sizes))) (h2 : ρ "rows" = some (.list (rows.map intsD))) (h3 : ρ "width" = some (.int width)) (h4 : ρ "extra" = some (.int extra)) (h5 : ρ "sizes" = some (intsD sizes)) {out : Out}
    (h : Exs c n (fS 27) (Cells 27) none (upd ρ "rows" (.list ((grow sizes width extra rows).map intsD))) [] waysB.tail.tail.tail out) :
    Exs c n (fS 27) (Cells 27) none ρ [] waysB.tail.tail out := by
  have hsz : sizeLine = 16777216 := sizeLine_eq
  have hfew := hr.few
  have hex : extra.fdiv 2 = 0 ∨ extra.fdiv 2 = 1 := by
    have : extra = 0 ∨ extra = 1 ∨ extra = 2 := by omega
    rcases this with rfl | rfl | rfl <;> simp <;> decide
  have e : (grow sizes width extra rows).map intsD = rows.flatMap fun r => ((rangeI (lastP r + 1) ((sizes.length : Int) + extra.fdiv 2)).filter fun p => decide (lf sizes (lastP r) - lf sizes p < width)).map fun p => intsD (r ++ [p]) := by
    unfold grow growOne; rw [List.map_flatMap]; simp only [List.map_map]; rfl
  have hgl : (grow sizes width extra rows).length = ((grow sizes width extra rows).map intsD).length := by simp
  rw [e] at h hgl
  refine Exs.cons (Ex.assignComp2 (l := rows) (row := fun r => [intsD r]) (Tgt.name _ _) ?src ⟨by kernel_rfl, by decide +kernel, ?fo, by kernel_rfl⟩ ?inj (by omega) ?row (by kernel_rfl) (by kernel_rfl) (by kernel_rfl)) h
  case src => exact map_rows intsD rows ▸ ItEv.list (Ev.localName (by kernel_rfl) h2 (by kernel_rfl))
  case fo => exact freeOK_of (fs := ["extra", "left", "sizes", "width"]) (by kernel_rfl) (by kernel_rfl) (by intro x hx; simp only [List.mem_cons, List.not_mem_nil, or_false] at hx; rcases hx with rfl | rfl | rfl | rfl <;> simp [h1, h3, h4, h5])
  case inj => intro a _ b _ q; have := intsD_inj q; subst this; rfl
  case row =>
    intro r hr'
    obtain ⟨hne, hrl, l0, l1⟩ := hr.row r hr'
    refine ⟨rfl, act_inner (row := fun p => [D.int p]) (Tgt.name _ _) ?_ ?_ ?_ ?_ ?_⟩
    · refine ItEv.range (Ev.call (Ev.bi T.good T.range (by kernel_rfl) (by kernel_rfl)) trivial (Evs.cons (Ev.binop (Ev.idxL (Ev.localName (by kernel_rfl) rfl (by kernel_rfl)) (Ev.unary Ev.int (Op1.neg 1)) (last_at r hne) (by simp; omega)) Ev.int (Op2.addInt _ _))
        (Evs.cons (Ev.binop (a := .int sizes.length) (Ev.call (Ev.bi T.good T.len (by kernel_rfl) (by kernel_rfl)) trivial (Evs.cons (d := intsD sizes) (Ev.cellName (.inl (by kernel_rfl)) (upds_ne (restr_at (by kernel_rfl) h5) (by kernel_rfl)) (by kernel_rfl) (by kernel_rfl)) Evs.nil) ?_)
          (Ev.binop (Ev.cellName (.inl (by kernel_rfl)) (upds_ne (restr_at (by kernel_rfl) h4) (by kernel_rfl)) (by kernel_rfl) (by kernel_rfl)) Ev.int (Op2.divInt _ _ (by decide) (PyProof.noPylong_small (by decide)))) (Op2.addInt _ _)) Evs.nil)) (Fn.range2 _ _)) (by omega) (by omega)
      have := Fn.lenList (c := c) (n := n) (sizes.map D.int) (by simp; omega)
      rwa [List.length_map] at this
    · intro x hx; rw [List.mem_singleton.mp hx]; exact .inl (by kernel_rfl)
    · intro x hx; rw [List.mem_singleton.mp hx]; rfl
    · intro a _ b _ q; simp only [List.cons.injEq, D.int.injEq, and_true] at q; subst q; exact ⟨rfl, rfl⟩
    · intro p hp
      have hp' : 0 ≤ p ∧ p ≤ sizes.length := by
        unfold rangeI at hp
        obtain ⟨j, hj, rfl⟩ := List.mem_map.mp hp
        have := List.mem_range.mp hj
        omega
      refine ⟨rfl, ?_, fun _ => ?_⟩
      · show Tr _ _ _ _ _ _
        exact Tr.cmp (Ev.binop (Ev.idxL (Ev.cellName (.inl (by kernel_rfl)) (upds_ne (upds_ne (restr_at (by kernel_rfl) h1) (by kernel_rfl)) (by kernel_rfl)) (by kernel_rfl) (by kernel_rfl)) (Ev.idxL (Ev.localName (by kernel_rfl) rfl (by kernel_rfl)) (Ev.unary Ev.int (Op1.neg 1)) (last_at r hne) (by simp; omega)) (leftL_at sizes _ l0 l1) (by simp [leftL]; omega))
          (Ev.idxL (Ev.cellName (.inl (by kernel_rfl)) (upds_ne (upds_ne (restr_at (by kernel_rfl) h1) (by kernel_rfl)) (by kernel_rfl)) (by kernel_rfl) (by kernel_rfl)) (Ev.localName (by kernel_rfl) rfl (by kernel_rfl)) (leftL_at sizes _ hp'.1 hp'.2) (by simp [leftL]; omega)) (Op2.subInt _ _))
          (Ev.cellName (.inl (by kernel_rfl)) (upds_ne (upds_ne (restr_at (by kernel_rfl) h3) (by kernel_rfl)) (by kernel_rfl)) (by kernel_rfl) (by kernel_rfl)) (Op2.ltInt _ _) (by kernel_rfl)
      · unfold intsD
        rw [List.map_append]
        exact Ev.binop (Ev.localName (by kernel_rfl) rfl (by kernel_rfl)) (Ev.list (Evs.cons (Ev.localName (by kernel_rfl) rfl (by kernel_rfl)) Evs.nil) (by show 1 ≤ _; omega)) (Op2.addList (by simp; omega))
end
end Qp
namespace Qp
open PySem PySem.Calls PyProof.Rows PySem.W
section
variable {c : Cx} {n : Nat}
theorem ways_for (T : Tops c) (sizes : List Int) (width extra : Int) (hs : sizes.length ≤ 100) (he0 : 0 ≤ extra) (he : extra ≤ 2)
    (I : List (List Int) → Prop) (hI : ∀ rows, I rows → RowsOK sizes rows ∧ (grow sizes width extra rows).length ≤ 1000 ∧ I (grow sizes width extra rows)) :
    ∀ (turns : List (List D)) (rows : List (List Int)) (ρ : Str → Option D), I rows → (∀ row ∈ turns, ∃ d, row = [d]) → ρ "left" = some (intsD (leftL sizes)) → ρ "rows" = some (.list (rows.map intsD)) → ρ "width" = some (.int width) → ρ "extra" = some (.int extra) → ρ "sizes" = some (intsD sizes) →
      ∃ out, Fors c (n + 8) (fS 27) (Cells 27) none ["turn"] waysB turns ρ [] out ∧ (out = .ret (.list ((waysN sizes width extra turns.length rows).map intsD)) ∨ ∃ ρ', out = .next ρ' [] ∧ waysN sizes width extra turns.length rows = [])
  | [], rows, ρ, _, _, _, _, _, _, _ => ⟨.next ρ [], rfl, .inr ⟨ρ, rfl, rfl⟩⟩
  | row :: turns, rows, ρ, hi, hr, h1, h2, h3, h4, h5 => by
    obtain ⟨d, rfl⟩ := hr row List.mem_cons_self
    obtain ⟨ok, hg, hi'⟩ := hI rows hi
    have cmpd : Cmp (.list ((doneOf sizes width extra rows).map intsD)) := cmp_intss _
    have tst : Op2 c (n + 8) (compareOp .NotEq) (.list ((doneOf sizes width extra rows).map intsD)) (.list []) (.bool (doneOf sizes width extra rows != [])) := by
      have := Op2.ne (c := c) (n := n) cmpd ((CmpL.list (k := 0) (l := []) (by simp)).cmp (by decide))
      have e : eqD (.list ((doneOf sizes width extra rows).map intsD)) (.list []) = (doneOf sizes width extra rows == []) := eqD_list intsD eqD_ints (doneOf sizes width extra rows) []
      rw [e] at this
      exact this
    let ρ0 := upds ρ ["turn"] [d]
    let ρ1 := upd ρ0 "done" (.list ((doneOf sizes width extra rows).map intsD))
    have a0 : ∀ {x : Str} {d' : D}, x ≠ "turn" → ρ x = some d' → ρ0 x = some d' := fun n1 e => upd_ne n1 e
    have a1 : ∀ {x : Str} {d' : D}, x ≠ "turn" → x ≠ "done" → ρ x = some d' → ρ1 x = some d' := fun n1 n2 e => upd_ne n2 (upd_ne n1 e)
    have hw : waysN sizes width extra (([d] :: turns).length) rows = if doneOf sizes width extra rows != [] then doneOf sizes width extra rows else waysN sizes width extra turns.length (grow sizes width extra rows) := rfl
    by_cases hd : (doneOf sizes width extra rows != []) = true
    · rw [if_pos hd] at hw
      rw [hd] at tst
      refine ⟨_, .inr ⟨_, ?_, rfl⟩, .inl (by rw [hw])⟩
      refine x_ways_done sizes width extra rows hs ok (a0 (by decide +kernel) h1) (a0 (by decide +kernel) h2) (a0 (by decide +kernel) h3) (a0 (by decide +kernel) h4) ?_
      exact Exs.ret (Ex.ifT (Tr.cmp (Ev.localName (by kernel_rfl) rfl (by kernel_rfl)) (Ev.list Evs.nil (by simp)) tst (by kernel_rfl)) (Exs.ret (Ex.retE (Ev.localName (by kernel_rfl) rfl (by kernel_rfl)))))
    · rw [if_neg hd] at hw
      have hd' : (doneOf sizes width extra rows != []) = false := by simpa using hd
      rw [hd'] at tst
      let ρ2 := upd ρ1 "rows" (.list ((grow sizes width extra rows).map intsD))
      have a2 : ∀ {x : Str} {d' : D}, x ≠ "turn" → x ≠ "done" → x ≠ "rows" → ρ x = some d' → ρ2 x = some d' := fun n1 n2 n3 e => upd_ne n3 (a1 n1 n2 e)
      obtain ⟨out, hf, ho⟩ := ways_for T sizes width extra hs he0 he I hI turns (grow sizes width extra rows) ρ2 hi' (fun r hr' => hr r (List.mem_cons_of_mem _ hr')) (a2 (by decide +kernel) (by decide +kernel) (by decide +kernel) h1) rfl (a2 (by decide +kernel) (by decide +kernel) (by decide +kernel) h3) (a2 (by decide +kernel) (by decide +kernel) (by decide +kernel) h4) (a2 (by decide +kernel) (by decide +kernel) (by decide +kernel) h5)
      refine ⟨out, .inl ⟨ρ2, [], .inl ?_, hf⟩, by rw [hw]; exact ho⟩
      refine x_ways_done sizes width extra rows hs ok (a0 (by decide +kernel) h1) (a0 (by decide +kernel) h2) (a0 (by decide +kernel) h3) (a0 (by decide +kernel) h4) ?_
      refine Exs.cons (Ex.ifF (Tr.cmp (Ev.localName (by kernel_rfl) rfl (by kernel_rfl)) (Ev.list Evs.nil (by simp)) tst (by kernel_rfl)) Exs.nil) ?_
      exact x_ways_grow T sizes width extra rows hs he0 he ok hg (a1 (by decide +kernel) (by decide +kernel) h1) (a1 (by decide +kernel) (by decide +kernel) h2) (a1 (by decide +kernel) (by decide +kernel) h3) (a1 (by decide +kernel) (by decide +kernel) h4) (a1 (by decide +kernel) (by decide +kernel) h5) Exs.nil
theorem x_ways (T : Tops c) (sizes : List Int) (width extra : Int) (hs : sizes.length ≤ 100) (he0 : 0 ≤ extra) (he : extra ≤ 2)
    (I : List (List Int) → Prop) (h0 : I [[0]]) (hI : ∀ rows, I rows → RowsOK sizes rows ∧ (grow sizes width extra rows).length ≤ 1000 ∧ I (grow sizes width extra rows)) :
    Exs c (n + 8) (fS 27) (Cells 27) none (upds (fun _ => none) ["sizes", "width", "extra"] [intsD sizes, .int width, .int extra]) [] (fB 27) (.ret (.list ((waysN sizes width extra sizes.length [[0]]).map intsD))) := by
  have hsz : sizeLine = 16777216 := sizeLine_eq
  refine x_ways_left T sizes width extra hs ?_
  refine Exs.cons (Ex.assign (d := .list ([[0]].map intsD)) (Ev.list (Evs.cons (Ev.list (Evs.cons Ev.int Evs.nil) (by show 1 ≤ _; omega)) Evs.nil) (by show 1 ≤ _; omega)) (.inl (by kernel_rfl)) (fun _ _ => rfl)) ?_
  obtain ⟨out, hf, ho⟩ := ways_for (c := c) (n := n) T sizes width extra hs he0 he I hI ((sizes.map D.int).map fun d => [d]) [[0]] (upd (upd (upds (fun _ => none) ["sizes", "width", "extra"] [intsD sizes, .int width, .int extra]) "left" (intsD (leftL sizes))) "rows" (.list ([[0]].map intsD))) h0 (by intro row hr; obtain ⟨d, _, rfl⟩ := List.mem_map.mp hr; exact ⟨d, rfl⟩) rfl rfl rfl rfl rfl
  rw [List.length_map, List.length_map] at ho
  rcases ho with rfl | ⟨ρ', rfl, hz⟩
  · exact Exs.ret (Ex.for (Tgt.name _ _) (ItEv.list (Ev.cellName (.inl (by kernel_rfl)) rfl (by kernel_rfl) (by kernel_rfl))) (by intro x hx; rw [List.mem_singleton.mp hx]; exact .inl (by kernel_rfl)) (by intro row hr; obtain ⟨d, _, rfl⟩ := List.mem_map.mp hr; rfl) hf)
  · rw [hz]
    refine Exs.cons (Ex.for (Tgt.name _ _) (ItEv.list (Ev.cellName (.inl (by kernel_rfl)) rfl (by kernel_rfl) (by kernel_rfl))) (by intro x hx; rw [List.mem_singleton.mp hx]; exact .inl (by kernel_rfl)) (by intro row hr; obtain ⟨d, _, rfl⟩ := List.mem_map.mp hr; rfl) hf) ?_
    exact Exs.ret (Ex.retE (Ev.list Evs.nil (by simp)))
end
end Qp
namespace Qp
open PySem PySem.Calls PyProof.Rows PySem.W
noncomputable def whB : Stmt → List Stmt
  | .While _ body _ _ => body
  | _ => []
noncomputable def whT : Stmt → Expr
  | .While t _ _ _ => t
  | _ => .Name "" ⟨0,0,0,0⟩
noncomputable def beF : List Stmt := forB ((fB 20).getD 7 (.Pass ⟨0,0,0,0⟩))
noncomputable def beW : Stmt := beF.getD 2 (.Pass ⟨0,0,0,0⟩)
noncomputable def chAt (x : Str) (i : Int) : Nat := x.cps.toList.getD i.toNat 0
noncomputable def eqS : Str := ⟨#[61]⟩
/-- the rows that the inner loop writes, and the place that it comes to -/
noncomputable def beGo (line : Str) (w : Int) : Nat → Int → List Str × Int
  | 0, st => ([], st)
  | f + 1, st => if st ≤ line.length - 1 - w then
      if chAt line (st + (w - 1) - 2) == 61 then let r := beGo line w f (st + (w - 1) - 2); (cutS line (some st) (some (st + (w - 1) - 1)) :: r.1, r.2)
      else if chAt line (st + (w - 1) - 1) == 61 then let r := beGo line w f (st + (w - 1) - 1); (cutS line (some st) (some (st + (w - 1))) :: r.1, r.2)
      else let r := beGo line w f (st + (w - 1)); ((cutS line (some st) (some (st + (w - 1))) ++ eqS) :: r.1, r.2)
    else ([], st)
theorem chS_beq (a b : Nat) : (chS a == chS b) = (a == b) := by
  by_cases h : a = b
  · subst h; simp
  · have : chS a ≠ chS b := fun q => h (by simpa [chS] using q)
    rw [beq_eq_false_iff_ne.mpr this, beq_eq_false_iff_ne.mpr h]
theorem cutS_len (x : Str) (a b : Option Int) : (cutS x a b).length ≤ x.length := by
  show ((pick x.cps.toList a b none).toArray).size ≤ x.cps.size
  rw [List.size_toArray]
  have := pick_le x.cps.toList a b
  simpa using this
structure BeR (la ma : Addr) (tb eol line : Str) (w : Int) (ρ : Str → Option D) (st : Int) : Prop where
  rbody : ρ "body" = some (.str tb)
  reol : ρ "eol" = some (.str eol)
  rsoft : ρ "soft_break" = some (.str (eqS ++ eol))
  rwl : ρ "maxlinelen1" = some (.int (w - 1))
  rline : ρ "line" = some (.str line)
  renc : ρ "encoded_body" = some (.val (.ref la))
  rapp : ρ "append" = some (.val (.ref ma))
  rstart : ρ "start" = some (.int st)
  rlast : ρ "laststart" = some (.int (line.length - 1 - w))
theorem BeR.stop {la ma : Addr} {tb eol line : Str} {w st : Int} {ρ : Str → Option D} {d : D} (h : BeR la ma tb eol line w ρ st) : BeR la ma tb eol line w (upd ρ "stop" d) st :=
  ⟨upd_ne (by decide +kernel) h.rbody, upd_ne (by decide +kernel) h.reol, upd_ne (by decide +kernel) h.rsoft, upd_ne (by decide +kernel) h.rwl, upd_ne (by decide +kernel) h.rline, upd_ne (by decide +kernel) h.renc, upd_ne (by decide +kernel) h.rapp, upd_ne (by decide +kernel) h.rstart, upd_ne (by decide +kernel) h.rlast⟩
theorem BeR.go {la ma : Addr} {tb eol line : Str} {w st : Int} {ρ : Str → Option D} {st' : Int} (h : BeR la ma tb eol line w ρ st) : BeR la ma tb eol line w (upd ρ "start" (.int st')) st' :=
  ⟨upd_ne (by decide +kernel) h.rbody, upd_ne (by decide +kernel) h.reol, upd_ne (by decide +kernel) h.rsoft, upd_ne (by decide +kernel) h.rwl, upd_ne (by decide +kernel) h.rline, upd_ne (by decide +kernel) h.renc, upd_ne (by decide +kernel) h.rapp, rfl, upd_ne (by decide +kernel) h.rlast⟩
theorem idx_ch (x : Str) (i : Int) (h0 : 0 ≤ i) (h1 : i < x.length) : idx? x.cps.toList i = some (chAt x i) := by
  have hl : x.cps.toList.length = x.length := by simp [Str.length]
  refine idx_nat _ _ i.toNat _ (by omega) ?_
  unfold chAt
  rw [List.getD_eq_getElem?_getD, List.getElem?_eq_getElem (by omega)]; rfl
section
variable {c : Cx} {n : Nat}
theorem be_while (la ma : Addr) (tb eol line : Str) (w : Int) (hw : 4 ≤ w) (hw2 : w ≤ 1000) (hl : line.length ≤ 1000) :
    ∀ (f : Nat) (st : Int) (ρ : Str → Option D) (ac : List D), 0 ≤ st → BeR la ma tb eol line w ρ st → (line.length : Int) - 1 - w < (beGo line w f st).2 → ac.length + f ≤ 10000 →
      ∃ ρ', BeR la ma tb eol line w ρ' (beGo line w f st).2 ∧ Whl c n (fS 20) (Cells 20) (some (la, ma)) (whT beW) (whB beW) ρ ac (.next ρ' (ac ++ (beGo line w f st).1.map D.str))
  | 0, st, ρ, ac, h0, R, hd, _ => by
    have hd' : (line.length : Int) - 1 - w < st := hd
    refine ⟨ρ, R, ?_⟩
    show Whl _ _ _ _ _ _ _ _ _ (.next ρ (ac ++ []))
    rw [List.append_nil]
    refine Whl.done (Tr.cmp (Ev.localName (by kernel_rfl) R.rstart (by kernel_rfl)) (Ev.localName (by kernel_rfl) R.rlast (by kernel_rfl)) ?_ (by kernel_rfl))
    have := Op2.leInt (c := c) (n := n) st (line.length - 1 - w)
    rwa [decide_eq_false (by omega)] at this
  | f + 1, st, ρ, ac, h0, R, hd, hac => by
    have hsz : sizeLine = 16777216 := sizeLine_eq
    by_cases hs : st ≤ (line.length : Int) - 1 - w
    · have tst : Op2 c n (compareOp .LtE) (.int st) (.int (line.length - 1 - w)) (.bool true) := by
        have := Op2.leInt (c := c) (n := n) st (line.length - 1 - w)
        rwa [decide_eq_true hs] at this
      have T1 : Tr c n (fS 20) ρ (whT beW) true := Tr.cmp (Ev.localName (by kernel_rfl) R.rstart (by kernel_rfl)) (Ev.localName (by kernel_rfl) R.rlast (by kernel_rfl)) tst (by kernel_rfl)
      let ρ1 := upd ρ "stop" (.int (st + (w - 1)))
      have R1 : BeR la ma tb eol line w ρ1 st := R.stop
      have s1 : ρ1 "stop" = some (.int (st + (w - 1))) := rfl
      have E1 : ∀ {p : Pos}, Ev c n (fS 20) ρ1 (.Name "stop" p) (.int (st + (w - 1))) := fun {p} => Ev.localName (by kernel_rfl) s1 (by kernel_rfl)
      have E2 : ∀ {p : Pos}, Ev c n (fS 20) ρ1 (.Name "start" p) (.int st) := fun {p} => Ev.localName (by kernel_rfl) R1.rstart (by kernel_rfl)
      have E3 : ∀ {p : Pos}, Ev c n (fS 20) ρ1 (.Name "line" p) (.str line) := fun {p} => Ev.localName (by kernel_rfl) R1.rline (by kernel_rfl)
      have t2 : ∀ b, (chAt line (st + (w - 1) - 2) == 61) = b → Op2 c n (compareOp .Eq) (.str ⟨#[chAt line (st + (w - 1) - 2)]⟩) (.str eqS) (.bool b) := fun b hb => by
        have := Op2.eqStr (c := c) (n := n) (chS (chAt line (st + (w - 1) - 2))) (chS 61)
        rw [chS_beq, hb] at this; exact this
      have t3 : ∀ b, (chAt line (st + (w - 1) - 1) == 61) = b → Op2 c n (compareOp .Eq) (.str ⟨#[chAt line (st + (w - 1) - 1)]⟩) (.str eqS) (.bool b) := fun b hb => by
        have := Op2.eqStr (c := c) (n := n) (chS (chAt line (st + (w - 1) - 1))) (chS 61)
        rw [chS_beq, hb] at this; exact this
      have i2 := idx_ch line (st + (w - 1) - 2) (by omega) (by omega)
      have i3 := idx_ch line (st + (w - 1) - 1) (by omega) (by omega)
      -- one turn
      have turn : ∀ (row : Str) (st' : Int), Exs c n (fS 20) (Cells 20) (some (la, ma)) ρ ac (whB beW) (.next (upd ρ1 "start" (.int st')) (ac ++ [.str row])) → 0 ≤ st' → (line.length : Int) - 1 - w < (beGo line w f st').2 → (beGo line w (f + 1) st) = (row :: (beGo line w f st').1, (beGo line w f st').2) →
          ∃ ρ', BeR la ma tb eol line w ρ' (beGo line w (f + 1) st).2 ∧ Whl c n (fS 20) (Cells 20) (some (la, ma)) (whT beW) (whB beW) ρ ac (.next ρ' (ac ++ (beGo line w (f + 1) st).1.map D.str)) := fun row st' hb h0' hd' he => by
        obtain ⟨ρ', R', W'⟩ := be_while la ma tb eol line w hw hw2 hl f st' (upd ρ1 "start" (.int st')) (ac ++ [.str row]) h0' R1.go hd' (by simp; omega)
        rw [he]
        refine ⟨ρ', R', Whl.next T1 hb ?_⟩
        simpa using W'
      by_cases c2 : (chAt line (st + (w - 1) - 2) == 61) = true
      · have he : beGo line w (f + 1) st = (cutS line (some st) (some (st + (w - 1) - 1)) :: (beGo line w f (st + (w - 1) - 2)).1, (beGo line w f (st + (w - 1) - 2)).2) := by
          rw [beGo, if_pos hs, if_pos c2]
        rw [he] at hd
        refine turn _ (st + (w - 1) - 2) ?_ (by omega) hd he
        refine Exs.cons (Ex.assign (Ev.binop (Ev.localName (by kernel_rfl) R.rstart (by kernel_rfl)) (Ev.localName (by kernel_rfl) R.rwl (by kernel_rfl)) (Op2.addInt _ _)) (.inl (by kernel_rfl)) (fun _ _ => rfl)) ?_
        refine Exs.cons (Ex.ifT (Tr.cmp (Ev.idxS E3 (Ev.binop E1 Ev.int (Op2.subInt _ _)) i2 (by omega) (by omega)) Ev.str (t2 _ c2) (by kernel_rfl)) ?_) Exs.nil
        refine Exs.cons (Ex.appendBy (by kernel_rfl) (by kernel_rfl) R1.rapp (by kernel_rfl) (Ev.sliceS E3 (l := some _) (u := some _) E2 (Ev.binop E1 Ev.int (Op2.subInt _ _)) (by omega)) (by omega)) ?_
        exact Exs.cons (Ex.assign (Ev.binop E1 Ev.int (Op2.subInt _ _)) (.inl (by kernel_rfl)) (fun _ _ => rfl)) Exs.nil
      · have c2' : (chAt line (st + (w - 1) - 2) == 61) = false := by simpa using c2
        by_cases c3 : (chAt line (st + (w - 1) - 1) == 61) = true
        · have he : beGo line w (f + 1) st = (cutS line (some st) (some (st + (w - 1))) :: (beGo line w f (st + (w - 1) - 1)).1, (beGo line w f (st + (w - 1) - 1)).2) := by
            rw [beGo, if_pos hs, if_neg c2, if_pos c3]
          rw [he] at hd
          refine turn _ (st + (w - 1) - 1) ?_ (by omega) hd he
          refine Exs.cons (Ex.assign (Ev.binop (Ev.localName (by kernel_rfl) R.rstart (by kernel_rfl)) (Ev.localName (by kernel_rfl) R.rwl (by kernel_rfl)) (Op2.addInt _ _)) (.inl (by kernel_rfl)) (fun _ _ => rfl)) ?_
          refine Exs.cons (Ex.ifF (Tr.cmp (Ev.idxS E3 (Ev.binop E1 Ev.int (Op2.subInt _ _)) i2 (by omega) (by omega)) Ev.str (t2 _ c2') (by kernel_rfl)) ?_) Exs.nil
          refine Exs.cons (Ex.ifT (Tr.cmp (Ev.idxS E3 (Ev.binop E1 Ev.int (Op2.subInt _ _)) i3 (by omega) (by omega)) Ev.str (t3 _ c3) (by kernel_rfl)) ?_) Exs.nil
          refine Exs.cons (Ex.appendBy (by kernel_rfl) (by kernel_rfl) R1.rapp (by kernel_rfl) (Ev.sliceS E3 (l := some _) (u := some _) E2 E1 (by omega)) (by omega)) ?_
          exact Exs.cons (Ex.assign (Ev.binop E1 Ev.int (Op2.subInt _ _)) (.inl (by kernel_rfl)) (fun _ _ => rfl)) Exs.nil
        · have c3' : (chAt line (st + (w - 1) - 1) == 61) = false := by simpa using c3
          have he : beGo line w (f + 1) st = ((cutS line (some st) (some (st + (w - 1))) ++ eqS) :: (beGo line w f (st + (w - 1))).1, (beGo line w f (st + (w - 1))).2) := by
            rw [beGo, if_pos hs, if_neg c2, if_neg c3]
          rw [he] at hd
          refine turn _ (st + (w - 1)) ?_ (by omega) hd he
          refine Exs.cons (Ex.assign (Ev.binop (Ev.localName (by kernel_rfl) R.rstart (by kernel_rfl)) (Ev.localName (by kernel_rfl) R.rwl (by kernel_rfl)) (Op2.addInt _ _)) (.inl (by kernel_rfl)) (fun _ _ => rfl)) ?_
          refine Exs.cons (Ex.ifF (Tr.cmp (Ev.idxS E3 (Ev.binop E1 Ev.int (Op2.subInt _ _)) i2 (by omega) (by omega)) Ev.str (t2 _ c2') (by kernel_rfl)) ?_) Exs.nil
          refine Exs.cons (Ex.ifF (Tr.cmp (Ev.idxS E3 (Ev.binop E1 Ev.int (Op2.subInt _ _)) i3 (by omega) (by omega)) Ev.str (t3 _ c3') (by kernel_rfl)) ?_) Exs.nil
          refine Exs.cons (Ex.appendBy (by kernel_rfl) (by kernel_rfl) R1.rapp (by kernel_rfl) (Ev.binop (Ev.sliceS E3 (l := some _) (u := some _) E2 E1 (by omega)) Ev.str (Op2.addStr _ eqS (by have := cutS_len line (some st) (some (st + (w - 1))); show _ + 1 ≤ _; omega))) (by omega)) ?_
          exact Exs.cons (Ex.assign E1 (.inl (by kernel_rfl)) (fun _ _ => rfl)) Exs.nil
    · have he : beGo line w (f + 1) st = ([], st) := by rw [beGo, if_neg hs]
      rw [he]
      refine ⟨ρ, R, ?_⟩
      show Whl _ _ _ _ _ _ _ _ _ (.next ρ (ac ++ []))
      rw [List.append_nil]
      refine Whl.done (Tr.cmp (Ev.localName (by kernel_rfl) R.rstart (by kernel_rfl)) (Ev.localName (by kernel_rfl) R.rlast (by kernel_rfl)) ?_ (by kernel_rfl))
      have := Op2.leInt (c := c) (n := n) st (line.length - 1 - w)
      rwa [decide_eq_false (by omega)] at this
end
end Qp
namespace Qp
open PySem PySem.Calls PyProof.Rows PySem.W
noncomputable def blankK (k : Nat) : Bool := k == 32 || k == 9
noncomputable def lastK (x : Str) : Nat := x.cps.toList.getLastD 0
/-- the last row -/
noncomputable def beLast (line eol : Str) (w st : Int) : Str :=
  if (line.length : Int) != 0 && blankK (lastK line) then
    cutS line (some st) (some (-1)) ++ (if 3 ≤ st - (line.length - 1 - w) then escS (lastK line) else if st - (line.length - 1 - w) == 2 then chS (lastK line) ++ (eqS ++ eol) else (eqS ++ eol) ++ escS (lastK line))
  else cutS line (some st) none
theorem found_blank (k : Nat) : (!(Builtin.Str.occurrences (⟨#[32, 9]⟩ : Str) ⟨#[k]⟩ 0 (⟨#[32, 9]⟩ : Str).length 1).isEmpty) = blankK k := by
  rw [StrLaws.found_one]
  unfold blankK
  rw [Bool.eq_iff_iff]; simp
theorem found_crlf (k : Nat) : (!(Builtin.Str.occurrences (⟨#[13, 10]⟩ : Str) ⟨#[k]⟩ 0 (⟨#[13, 10]⟩ : Str).length 1).isEmpty) = (k == 13 || k == 10) := by
  rw [StrLaws.found_one, Bool.eq_iff_iff]; simp
theorem last_ch (x : Str) (h : x.length ≠ 0) : idx? x.cps.toList (-1) = some (lastK x) := idx_last _ (by
  intro q; apply h; show x.cps.size = 0; rw [← Array.length_toList, q]; rfl) 0
theorem BeR.other {la ma : Addr} {tb eol line : Str} {w st : Int} {ρ : Str → Option D} {x : Str} {d : D} (hx : (["body", "eol", "soft_break", "maxlinelen1", "line", "encoded_body", "append", "start", "laststart"] : List Str).contains x = false) (h : BeR la ma tb eol line w ρ st) : BeR la ma tb eol line w (upd ρ x d) st := by
  have ne : ∀ y : Str, (["body", "eol", "soft_break", "maxlinelen1", "line", "encoded_body", "append", "start", "laststart"] : List Str).contains y = true → y ≠ x := fun y hy q => by rw [q, hx] at hy; cases hy
  exact ⟨upd_ne (ne _ (by decide +kernel)) h.rbody, upd_ne (ne _ (by decide +kernel)) h.reol, upd_ne (ne _ (by decide +kernel)) h.rsoft, upd_ne (ne _ (by decide +kernel)) h.rwl, upd_ne (ne _ (by decide +kernel)) h.rline, upd_ne (ne _ (by decide +kernel)) h.renc, upd_ne (ne _ (by decide +kernel)) h.rapp, upd_ne (ne _ (by decide +kernel)) h.rstart, upd_ne (ne _ (by decide +kernel)) h.rlast⟩
structure GFn (c : Cx) (x : Str) (v : Value) : Prop where
  mg : c.mg x = some v
  plain : Plain c v
noncomputable def Gs (c : Cx) (x : Str) (y : Str) : Prop := ∃ v, c.mg x = some v ∧ ∀ F : Addr → Prop, (∀ a, F a → c.hT.get? a = none) → Rep F c.hT v (.str y)
section
variable {c : Cx} {n : Nat}
theorem Ev.gs {sc : Scope} {ρ : Str → Option D} {x y : Str} {pos : Pos} (G : c.Good) (t : Gs c x y) (hl : sc.names.lookup x = some .globalImplicit) (hd : (x == ("__debug__" : Str)) = false) : Ev c n sc ρ (.Name x pos) (.str y) := by
  obtain ⟨v, hv, r⟩ := t
  exact Ev.asData (Ev.globalName G hl hv hd) r
theorem be_for (T : Tops c) (qv : Value) (Q : GFn c "quote" qv) (la ma : Addr) (tb eol line : Str) (w : Int) (f : Nat) (hw : 4 ≤ w) (hw2 : w ≤ 1000) (hl : line.length ≤ 1000) (he : eol.length ≤ 100) (hf : f ≤ 1000)
    (fq : lastK line < 256 → Fn c n qv [.str (chS (lastK line))] (.str (escS (lastK line)))) (hlk : lastK line < 256) (hd : (line.length : Int) - 1 - w < (beGo line w f 0).2)
    (ρ : Str → Option D) (h1 : ρ "body" = some (.str tb)) (h2 : ρ "eol" = some (.str eol)) (h3 : ρ "soft_break" = some (.str (eqS ++ eol))) (h4 : ρ "maxlinelen1" = some (.int (w - 1))) (h5 : ρ "maxlinelen" = some (.int w)) (h6 : ρ "encoded_body" = some (.val (.ref la))) (h7 : ρ "append" = some (.val (.ref ma))) :
    ∃ ρ', BeR la ma tb eol line w ρ' (beGo line w f 0).2 ∧ Exs c n (fS 20) (Cells 20) (some (la, ma)) (upds ρ ["line"] [.str line]) [] beF (.next ρ' ((beGo line w f 0).1.map D.str ++ [.str (beLast line eol w (beGo line w f 0).2)])) := by
  have hsz : sizeLine = 16777216 := sizeLine_eq
  let ρ0 := upd (upd (upds ρ ["line"] [.str line]) "start" (.int 0)) "laststart" (.int (line.length - 1 - w))
  have k0 : ∀ {x : Str} {d : D}, x ≠ "line" → x ≠ "start" → x ≠ "laststart" → ρ x = some d → ρ0 x = some d := fun n1 n2 n3 e => upd_ne n3 (upd_ne n2 (upd_ne n1 e))
  have R0 : BeR la ma tb eol line w ρ0 0 := ⟨k0 (by decide +kernel) (by decide +kernel) (by decide +kernel) h1, k0 (by decide +kernel) (by decide +kernel) (by decide +kernel) h2, k0 (by decide +kernel) (by decide +kernel) (by decide +kernel) h3, k0 (by decide +kernel) (by decide +kernel) (by decide +kernel) h4, rfl, k0 (by decide +kernel) (by decide +kernel) (by decide +kernel) h6, k0 (by decide +kernel) (by decide +kernel) (by decide +kernel) h7, rfl, rfl⟩
  obtain ⟨ρ1, R1, W⟩ := be_while (c := c) (n := n) la ma tb eol line w hw hw2 hl f 0 ρ0 [] (by omega) R0 hd (by simp; omega)
  have hgl : (beGo line w f 0).1.length ≤ 1000 := by
    have : ∀ f st, (beGo line w f st).1.length ≤ f := by
      intro f
      induction f with
      | zero => intro st; simp [beGo]
      | succ f ih =>
        intro st
        rw [beGo]
        split
        · split
          · simpa using ih _
          · split
            · simpa using ih _
            · simpa using ih _
        · simp
    exact Nat.le_trans (this f 0) hf
  rw [List.nil_append] at W
  generalize beGo line w f 0 = G at *
  obtain ⟨rows, st⟩ := G
  dsimp only at *
  have E3 : ∀ {p : Pos}, Ev c n (fS 20) ρ1 (.Name "line" p) (.str line) := fun {p} => Ev.localName (by kernel_rfl) R1.rline (by kernel_rfl)
  have stmts : ∀ {out : Out}, Exs c n (fS 20) (Cells 20) (some (la, ma)) ρ1 (rows.map D.str) (beF.tail.tail.tail) out → Exs c n (fS 20) (Cells 20) (some (la, ma)) (upds ρ ["line"] [.str line]) [] beF out := fun {out} h => by
    refine Exs.cons (Ex.assign Ev.int (.inl (by kernel_rfl)) (fun _ _ => rfl)) ?_
    refine Exs.cons (Ex.assign (d := .int (line.length - 1 - w)) (Ev.binop (Ev.binop (Ev.call (Ev.bi T.good T.len (by kernel_rfl) (by kernel_rfl)) trivial (Evs.cons (d := .str line) (Ev.localName (by kernel_rfl) rfl (by kernel_rfl)) Evs.nil) (Fn.lenStr line (by omega))) Ev.int (Op2.subInt _ _)) (Ev.localName (by kernel_rfl) (upd_ne (by decide +kernel) (upds1_ne h5 (by decide +kernel))) (by kernel_rfl)) (Op2.subInt _ _)) (.inl (by kernel_rfl)) (fun _ _ => rfl)) ?_
    exact Exs.cons (Ex.while W) h
  have tl : ∀ b, ((line.length : Int) != 0) = b → Tru c n (.str line) b := fun b hb => hb ▸ Tru.str line (by omega)
  have tin : ∀ b, blankK (lastK line) = b → Op2 c n (compareOp .In) (.str (chS (lastK line))) (.str ⟨#[32, 9]⟩) (.bool b) := fun b hb => by
    have := Op2.inStr (c := c) (n := n) (chS (lastK line)) ⟨#[32, 9]⟩
    rw [show chS (lastK line) = ⟨#[lastK line]⟩ from rfl, found_blank, hb] at this
    exact this
  have hcl := cutS_len line (some st) (some (-1))
  by_cases hz : ((line.length : Int) != 0) = true
  · have hne : line.length ≠ 0 := by intro q; rw [q] at hz; simp at hz
    have il := last_ch line hne
    by_cases hb : blankK (lastK line) = true
    · have eL : beLast line eol w st = cutS line (some st) (some (-1)) ++ (if 3 ≤ st - (line.length - 1 - w) then escS (lastK line) else if st - (line.length - 1 - w) == 2 then chS (lastK line) ++ (eqS ++ eol) else (eqS ++ eol) ++ escS (lastK line)) := by
        unfold beLast; rw [hz, hb]; rfl
      rw [eL]
      let ρ2 := upd ρ1 "room" (.int (st - (line.length - 1 - w)))
      have R2 : BeR la ma tb eol line w ρ2 st := R1.other (by decide +kernel)
      have E3' : ∀ {p : Pos}, Ev c n (fS 20) ρ2 (.Name "line" p) (.str line) := fun {p} => Ev.localName (by kernel_rfl) R2.rline (by kernel_rfl)
      have rm : ρ2 "room" = some (.int (st - (line.length - 1 - w))) := rfl
      have ge3 : ∀ b, decide (3 ≤ st - (line.length - 1 - w)) = b → Op2 c n (compareOp .GtE) (.int (st - (line.length - 1 - w))) (.int 3) (.bool b) := fun b hb => hb ▸ Op2.geInt _ _
      have eq2 : ∀ b, ((st - (line.length - 1 - w)) == 2) = b → Op2 c n (compareOp .Eq) (.int (st - (line.length - 1 - w))) (.int 2) (.bool b) := fun b hb => hb ▸ Op2.eqInt _ _
      have last1 : ∀ q : Str, q.length ≤ 1000 → Ev c n (fS 20) (upd ρ2 "q" (.str q)) (.BinOp (.Subscript (.Name "line" ⟨59, 19, 59, 23⟩) (.Slice (some (.Name "start" ⟨59, 24, 59, 29⟩)) (some (.UnaryOp .USub (.Constant (.int 1) 0 ⟨59, 31, 59, 32⟩) ⟨59, 30, 59, 32⟩)) none ⟨59, 24, 59, 32⟩) ⟨59, 19, 59, 33⟩) .Add (.Name "q" ⟨59, 36, 59, 37⟩) ⟨59, 19, 59, 37⟩) (.str (cutS line (some st) (some (-1)) ++ q)) := fun q hq => by
        have R3 : BeR la ma tb eol line w (upd ρ2 "q" (.str q)) st := R2.other (by decide +kernel)
        exact Ev.binop (Ev.sliceS (Ev.localName (by kernel_rfl) R3.rline (by kernel_rfl)) (l := some st) (u := some (-1)) (Ev.localName (by kernel_rfl) R3.rstart (by kernel_rfl)) (Ev.unary Ev.int (Op1.neg 1)) (by omega)) (Ev.localName (by kernel_rfl) rfl (by kernel_rfl)) (Op2.addStr _ _ (by omega))
      have heq : eqS.length = 1 := rfl
      have hes : (escS (lastK line)).length = 3 := rfl
      have hch : (chS (lastK line)).length = 1 := rfl
      have lap : ∀ a b : Str, (a ++ b).length = a.length + b.length := Str.length_append
      by_cases c3 : 3 ≤ st - (line.length - 1 - w)
      · rw [if_pos c3]
        refine ⟨upd ρ2 "q" (.str (escS (lastK line))), R2.other (by decide +kernel), stmts ?_⟩
        refine Exs.cons (Ex.ifT (Tr.and2 (Tr.value E3 (tl _ hz) (fun _ _ => rfl)) fun _ => Tr.cmp (Ev.idxS E3 (Ev.unary Ev.int (Op1.neg 1)) il (by decide) (by decide)) Ev.str (tin _ hb) (by kernel_rfl)) ?_) Exs.nil
        refine Exs.cons (Ex.assign (Ev.binop (Ev.localName (by kernel_rfl) R1.rstart (by kernel_rfl)) (Ev.localName (by kernel_rfl) R1.rlast (by kernel_rfl)) (Op2.subInt _ _)) (.inl (by kernel_rfl)) (fun _ _ => rfl)) ?_
        refine Exs.cons (Ex.ifT (Tr.cmp (Ev.localName (by kernel_rfl) rm (by kernel_rfl)) Ev.int (ge3 _ (decide_eq_true c3)) (by kernel_rfl)) (Exs.cons (Ex.assign (Ev.call (Ev.globalName T.good (by kernel_rfl) Q.mg (by kernel_rfl)) Q.plain (Evs.cons (Ev.idxS E3' (Ev.unary Ev.int (Op1.neg 1)) il (by decide) (by decide)) Evs.nil) (fq hlk)) (.inl (by kernel_rfl)) (fun _ _ => rfl)) Exs.nil)) ?_
        exact Exs.cons (Ex.appendBy (by kernel_rfl) (by kernel_rfl) (R2.other (by decide +kernel)).rapp (by kernel_rfl) (last1 _ (by omega)) (by simp; omega)) Exs.nil
      · rw [if_neg c3]
        by_cases c2 : ((st - (line.length - 1 - w)) == 2) = true
        · rw [if_pos c2]
          refine ⟨upd ρ2 "q" (.str (chS (lastK line) ++ (eqS ++ eol))), R2.other (by decide +kernel), stmts ?_⟩
          refine Exs.cons (Ex.ifT (Tr.and2 (Tr.value E3 (tl _ hz) (fun _ _ => rfl)) fun _ => Tr.cmp (Ev.idxS E3 (Ev.unary Ev.int (Op1.neg 1)) il (by decide) (by decide)) Ev.str (tin _ hb) (by kernel_rfl)) ?_) Exs.nil
          refine Exs.cons (Ex.assign (Ev.binop (Ev.localName (by kernel_rfl) R1.rstart (by kernel_rfl)) (Ev.localName (by kernel_rfl) R1.rlast (by kernel_rfl)) (Op2.subInt _ _)) (.inl (by kernel_rfl)) (fun _ _ => rfl)) ?_
          refine Exs.cons (Ex.ifF (Tr.cmp (Ev.localName (by kernel_rfl) rm (by kernel_rfl)) Ev.int (ge3 _ (decide_eq_false c3)) (by kernel_rfl)) (Exs.cons (Ex.ifT (Tr.cmp (Ev.localName (by kernel_rfl) rm (by kernel_rfl)) Ev.int (eq2 _ c2) (by kernel_rfl)) (Exs.cons (Ex.assign (Ev.binop (Ev.idxS E3' (Ev.unary Ev.int (Op1.neg 1)) il (by decide) (by decide)) (Ev.localName (by kernel_rfl) R2.rsoft (by kernel_rfl)) (Op2.addStr (chS (lastK line)) _ (by rw [lap]; omega))) (.inl (by kernel_rfl)) (fun _ _ => rfl)) Exs.nil)) Exs.nil)) ?_
          exact Exs.cons (Ex.appendBy (by kernel_rfl) (by kernel_rfl) (R2.other (by decide +kernel)).rapp (by kernel_rfl) (last1 _ (by rw [lap, lap]; omega)) (by simp; omega)) Exs.nil
        · have c2' : ((st - (line.length - 1 - w)) == 2) = false := by simpa using c2
          rw [if_neg c2]
          refine ⟨upd ρ2 "q" (.str ((eqS ++ eol) ++ escS (lastK line))), R2.other (by decide +kernel), stmts ?_⟩
          refine Exs.cons (Ex.ifT (Tr.and2 (Tr.value E3 (tl _ hz) (fun _ _ => rfl)) fun _ => Tr.cmp (Ev.idxS E3 (Ev.unary Ev.int (Op1.neg 1)) il (by decide) (by decide)) Ev.str (tin _ hb) (by kernel_rfl)) ?_) Exs.nil
          refine Exs.cons (Ex.assign (Ev.binop (Ev.localName (by kernel_rfl) R1.rstart (by kernel_rfl)) (Ev.localName (by kernel_rfl) R1.rlast (by kernel_rfl)) (Op2.subInt _ _)) (.inl (by kernel_rfl)) (fun _ _ => rfl)) ?_
          refine Exs.cons (Ex.ifF (Tr.cmp (Ev.localName (by kernel_rfl) rm (by kernel_rfl)) Ev.int (ge3 _ (decide_eq_false c3)) (by kernel_rfl)) (Exs.cons (Ex.ifF (Tr.cmp (Ev.localName (by kernel_rfl) rm (by kernel_rfl)) Ev.int (eq2 _ c2') (by kernel_rfl)) (Exs.cons (Ex.assign (Ev.binop (Ev.localName (by kernel_rfl) R2.rsoft (by kernel_rfl)) (Ev.call (Ev.globalName T.good (by kernel_rfl) Q.mg (by kernel_rfl)) Q.plain (Evs.cons (Ev.idxS E3' (Ev.unary Ev.int (Op1.neg 1)) il (by decide) (by decide)) Evs.nil) (fq hlk)) (Op2.addStr _ _ (by rw [lap]; omega))) (.inl (by kernel_rfl)) (fun _ _ => rfl)) Exs.nil)) Exs.nil)) ?_
          exact Exs.cons (Ex.appendBy (by kernel_rfl) (by kernel_rfl) (R2.other (by decide +kernel)).rapp (by kernel_rfl) (last1 _ (by rw [lap, lap]; omega)) (by simp; omega)) Exs.nil
    · have hb' : blankK (lastK line) = false := by simpa using hb
      have eL : beLast line eol w st = cutS line (some st) none := by unfold beLast; rw [hz, hb']; rfl
      rw [eL]
      refine ⟨ρ1, R1, stmts ?_⟩
      refine Exs.cons (Ex.ifF (Tr.and2 (Tr.value E3 (tl _ hz) (fun _ _ => rfl)) fun _ => Tr.cmp (Ev.idxS E3 (Ev.unary Ev.int (Op1.neg 1)) il (by decide) (by decide)) Ev.str (tin _ hb') (by kernel_rfl)) ?_) Exs.nil
      exact Exs.cons (Ex.appendBy (by kernel_rfl) (by kernel_rfl) R1.rapp (by kernel_rfl) (Ev.sliceS E3 (l := some st) (u := none) (Ev.localName (by kernel_rfl) R1.rstart (by kernel_rfl)) trivial (by omega)) (by simp; omega)) Exs.nil
  · have hz' : ((line.length : Int) != 0) = false := by simpa using hz
    have eL : beLast line eol w st = cutS line (some st) none := by unfold beLast; rw [hz']; rfl
    rw [eL]
    refine ⟨ρ1, R1, stmts ?_⟩
    refine Exs.cons (Ex.ifF (Tr.andF (Tr.value E3 (tl _ hz') (fun _ _ => rfl))) ?_) Exs.nil
    exact Exs.cons (Ex.appendBy (by kernel_rfl) (by kernel_rfl) R1.rapp (by kernel_rfl) (Ev.sliceS E3 (l := some st) (u := none) (Ev.localName (by kernel_rfl) R1.rstart (by kernel_rfl)) trivial (by omega)) (by simp; omega)) Exs.nil
end
end Qp
namespace Qp
open PySem PySem.Calls PyProof.Rows PySem.W
noncomputable def encT (body : Str) : Str := ⟨(trans mapEnc body.cps.toList).toArray⟩
noncomputable def beRows (line eol : Str) (w : Int) (f : Nat) : List Str := (beGo line w f 0).1 ++ [beLast line eol w (beGo line w f 0).2]
noncomputable def beOut (tb line eol : Str) (w : Int) (f : Nat) : Str := Txt.join eol (beRows line eol w f ++ if lastK tb == 13 || lastK tb == 10 then [⟨#[]⟩] else [])
theorem mapEnc_len : ∀ y ∈ mapEnc, y.length ≤ 3 := by decide +kernel
theorem mapEnc_size : mapEnc.length = 256 := by simp [mapEnc]
section
variable {c : Cx} {n : Nat}
theorem x_body_encode (T : Tops c) (B : Tabs c) (CR : Gs c "CRLF" ⟨#[13, 10]⟩) (qv : Value) (Q : GFn c "quote" qv) (body line eol : Str) (w : Int) (f : Nat) (hw : 4 ≤ w) (hw2 : w ≤ 1000) (hb0 : body.length ≠ 0) (hb : body.length ≤ 300) (hbk : ∀ k ∈ body.cps.toList, k < 256) (he : eol.length ≤ 100) (hf : f ≤ 1000)
    (hl : linesOf (encT body) = [line]) (hcut : (lineCuts (encT body)).length ≤ sizeLine) (hl2 : line.length ≤ 1000) (ht0 : (encT body).length ≠ 0)
    (fq : lastK line < 256 → Fn c n qv [.str (chS (lastK line))] (.str (escS (lastK line)))) (hlk : lastK line < 256) (hd : (line.length : Int) - 1 - w < (beGo line w f 0).2)
    (hj : JoinOk eol (beRows line eol w f ++ if lastK (encT body) == 13 || lastK (encT body) == 10 then [⟨#[]⟩] else []) = true) :
    Exs c n (fS 20) (Cells 20) none (upds (fun _ => none) ["body", "maxlinelen", "eol"] [.str body, .int w, .str eol]) [] (fB 20) (.ret (.str (beOut (encT body) line eol w f))) := by
  have hsz : sizeLine = 16777216 := sizeLine_eq
  have h63 : (body.length : Int) < 2 ^ 63 := by omega
  have htl : (encT body).length ≤ 1000 := by
    show (trans mapEnc body.cps.toList).toArray.size ≤ 1000
    have := trans_len mapEnc_len body.cps.toList
    have e : body.cps.toList.length = body.length := by simp [Str.length]
    rw [List.size_toArray]; omega
  refine Exs.cons (Ex.ifF (Tr.cmp (Ev.localName (by kernel_rfl) rfl (by kernel_rfl)) Ev.int (by
    have := Op2.ltInt (c := c) (n := n) w 4
    rwa [decide_eq_false (by omega)] at this) (by kernel_rfl)) Exs.nil) ?_
  refine Exs.cons (Ex.ifF (Tr.not (b := true) (Tr.value (Ev.localName (by kernel_rfl) rfl (by kernel_rfl)) (by
    have := Tru.str (c := c) (n := n) body h63
    rwa [show ((body.length : Int) != 0) = true by simpa using hb0] at this) (fun _ _ => rfl))) Exs.nil) ?_
  refine Exs.cons (Ex.assign (Ev.meth1 (Ev.localName (by kernel_rfl) rfl (by kernel_rfl)) (Ev.tab T.good B.enc (by kernel_rfl) (by kernel_rfl)) mTranslate (Fn.translate body mapEnc hb0 mapEnc_len (by rw [mapEnc_size]; exact hbk) (by omega) (by rw [mapEnc_size]; decide)) (fun _ => rfl) (by kernel_rfl)) (.inl (by kernel_rfl)) (fun _ _ => rfl)) ?_
  refine Exs.cons (Ex.assign (Ev.binop (Ev.str (x := eqS)) (Ev.localName (by kernel_rfl) rfl (by kernel_rfl)) (Op2.addStr eqS eol (by show 1 + _ ≤ _; omega))) (.inl (by kernel_rfl)) (fun _ _ => rfl)) ?_
  refine Exs.cons (Ex.assign (Ev.binop (Ev.localName (by kernel_rfl) rfl (by kernel_rfl)) Ev.int (Op2.subInt _ _)) (.inl (by kernel_rfl)) (fun _ _ => rfl)) ?_
  refine Exs.openAcc (by kernel_rfl) (by kernel_rfl) (by kernel_rfl) (fun _ => rfl) (fun _ => rfl) fun la ma => ?_
  obtain ⟨ρ', R, X⟩ := be_for (c := c) (n := n) T qv Q la ma (encT body) eol line w f hw hw2 hl2 he hf fq hlk hd
    (upd (upd (upd (upd (upd (upds (fun _ => none) ["body", "maxlinelen", "eol"] [.str body, .int w, .str eol]) "body" (.str (encT body))) "soft_break" (.str (eqS ++ eol))) "maxlinelen1" (.int (w - 1))) "encoded_body" (.val (.ref la))) "append" (.val (.ref ma))) rfl rfl rfl rfl rfl rfl rfl
  refine Exs.cons (Ex.for (rows := [[.str line]]) (Tgt.name _ _) ?_ (by intro x hx; rw [List.mem_singleton.mp hx]; exact .inl (by kernel_rfl)) (by intro row hr; rw [List.mem_singleton.mp hr]; rfl) (.inl ⟨ρ', _, .inl X, rfl⟩)) ?_
  · have := ItEv.list (x := "line") (px := ⟨37, 8, 37, 12⟩) (Ev.meth0 (c := c) (n := n) (Ev.localName (x := "body") (pos := ⟨37, 16, 37, 20⟩) (sc := fS 20) (ρ := (upd (upd (upd (upd (upd (upds (fun _ => none) ["body", "maxlinelen", "eol"] [.str body, .int w, .str eol]) "body" (.str (encT body))) "soft_break" (.str (eqS ++ eol))) "maxlinelen1" (.int (w - 1))) "encoded_body" (.val (.ref la))) "append" (.val (.ref ma)))) (by kernel_rfl) rfl (by kernel_rfl)) mSplitlines (Fn.splitlines (encT body) (by omega) hcut) (apos := ⟨37, 16, 37, 31⟩) (pos := ⟨37, 16, 37, 33⟩) (fun _ => rfl) (by kernel_rfl))
    rw [hl] at this
    exact this
  have tin : ∀ b, (lastK (encT body) == 13 || lastK (encT body) == 10) = b → Op2 c n (compareOp .In) (.str (chS (lastK (encT body)))) (.str ⟨#[13, 10]⟩) (.bool b) := fun b hb => by
    have := Op2.inStr (c := c) (n := n) (chS (lastK (encT body))) ⟨#[13, 10]⟩
    rw [show chS (lastK (encT body)) = ⟨#[lastK (encT body)]⟩ from rfl, found_crlf, hb] at this
    exact this
  have il := last_ch (encT body) ht0
  have fin : ∀ ac : List Str, JoinOk eol ac = true → Exs c n (fS 20) (Cells 20) (some (la, ma)) ρ' (ac.map D.str) ((fB 20).drop 9) (.ret (.str (Txt.join eol ac))) := fun ac hj => by
    refine Exs.ret (Ex.retAcc R.renc (Ev.meth1 (Ev.localName (by kernel_rfl) (upd_ne (by decide +kernel) R.reol) (by kernel_rfl)) (Ev.localName (by kernel_rfl) rfl (by kernel_rfl)) mJoin (Fn.join _ _ hj) (fun _ => rfl) (by kernel_rfl)))
  have hrl : (beRows line eol w f).length ≤ 10000 := by
    unfold beRows
    have : ∀ f st, (beGo line w f st).1.length ≤ f := by
      intro f
      induction f with
      | zero => intro st; simp [beGo]
      | succ f ih =>
        intro st
        rw [beGo]
        split
        · split
          · simpa using ih _
          · split
            · simpa using ih _
            · simpa using ih _
        · simp
    have := this f 0
    simp; omega
  have er : (beGo line w f 0).1.map D.str ++ [D.str (beLast line eol w (beGo line w f 0).2)] = (beRows line eol w f).map D.str := by unfold beRows; simp
  rw [er]
  unfold beOut
  cases hb : (lastK (encT body) == 13 || lastK (encT body) == 10) with
  | true =>
    rw [hb] at hj
    refine Exs.cons (Ex.ifT (Tr.cmp (Ev.idxS (Ev.localName (by kernel_rfl) R.rbody (by kernel_rfl)) (Ev.unary Ev.int (Op1.neg 1)) il (by decide) (by decide)) (Ev.gs T.good CR (by kernel_rfl) (by kernel_rfl)) (tin _ hb) (by kernel_rfl)) (Exs.cons (Ex.appendBy (by kernel_rfl) (by kernel_rfl) R.rapp (by kernel_rfl) (Ev.str (x := ⟨#[]⟩)) (by simp; omega)) Exs.nil)) ?_
    have := fin (beRows line eol w f ++ [⟨#[]⟩]) (by simpa using hj)
    rw [List.map_append] at this
    exact this
  | false =>
    rw [hb] at hj
    refine Exs.cons (Ex.ifF (Tr.cmp (Ev.idxS (Ev.localName (by kernel_rfl) R.rbody (by kernel_rfl)) (Ev.unary Ev.int (Op1.neg 1)) il (by decide) (by decide)) (Ev.gs T.good CR (by kernel_rfl) (by kernel_rfl)) (tin _ hb) (by kernel_rfl)) Exs.nil) ?_
    have := fin (beRows line eol w f) (by simpa using hj)
    rw [show (beRows line eol w f ++ if false = true then [⟨#[]⟩] else []) = beRows line eol w f from List.append_nil _]
    exact this
/-- the empty text stays empty -/
theorem x_body_encode_nil (eol : Str) (w : Int) (hw : 4 ≤ w) :
    Exs c n (fS 20) (Cells 20) none (upds (fun _ => none) ["body", "maxlinelen", "eol"] [.str ⟨#[]⟩, .int w, .str eol]) [] (fB 20) (.ret (.str ⟨#[]⟩)) := by
  refine Exs.cons (Ex.ifF (Tr.cmp (Ev.localName (by kernel_rfl) rfl (by kernel_rfl)) Ev.int (by
    have := Op2.ltInt (c := c) (n := n) w 4
    rwa [decide_eq_false (by omega)] at this) (by kernel_rfl)) Exs.nil) ?_
  exact Exs.ret (Ex.ifT (Tr.not (b := false) (Tr.value (Ev.localName (by kernel_rfl) rfl (by kernel_rfl)) (Tru.str ⟨#[]⟩ (by decide)) (fun _ _ => rfl))) (Exs.ret (Ex.retE (Ev.localName (by kernel_rfl) rfl (by kernel_rfl)))))
end
end Qp
namespace Qp
open PySem PySem.Calls PyProof.Rows PySem.W
noncomputable def dcF : List Stmt := forB ((fB 21).getD 2 (.Pass ⟨0,0,0,0⟩))
noncomputable def dcW : Stmt := dcF.getD 4 (.Pass ⟨0,0,0,0⟩)
noncomputable def mkS (l : List Nat) : Str := ⟨l.toArray⟩
/-- a sign of a written row: an octet, bare or escaped -/
noncomputable def tokT (p : Nat × Bool) : List Nat := if p.2 then [61, hexC (p.1 / 16), hexC (p.1 % 16)] else [p.1]
noncomputable def toksT (l : List (Nat × Bool)) : List Nat := l.flatMap tokT
noncomputable def tokOK (p : Nat × Bool) : Prop := if p.2 then p.1 < 256 else p.1 ≠ 61
noncomputable def softL (b : Bool) : List Nat := if b then [61] else []
/-- what a row's signs are read as -/
noncomputable def readL (eol : List Nat) (toks : List (Nat × Bool)) (soft : Bool) : List Nat := toks.map (·.1) ++ if soft then [] else eol
noncomputable def hexD : Str := mkS [48, 49, 50, 51, 52, 53, 54, 55, 56, 57, 97, 98, 99, 100, 101, 102, 65, 66, 67, 68, 69, 70]
structure DcR (enc eol : Str) (L : List Nat) (ρ : Str → Option D) (i : Nat) (dec : List Nat) : Prop where
  renc : ρ "encoded" = some (.str enc)
  reol : ρ "eol" = some (.str eol)
  rline : ρ "line" = some (.str (mkS L))
  rn : ρ "n" = some (.int L.length)
  ri : ρ "i" = some (.int i)
  rdec : ρ "decoded" = some (.str (mkS dec))
section
variable {enc eol : Str} {L : List Nat} {ρ : Str → Option D} {i : Nat} {dec : List Nat}
theorem DcR.c {d : D} (h : DcR enc eol L ρ i dec) : DcR enc eol L (upd ρ "c" d) i dec :=
  ⟨upd_ne (by decide +kernel) h.renc, upd_ne (by decide +kernel) h.reol, upd_ne (by decide +kernel) h.rline, upd_ne (by decide +kernel) h.rn, upd_ne (by decide +kernel) h.ri, upd_ne (by decide +kernel) h.rdec⟩
theorem DcR.goI {j : Nat} (h : DcR enc eol L ρ i dec) : DcR enc eol L (upd ρ "i" (.int j)) j dec :=
  ⟨upd_ne (by decide +kernel) h.renc, upd_ne (by decide +kernel) h.reol, upd_ne (by decide +kernel) h.rline, upd_ne (by decide +kernel) h.rn, rfl, upd_ne (by decide +kernel) h.rdec⟩
theorem DcR.d {dec' : List Nat} (h : DcR enc eol L ρ i dec) : DcR enc eol L (upd ρ "decoded" (.str (mkS dec'))) i dec' :=
  ⟨upd_ne (by decide +kernel) h.renc, upd_ne (by decide +kernel) h.reol, upd_ne (by decide +kernel) h.rline, upd_ne (by decide +kernel) h.rn, upd_ne (by decide +kernel) h.ri, rfl⟩
end
theorem mkS_append (a b : List Nat) : mkS a ++ mkS b = mkS (a ++ b) := Str.ext' (by show a.toArray ++ b.toArray = (a ++ b).toArray; simp)
theorem mkS_len (a : List Nat) : (mkS a).length = a.length := by show a.toArray.size = _; simp
theorem mkS_of (x : Str) : mkS x.cps.toList = x := Str.ext' (by simp [mkS])
theorem mkS_list (a : List Nat) : (mkS a).cps.toList = a := rfl
theorem idx_mk (pre : List Nat) (k : Nat) (rest : List Nat) (L : List Nat) (hL : L = pre ++ k :: rest) (i : Int) (hi : i = pre.length) : idx? (mkS L).cps.toList i = some k := by
  refine idx_nat _ _ pre.length _ hi ?_
  rw [mkS_list, hL]; simp
theorem hexC_in (d : Nat) (h : d < 16) : hexC d ∈ hexD.cps.toList := by
  have : ∀ d : Fin 16, hexC d.1 ∈ hexD.cps.toList := by decide +kernel
  exact this ⟨d, h⟩
theorem cut_mk (pre mid rest : List Nat) (i j : Int) (hi : i = pre.length) (hj : j = (pre.length + mid.length : Nat)) : cutS (mkS (pre ++ mid ++ rest)) (some i) (some j) = mkS mid := by
  unfold cutS
  rw [pick_plain, mkS_list]
  subst hi; subst hj
  have h1 : clipAt (pre ++ mid ++ rest).length (pre.length : Int) = pre.length := by have := clipAt_cast (pre ++ mid ++ rest).length (pre.length : Int); simp only [List.length_append] at *; omega
  have h2 : clipAt (pre ++ mid ++ rest).length ((pre.length + mid.length : Nat) : Int) = pre.length + mid.length := by have := clipAt_cast (pre ++ mid ++ rest).length ((pre.length + mid.length : Nat) : Int); simp only [List.length_append] at *; omega
  simp only [Option.elim, h1, h2]
  rw [List.append_assoc, List.drop_left, Nat.add_sub_cancel_left, List.take_left]
  rfl
theorem cut_mk0 (mid rest : List Nat) (j : Int) (hj : j = (mid.length : Nat)) : cutS (mkS (mid ++ rest)) none (some j) = mkS mid := by
  unfold cutS
  rw [pick_plain, mkS_list]
  subst hj
  have h2 : clipAt (mid ++ rest).length (mid.length : Int) = mid.length := by have := clipAt_cast (mid ++ rest).length (mid.length : Int); simp only [List.length_append] at *; omega
  simp only [Option.elim, h2]
  rw [List.drop_zero, Nat.sub_zero, List.take_left]
  rfl
section
variable {c : Cx} {n : Nat}
theorem dc_while (T : Tops c) (HX : Gs c "hexdigits" hexD) (uv : Value) (U : GFn c "unquote" uv) (fu : ∀ k, k < 256 → Fn c n uv [.str (escS k)] (.str (chS k))) (enc : Str) (eol : List Nat) (L : List Nat) (hL : L.length ≤ 10000) (soft : Bool) :
    ∀ (toks : List (Nat × Bool)) (pre : List Nat) (dec : List Nat) (ρ : Str → Option D), DcR enc (mkS eol) L ρ pre.length dec → L = pre ++ (toksT toks ++ softL soft) → (toks ≠ [] ∨ soft = true ∨ True) → (∀ p ∈ toks, tokOK p) → dec.length + toks.length + eol.length ≤ 100000 →
      ∃ ρ', DcR enc (mkS eol) L ρ' L.length (dec ++ if toks = [] then [] else readL eol toks soft) ∧ Whl c n (fS 21) (Cells 21) none (whT dcW) (whB dcW) ρ [] (.next ρ' [])
  | [], pre, dec, ρ, R, hLe, _, _, hsz => by
    have hline : sizeLine = 16777216 := sizeLine_eq
    simp only [if_true, List.append_nil]
    cases soft with
    | false =>
      have e : L = pre := by rw [hLe]; simp [toksT, softL]
      subst e
      refine ⟨ρ, R, Whl.done (Tr.cmp (Ev.localName (by kernel_rfl) R.ri (by kernel_rfl)) (Ev.localName (by kernel_rfl) R.rn (by kernel_rfl)) ?_ (by kernel_rfl))⟩
      have := Op2.ltInt (c := c) (n := n) (L.length : Int) L.length
      rwa [decide_eq_false (by omega)] at this
    | true =>
      have e : L = pre ++ [61] := by rw [hLe]; simp [toksT, softL]
      have eln : L.length = pre.length + 1 := by rw [e]; simp
      have R1 : DcR enc (mkS eol) L (upd ρ "c" (.str (chS 61))) pre.length dec := R.c
      have R2 : DcR enc (mkS eol) L (upd (upd ρ "c" (.str (chS 61))) "i" (.int ((pre.length : Int) + 1))) L.length dec := by
        have := R1.goI (j := L.length)
        rwa [show ((L.length : Nat) : Int) = (pre.length : Int) + 1 by omega] at this
      refine ⟨_, R2, Whl.cont ?_ ?_ (Whl.done (Tr.cmp (Ev.localName (by kernel_rfl) R2.ri (by kernel_rfl)) (Ev.localName (by kernel_rfl) R2.rn (by kernel_rfl)) ?_ (by kernel_rfl)))⟩
      · refine Tr.cmp (Ev.localName (by kernel_rfl) R.ri (by kernel_rfl)) (Ev.localName (by kernel_rfl) R.rn (by kernel_rfl)) ?_ (by kernel_rfl)
        have := Op2.ltInt (c := c) (n := n) (pre.length : Int) L.length
        rwa [decide_eq_true (by omega)] at this
      · refine Exs.cons (Ex.assign (Ev.idxS (Ev.localName (by kernel_rfl) R.rline (by kernel_rfl)) (Ev.localName (by kernel_rfl) R.ri (by kernel_rfl)) (idx_mk pre 61 [] L e _ rfl) (by omega) (by omega)) (.inl (by kernel_rfl)) (fun _ _ => rfl)) ?_
        refine Exs.cont (Ex.ifF (Tr.cmp (Ev.localName (by kernel_rfl) rfl (by kernel_rfl)) (Ev.str (x := eqS)) (by
          have := Op2.neStr (c := c) (n := n) (chS 61) eqS
          rwa [show (chS 61 != eqS) = false by decide] at this) (by kernel_rfl)) ?_)
        refine Exs.cont (Ex.ifT (Tr.cmp (Ev.binop (Ev.localName (by kernel_rfl) R1.ri (by kernel_rfl)) Ev.int (Op2.addInt _ _)) (Ev.localName (by kernel_rfl) R1.rn (by kernel_rfl)) (by
          have := Op2.eqInt (c := c) (n := n) ((pre.length : Int) + 1) L.length
          rwa [show (((pre.length : Int) + 1) == (L.length : Int)) = true by rw [beq_iff_eq]; omega] at this) (by kernel_rfl)) ?_)
        refine Exs.cons (Ex.aug (by kernel_rfl) R1.ri Ev.int (Op2.iaddInt _ _)) ?_
        exact Exs.cont Ex.contE
      · have := Op2.ltInt (c := c) (n := n) (L.length : Int) L.length
        rwa [decide_eq_false (by omega)] at this
  | p :: toks, pre, dec, ρ, R, hLe, _, hok, hsz => by
    have hline : sizeLine = 16777216 := sizeLine_eq
    obtain ⟨k, e⟩ := p
    have hp : tokOK (k, e) := hok _ List.mem_cons_self
    simp only [List.length_cons] at hsz
    -- the rest of the row
    let R' : List Nat := toksT toks ++ softL soft
    have hL1 : L = pre ++ tokT (k, e) ++ R' := by rw [hLe]; simp [toksT, R']
    have hlen : L.length = pre.length + (tokT (k, e)).length + R'.length := by rw [hL1]; simp; omega
    have tlt : Tr c n (fS 21) ρ (whT dcW) true := by
      refine Tr.cmp (Ev.localName (by kernel_rfl) R.ri (by kernel_rfl)) (Ev.localName (by kernel_rfl) R.rn (by kernel_rfl)) ?_ (by kernel_rfl)
      have hpos : 0 < (tokT (k, e)).length := by unfold tokT; split <;> simp
      have := Op2.ltInt (c := c) (n := n) (pre.length : Int) L.length
      rwa [decide_eq_true (by omega)] at this
    -- behind the sign's own lines: the last one, and on
    have step : ∀ (ρ1 : Str → Option D) (stmts : List Stmt), stmts = (whB dcW).drop 2 → DcR enc (mkS eol) L ρ1 (pre ++ tokT (k, e)).length (dec ++ [k]) → (∀ ρ2, Exs c n (fS 21) (Cells 21) none ρ1 [] stmts (.next ρ2 []) → Exs c n (fS 21) (Cells 21) none ρ [] (whB dcW) (.next ρ2 [])) →
        ∃ ρ', DcR enc (mkS eol) L ρ' L.length (dec ++ if (k, e) :: toks = [] then [] else readL eol ((k, e) :: toks) soft) ∧ Whl c n (fS 21) (Cells 21) none (whT dcW) (whB dcW) ρ [] (.next ρ' []) := by
      rintro ρ1 _ rfl R1 hx
      have hpl : (pre ++ tokT (k, e)).length = pre.length + (tokT (k, e)).length := by simp
      rw [if_neg (by simp)]
      by_cases hend : R' = []
      · -- the row ends here
        have hsoft : soft = false := by
          cases soft with
          | false => rfl
          | true => simp [R', softL] at hend
        have htk : toks = [] := by
          cases toks with
          | nil => rfl
          | cons q r =>
            exfalso
            have : tokT q = [] := by simp [R', toksT] at hend; exact hend.1
            unfold tokT at this; split at this <;> simp at this
        have hi : (pre ++ tokT (k, e)).length = L.length := by rw [hpl, hlen, hend]; simp
        subst hsoft; subst htk
        let ρ2 := upd ρ1 "decoded" (.str (mkS (dec ++ [k] ++ eol)))
        have R2 : DcR enc (mkS eol) L ρ2 L.length (dec ++ [k] ++ eol) := hi ▸ R1.d
        have hx2 := hx ρ2 (by
          refine Exs.cons (Ex.ifT (Tr.cmp (Ev.localName (by kernel_rfl) R1.ri (by kernel_rfl)) (Ev.localName (by kernel_rfl) R1.rn (by kernel_rfl)) (by
            have := Op2.eqInt (c := c) (n := n) ((pre ++ tokT (k, e)).length : Int) L.length
            rwa [show (((pre ++ tokT (k, e)).length : Int) == (L.length : Int)) = true by rw [beq_iff_eq]; omega] at this) (by kernel_rfl)) (Exs.cons (ρ' := ρ2) ?_ Exs.nil)) Exs.nil
          have := Ex.aug (c := c) (n := n) (own := Cells 21) (kc := none) (ac := []) (p := ⟨91, 16, 91, 23⟩) (pos := ⟨91, 16, 91, 30⟩) (sc := fS 21) (x := "decoded") (by kernel_rfl) R1.rdec (Ev.localName (x := "eol") (pos := ⟨91, 27, 91, 30⟩) (by kernel_rfl) R1.reol (by kernel_rfl)) (Op2.iaddStr (mkS (dec ++ [k])) (mkS eol) (by rw [mkS_len, mkS_len]; simp; omega))
          rw [mkS_append] at this
          exact this)
        refine ⟨ρ2, ?_, Whl.next tlt hx2 (Whl.done (Tr.cmp (Ev.localName (by kernel_rfl) R2.ri (by kernel_rfl)) (Ev.localName (by kernel_rfl) R2.rn (by kernel_rfl)) ?_ (by kernel_rfl)))⟩
        · have e : dec ++ readL eol [(k, e)] false = dec ++ [k] ++ eol := by simp [readL]
          rw [e]; exact R2
        · have := Op2.ltInt (c := c) (n := n) (L.length : Int) L.length
          rwa [decide_eq_false (by omega)] at this
      · have hx2 := hx ρ1 (by
          refine Exs.cons (Ex.ifF (Tr.cmp (Ev.localName (by kernel_rfl) R1.ri (by kernel_rfl)) (Ev.localName (by kernel_rfl) R1.rn (by kernel_rfl)) (by
            have hpos : 0 < R'.length := List.length_pos_iff.mpr hend
            have := Op2.eqInt (c := c) (n := n) ((pre ++ tokT (k, e)).length : Int) L.length
            rwa [show (((pre ++ tokT (k, e)).length : Int) == (L.length : Int)) = false by rw [beq_eq_false_iff_ne]; omega] at this) (by kernel_rfl)) Exs.nil) Exs.nil)
        obtain ⟨ρ', R3, W3⟩ := dc_while T HX uv U fu enc eol L hL soft toks (pre ++ tokT (k, e)) (dec ++ [k]) ρ1 R1 (by rw [hL1]) (.inr (.inr trivial)) (fun q hq => hok q (List.mem_cons_of_mem _ hq)) (by simp; omega)
        refine ⟨ρ', ?_, Whl.next tlt hx2 W3⟩
        by_cases htk : toks = []
        · subst htk
          have hs : soft = true := by
            cases soft with
            | true => rfl
            | false => exact absurd (by simp [R', toksT, softL]) hend
          subst hs
          simp only [if_true, List.append_nil] at R3
          have e : dec ++ readL eol [(k, e)] true = dec ++ [k] := by simp [readL]
          rw [e]; exact R3
        · rw [if_neg htk] at R3
          have e : dec ++ readL eol ((k, e) :: toks) soft = dec ++ [k] ++ readL eol toks soft := by simp [readL]
          rw [e]; exact R3
    have R1 : DcR enc (mkS eol) L (upd ρ "c" (.str (chS k))) pre.length dec := R.c
    have hi1 : idx? (mkS L).cps.toList (pre.length : Int) = some (if e then 61 else k) := by
      cases e with
      | true => exact idx_mk pre 61 ([hexC (k / 16), hexC (k % 16)] ++ R') L (by rw [hL1]; simp [tokT]) _ rfl
      | false => exact idx_mk pre k R' L (by rw [hL1]; simp [tokT]) _ rfl
    cases e with
    | false =>
      have hk : k ≠ 61 := by simpa [tokOK] using hp
      have hpl : (pre ++ tokT (k, false)).length = pre.length + 1 := by simp [tokT]
      let ρ1 := upd (upd (upd ρ "c" (.str (chS k))) "decoded" (.str (mkS (dec ++ [k])))) "i" (.int ((pre.length : Int) + 1))
      have R2 : DcR enc (mkS eol) L ρ1 (pre ++ tokT (k, false)).length (dec ++ [k]) := by
        have := (R1.d (dec' := dec ++ [k])).goI (j := (pre ++ tokT (k, false)).length)
        rwa [show (((pre ++ tokT (k, false)).length : Nat) : Int) = (pre.length : Int) + 1 by omega] at this
      refine step ρ1 _ rfl R2 fun ρ2 hx => ?_
      refine Exs.cons (Ex.assign (Ev.idxS (Ev.localName (by kernel_rfl) R.rline (by kernel_rfl)) (Ev.localName (by kernel_rfl) R.ri (by kernel_rfl)) hi1 (by omega) (by omega)) (.inl (by kernel_rfl)) (fun _ _ => rfl)) ?_
      refine Exs.cons (Ex.ifT (Tr.cmp (Ev.localName (by kernel_rfl) rfl (by kernel_rfl)) (Ev.str (x := eqS)) (by
          have := Op2.neStr (c := c) (n := n) (chS k) (chS 61)
          rw [show (chS k != chS 61) = true by unfold bne; rw [chS_beq, beq_eq_false_iff_ne.mpr hk]; rfl] at this
          exact this) (by kernel_rfl)) ?_) hx
      have a1 := Ex.aug (c := c) (n := n) (own := Cells 21) (kc := none) (ac := []) (p := ⟨79, 16, 79, 23⟩) (pos := ⟨79, 16, 79, 28⟩) (sc := fS 21) (x := "decoded") (by kernel_rfl) R1.rdec (Ev.localName (x := "c") (pos := ⟨79, 27, 79, 28⟩) (by kernel_rfl) (d := .str (mkS [k])) rfl (by kernel_rfl)) (Op2.iaddStr (mkS dec) (mkS [k]) (by rw [mkS_len, mkS_len]; simp; omega))
      rw [mkS_append] at a1
      refine Exs.cons a1 ?_
      exact Exs.cons (Ex.aug (by kernel_rfl) (upd_ne (by decide +kernel) R1.ri) Ev.int (Op2.iaddInt _ _)) Exs.nil
    | true =>
      have hk : k < 256 := by simpa [tokOK] using hp
      have hpl : (pre ++ tokT (k, true)).length = pre.length + 3 := by simp [tokT]
      have htl : (tokT (k, true)).length = 3 := by simp [tokT]
      have R1' : DcR enc (mkS eol) L (upd ρ "c" (.str (chS 61))) pre.length dec := R.c
      let ρ1 := upd (upd (upd ρ "c" (.str (chS 61))) "decoded" (.str (mkS (dec ++ [k])))) "i" (.int ((pre.length : Int) + 3))
      have R2 : DcR enc (mkS eol) L ρ1 (pre ++ tokT (k, true)).length (dec ++ [k]) := by
        have := (R1'.d (dec' := dec ++ [k])).goI (j := (pre ++ tokT (k, true)).length)
        rwa [show (((pre ++ tokT (k, true)).length : Nat) : Int) = (pre.length : Int) + 3 by omega] at this
      have hi2 : idx? (mkS L).cps.toList ((pre.length : Int) + 1) = some (hexC (k / 16)) := idx_mk (pre ++ [61]) _ ([hexC (k % 16)] ++ R') L (by rw [hL1]; simp [tokT]) _ (by simp)
      have hi3 : idx? (mkS L).cps.toList ((pre.length : Int) + 2) = some (hexC (k % 16)) := idx_mk (pre ++ [61, hexC (k / 16)]) _ R' L (by rw [hL1]; simp [tokT]) _ (by simp)
      have inx : ∀ d, d < 16 → Op2 c n (compareOp .In) (.str ⟨#[hexC d]⟩) (.str hexD) (.bool true) := fun d hd => by
        have := Op2.inStr (c := c) (n := n) ⟨#[hexC d]⟩ hexD
        rw [StrLaws.found_one, decide_eq_true (hexC_in d hd)] at this
        exact this
      have ecut : cutS (mkS L) (some (pre.length : Int)) (some ((pre.length : Int) + 3)) = escS k := by
        rw [hL1]
        have := cut_mk pre (tokT (k, true)) R' (pre.length : Int) ((pre.length : Int) + 3) rfl (by rw [htl]; simp)
        rw [this]; rfl
      refine step ρ1 _ rfl R2 fun ρ2 hx => ?_
      refine Exs.cons (Ex.assign (Ev.idxS (Ev.localName (by kernel_rfl) R.rline (by kernel_rfl)) (Ev.localName (by kernel_rfl) R.ri (by kernel_rfl)) hi1 (by omega) (by omega)) (.inl (by kernel_rfl)) (fun _ _ => rfl)) ?_
      refine Exs.cons (Ex.ifF (Tr.cmp (Ev.localName (by kernel_rfl) rfl (by kernel_rfl)) (Ev.str (x := eqS)) (by
          have := Op2.neStr (c := c) (n := n) (chS 61) eqS
          rwa [show (chS 61 != eqS) = false by decide] at this) (by kernel_rfl)) ?_) hx
      refine Exs.cons (Ex.ifF (Tr.cmp (Ev.binop (Ev.localName (by kernel_rfl) R1'.ri (by kernel_rfl)) Ev.int (Op2.addInt _ _)) (Ev.localName (by kernel_rfl) R1'.rn (by kernel_rfl)) (by
          have := Op2.eqInt (c := c) (n := n) ((pre.length : Int) + 1) L.length
          rwa [show (((pre.length : Int) + 1) == (L.length : Int)) = false by rw [beq_eq_false_iff_ne]; omega] at this) (by kernel_rfl)) ?_) Exs.nil
      refine Exs.cons (Ex.ifT (Tr.andT (Tr.cmp (Ev.binop (Ev.localName (by kernel_rfl) R1'.ri (by kernel_rfl)) Ev.int (Op2.addInt _ _)) (Ev.localName (by kernel_rfl) R1'.rn (by kernel_rfl)) (by
          have := Op2.ltInt (c := c) (n := n) ((pre.length : Int) + 2) L.length
          rwa [decide_eq_true (by omega)] at this) (by kernel_rfl))
        (Tr.andT (Tr.cmp (Ev.idxS (Ev.localName (by kernel_rfl) R1'.rline (by kernel_rfl)) (Ev.binop (Ev.localName (by kernel_rfl) R1'.ri (by kernel_rfl)) Ev.int (Op2.addInt _ _)) hi2 (by omega) (by omega)) (Ev.gs T.good HX (by kernel_rfl) (by kernel_rfl)) (inx _ (by omega)) (by kernel_rfl))
        (Tr.andT (Tr.cmp (Ev.idxS (Ev.localName (by kernel_rfl) R1'.rline (by kernel_rfl)) (Ev.binop (Ev.localName (by kernel_rfl) R1'.ri (by kernel_rfl)) Ev.int (Op2.addInt _ _)) hi3 (by omega) (by omega)) (Ev.gs T.good HX (by kernel_rfl) (by kernel_rfl)) (inx _ (by omega)) (by kernel_rfl)) Tr.andN))) ?_) Exs.nil
      have hsl : (mkS L).length ≤ sizeLine := by rw [mkS_len]; omega
      have ev : ∀ {p1 p2 p3 p4 p5 p6 p7 p8 p9 : Pos} {z : Nat}, Ev c n (fS 21) (upd ρ "c" (.str (chS 61))) (.Call (.Name "unquote" p1) [.Subscript (.Name "line" p2) (.Slice (some (.Name "i" p3)) (some (.BinOp (.Name "i" p4) .Add (.Constant (.int 3) z p5) p6)) none p7) p8] [] p9) (.str (mkS [k])) := fun {p1 p2 p3 p4 p5 p6 p7 p8 p9 z} =>
        Ev.call (Ev.globalName T.good (by kernel_rfl) U.mg (by kernel_rfl)) U.plain (Evs.cons (ecut ▸ Ev.sliceS (Ev.localName (by kernel_rfl) R1'.rline (by kernel_rfl)) (l := some _) (u := some _) (Ev.localName (by kernel_rfl) R1'.ri (by kernel_rfl)) (Ev.binop (Ev.localName (by kernel_rfl) R1'.ri (by kernel_rfl)) Ev.int (Op2.addInt _ _)) hsl) Evs.nil) (fu k hk)
      have a1 := Ex.aug (c := c) (n := n) (own := Cells 21) (kc := none) (ac := []) (p := ⟨85, 16, 85, 23⟩) (pos := ⟨85, 16, 85, 49⟩) (sc := fS 21) (x := "decoded") (by kernel_rfl) R1'.rdec (ev (p1 := ⟨85, 27, 85, 34⟩) (p2 := ⟨85, 35, 85, 39⟩) (p3 := ⟨85, 40, 85, 41⟩) (p4 := ⟨85, 42, 85, 43⟩) (p5 := ⟨85, 46, 85, 47⟩) (p6 := ⟨85, 42, 85, 47⟩) (p7 := ⟨85, 40, 85, 47⟩) (p8 := ⟨85, 35, 85, 48⟩) (p9 := ⟨85, 27, 85, 49⟩) (z := 0)) (Op2.iaddStr (mkS dec) (mkS [k]) (by rw [mkS_len, mkS_len]; simp; omega))
      rw [mkS_append] at a1
      refine Exs.cons a1 ?_
      exact Exs.cons (Ex.aug (by kernel_rfl) (upd_ne (by decide +kernel) R1'.ri) Ev.int (Op2.iaddInt _ _)) Exs.nil
end
end Qp
namespace Qp
open PySem PySem.Calls PyProof.Rows PySem.W
/-- a line as it is read: what stands there, its signs, whether a soft break ends it -/
structure Ln where
  raw : Str
  toks : List (Nat × Bool)
  soft : Bool
noncomputable def Ln.txt (l : Ln) : List Nat := toksT l.toks ++ softL l.soft
structure LnOK (l : Ln) : Prop where
  strip : Txt.rstrip l.raw = mkS l.txt
  ok : ∀ p ∈ l.toks, tokOK p
  raw : l.raw.length ≤ 10000
  few : l.toks.length ≤ 10000
  txt : l.txt.length ≤ 10000
noncomputable def readAll (eol : List Nat) (ls : List Ln) : List Nat := ls.flatMap fun l => readL eol l.toks l.soft
noncomputable def decOut (enc : Str) (eol : List Nat) (dec : List Nat) : Str :=
  if (!(lastK enc == 13 || lastK enc == 10)) && Txt.endswith (mkS dec) (mkS eol) then cutS (mkS dec) none (some (-(eol.length : Int))) else mkS dec
structure DfR (enc eol : Str) (ρ : Str → Option D) (dec : List Nat) : Prop where
  renc : ρ "encoded" = some (.str enc)
  reol : ρ "eol" = some (.str eol)
  rdec : ρ "decoded" = some (.str (mkS dec))
theorem DfR.other {enc eol : Str} {ρ : Str → Option D} {dec : List Nat} {x : Str} {d : D} (hx : (["encoded", "eol", "decoded"] : List Str).contains x = false) (h : DfR enc eol ρ dec) : DfR enc eol (upd ρ x d) dec := by
  have ne : ∀ y : Str, (["encoded", "eol", "decoded"] : List Str).contains y = true → y ≠ x := fun y hy q => by rw [q, hx] at hy; cases hy
  exact ⟨upd_ne (ne _ (by decide +kernel)) h.renc, upd_ne (ne _ (by decide +kernel)) h.reol, upd_ne (ne _ (by decide +kernel)) h.rdec⟩
section
variable {c : Cx} {n : Nat}
theorem dc_for (T : Tops c) (HX : Gs c "hexdigits" hexD) (uv : Value) (U : GFn c "unquote" uv) (fu : ∀ k, k < 256 → Fn c n uv [.str (escS k)] (.str (chS k))) (enc : Str) (eol : List Nat) (heol : eol.length ≤ 1000) :
    ∀ (ls : List Ln) (dec : List Nat) (ρ : Str → Option D), (∀ l ∈ ls, LnOK l) → DfR enc (mkS eol) ρ dec → dec.length + (readAll eol ls).length ≤ 50000 →
      ∃ ρ', DfR enc (mkS eol) ρ' (dec ++ readAll eol ls) ∧ Fors c n (fS 21) (Cells 21) none ["line"] dcF (ls.map fun l => [.str l.raw]) ρ [] (.next ρ' [])
  | [], dec, ρ, _, R, _ => ⟨ρ, by simpa [readAll] using R, rfl⟩
  | l :: ls, dec, ρ, hok, R, hb => by
    have hline : sizeLine = 16777216 := sizeLine_eq
    have K := hok l List.mem_cons_self
    have er : readAll eol (l :: ls) = readL eol l.toks l.soft ++ readAll eol ls := by simp [readAll]
    rw [er] at hb ⊢
    rw [← List.append_assoc]
    have hb1 : dec.length + (readL eol l.toks l.soft).length + (readAll eol ls).length ≤ 50000 := by simpa [Nat.add_assoc] using hb
    have on : ∀ ρ1, DfR enc (mkS eol) ρ1 (dec ++ readL eol l.toks l.soft) → (Exs c n (fS 21) (Cells 21) none (upds ρ ["line"] [.str l.raw]) [] dcF (.next ρ1 []) ∨ Exs c n (fS 21) (Cells 21) none (upds ρ ["line"] [.str l.raw]) [] dcF (.cont ρ1 [])) →
        ∃ ρ', DfR enc (mkS eol) ρ' (dec ++ readL eol l.toks l.soft ++ readAll eol ls) ∧ Fors c n (fS 21) (Cells 21) none ["line"] dcF ((l :: ls).map fun l => [.str l.raw]) ρ [] (.next ρ' []) := fun ρ1 R1 hx => by
      obtain ⟨ρ', R', F'⟩ := dc_for T HX uv U fu enc eol heol ls (dec ++ readL eol l.toks l.soft) ρ1 (fun x hx => hok x (List.mem_cons_of_mem _ hx)) R1 (by simpa [Nat.add_assoc] using hb)
      exact ⟨ρ', R', .inl ⟨ρ1, [], hx, F'⟩⟩
    let ρ0 := upd (upds ρ ["line"] [.str l.raw]) "line" (.str (mkS l.txt))
    have R0 : DfR enc (mkS eol) ρ0 dec := (R.other (x := "line") (by decide +kernel)).other (by decide +kernel)
    have s0 : ∀ {out : Out}, Exs c n (fS 21) (Cells 21) none ρ0 [] dcF.tail out → Exs c n (fS 21) (Cells 21) none (upds ρ ["line"] [.str l.raw]) [] dcF out := fun {out} h => by
      refine Exs.cons (Ex.assign (d := .str (mkS l.txt)) (Ev.meth0 (Ev.localName (by kernel_rfl) rfl (by kernel_rfl)) mRstrip (K.strip ▸ Fn.rstrip l.raw (by have := K.raw; omega)) (fun _ => rfl) (by kernel_rfl)) (.inl (by kernel_rfl)) (fun _ _ => rfl)) h
    have tl : ∀ b, (((mkS l.txt).length : Int) != 0) = b → Tru c n (.str (mkS l.txt)) b := fun b hb => hb ▸ Tru.str _ (by rw [mkS_len]; have := K.txt; omega)
    by_cases hz : l.txt = []
    · have hs : l.soft = false := by
        cases h : l.soft with
        | false => rfl
        | true => simp [Ln.txt, h, softL] at hz
      have ht : l.toks = [] := by
        cases h : l.toks with
        | nil => rfl
        | cons q r =>
          exfalso
          simp [Ln.txt, h, toksT] at hz
          have := hz.1
          unfold tokT at this; split at this <;> simp at this
      have e : readL eol l.toks l.soft = eol := by rw [hs, ht]; simp [readL]
      rw [e] at on hb1 ⊢
      let ρ1 := upd ρ0 "decoded" (.str (mkS (dec ++ eol)))
      have R1 : DfR enc (mkS eol) ρ1 (dec ++ eol) := ⟨upd_ne (by decide +kernel) R0.renc, upd_ne (by decide +kernel) R0.reol, rfl⟩
      refine on ρ1 R1 (.inr (s0 ?_))
      refine Exs.cont (Ex.ifT (Tr.not (b := false) (Tr.value (Ev.localName (by kernel_rfl) rfl (by kernel_rfl)) (tl false (by rw [hz]; rfl)) (fun _ _ => rfl))) ?_)
      have a1 := Ex.aug (c := c) (n := n) (own := Cells 21) (kc := none) (ac := []) (p := ⟨72, 12, 72, 19⟩) (pos := ⟨72, 12, 72, 26⟩) (sc := fS 21) (x := "decoded") (by kernel_rfl) R0.rdec (Ev.localName (x := "eol") (pos := ⟨72, 23, 72, 26⟩) (by kernel_rfl) R0.reol (by kernel_rfl)) (Op2.iaddStr (mkS dec) (mkS eol) (by rw [mkS_len, mkS_len]; omega))
      rw [mkS_append] at a1
      exact Exs.cons a1 (Exs.cont Ex.contE)
    · have hz' : (((mkS l.txt).length : Int) != 0) = true := by
        rw [mkS_len]
        have := List.length_pos_iff.mpr hz
        simp; omega
      let ρ1 := upd (upd ρ0 "i" (.int 0)) "n" (.int l.txt.length)
      have R1 : DcR enc (mkS eol) l.txt ρ1 ([] : List Nat).length dec := ⟨upd_ne (by decide +kernel) (upd_ne (by decide +kernel) R0.renc), upd_ne (by decide +kernel) (upd_ne (by decide +kernel) R0.reol), rfl, rfl, rfl, upd_ne (by decide +kernel) (upd_ne (by decide +kernel) R0.rdec)⟩
      have hbt : dec.length + l.toks.length + eol.length ≤ 100000 := by have := K.few; omega
      obtain ⟨ρ2, R2, W2⟩ := dc_while T HX uv U fu enc eol l.txt K.txt l.soft l.toks [] dec ρ1 R1 rfl (.inr (.inr trivial)) K.ok hbt
      have e : (if l.toks = [] then [] else readL eol l.toks l.soft) = readL eol l.toks l.soft := by
        by_cases ht : l.toks = []
        · rw [if_pos ht, ht]
          cases hs : l.soft with
          | true => simp [readL]
          | false => exact absurd (by simp [Ln.txt, ht, hs, toksT, softL]) hz
        · rw [if_neg ht]
      rw [e] at R2
      refine on ρ2 ⟨R2.renc, R2.reol, R2.rdec⟩ (.inl (s0 ?_))
      refine Exs.cons (Ex.ifF (Tr.not (b := true) (Tr.value (Ev.localName (by kernel_rfl) rfl (by kernel_rfl)) (tl true hz') (fun _ _ => rfl))) Exs.nil) ?_
      refine Exs.cons (Ex.assign Ev.int (.inl (by kernel_rfl)) (fun _ _ => rfl)) ?_
      refine Exs.cons (Ex.assign (d := .int l.txt.length) (Ev.call (Ev.bi T.good T.len (by kernel_rfl) (by kernel_rfl)) trivial (Evs.cons (d := .str (mkS l.txt)) (Ev.localName (by kernel_rfl) rfl (by kernel_rfl)) Evs.nil) (by
        have := Fn.lenStr (c := c) (n := n) (mkS l.txt) (by rw [mkS_len]; have := K.txt; omega)
        rwa [mkS_len] at this)) (.inl (by kernel_rfl)) (fun _ _ => rfl)) ?_
      exact Exs.cons (Ex.while W2) Exs.nil
theorem x_decode (T : Tops c) (HX : Gs c "hexdigits" hexD) (uv : Value) (U : GFn c "unquote" uv) (fu : ∀ k, k < 256 → Fn c n uv [.str (escS k)] (.str (chS k))) (enc : Str) (eol : List Nat) (heol : eol.length ≤ 1000) (ls : List Ln)
    (he0 : enc.length ≠ 0) (he : enc.length ≤ 10000) (hcut : (lineCuts enc).length ≤ sizeLine) (hls : linesOf enc = ls.map (·.raw)) (hok : ∀ l ∈ ls, LnOK l) (hb : (readAll eol ls).length ≤ 50000) :
    Exs c n (fS 21) (Cells 21) none (upds (fun _ => none) ["encoded", "eol"] [.str enc, .str (mkS eol)]) [] (fB 21) (.ret (.str (decOut enc eol (readAll eol ls)))) := by
  have hline : sizeLine = 16777216 := sizeLine_eq
  refine Exs.cons (Ex.ifF (Tr.not (b := true) (Tr.value (Ev.localName (by kernel_rfl) rfl (by kernel_rfl)) (by
    have := Tru.str (c := c) (n := n) enc (by omega)
    rwa [show ((enc.length : Int) != 0) = true by simpa using he0] at this) (fun _ _ => rfl))) Exs.nil) ?_
  refine Exs.cons (Ex.assign (Ev.str (x := mkS [])) (.inl (by kernel_rfl)) (fun _ _ => rfl)) ?_
  obtain ⟨ρ', R, X⟩ := dc_for (c := c) (n := n) T HX uv U fu enc eol heol ls [] (upd (upds (fun _ => none) ["encoded", "eol"] [.str enc, .str (mkS eol)]) "decoded" (.str (mkS []))) hok ⟨rfl, rfl, rfl⟩ (by simpa using hb)
  rw [List.nil_append] at R
  generalize readAll eol ls = dec at *
  refine Exs.cons (Ex.for (rows := List.map (fun l : Ln => [D.str l.raw]) ls) (Tgt.name _ _) ?_ (by intro x hx; rw [List.mem_singleton.mp hx]; exact .inl (by kernel_rfl)) (by intro row hr; obtain ⟨d, _, rfl⟩ := List.mem_map.mp hr; rfl) X) ?_
  · have := ItEv.list (x := "line") (px := ⟨69, 8, 69, 12⟩) (Ev.meth0 (c := c) (n := n) (Ev.localName (x := "encoded") (pos := ⟨69, 16, 69, 23⟩) (sc := fS 21) (ρ := upd (upds (fun _ => none) ["encoded", "eol"] [.str enc, .str (mkS eol)]) "decoded" (.str (mkS []))) (by kernel_rfl) rfl (by kernel_rfl)) mSplitlines (Fn.splitlines enc (by omega) hcut) (apos := ⟨69, 16, 69, 34⟩) (pos := ⟨69, 16, 69, 36⟩) (fun _ => rfl) (by kernel_rfl))
    rw [hls, List.map_map, List.map_map] at this
    exact this
  have tin : ∀ b, (!(lastK enc == 13 || lastK enc == 10)) = b → Op2 c n (compareOp .NotIn) (.str (chS (lastK enc))) (.str ⟨#[13, 10]⟩) (.bool b) := fun b hb => by
    have := Op2.notInStr (c := c) (n := n) (chS (lastK enc)) ⟨#[13, 10]⟩
    rw [show chS (lastK enc) = ⟨#[lastK enc]⟩ from rfl, found_crlf, hb] at this
    exact this
  have il := last_ch enc he0
  have tew : ∀ b, Txt.endswith (mkS dec) (mkS eol) = b → Tru c n (.bool (Txt.endswith (mkS dec) (mkS eol))) b := fun b hb => hb ▸ Tru.bool _
  have EW : ∀ {p1 p2 p3 p4 : Pos}, (p3.endLine == p4.line) = true → Ev c n (fS 21) ρ' (.Call (.Attribute (.Name "decoded" p1) "endswith" p3) [.Name "eol" p2] [] p4) (.bool (Txt.endswith (mkS dec) (mkS eol))) := fun {p1 p2 p3 p4} hp =>
    Ev.meth1 (Ev.localName (by kernel_rfl) R.rdec (by kernel_rfl)) (Ev.localName (by kernel_rfl) R.reol (by kernel_rfl)) mEndswith (Fn.endswith _ _) (fun _ => rfl) hp
  unfold decOut
  by_cases h1 : (!(lastK enc == 13 || lastK enc == 10)) = true
  · by_cases h2 : Txt.endswith (mkS dec) (mkS eol) = true
    · rw [h1, h2]
      refine Exs.cons (Ex.ifT (Tr.and2 (b := true) (Tr.cmp (Ev.idxS (Ev.localName (by kernel_rfl) R.renc (by kernel_rfl)) (Ev.unary Ev.int (Op1.neg 1)) il (by decide) (by decide)) Ev.str (tin _ h1) (by kernel_rfl)) fun _ => Tr.value (EW (by kernel_rfl)) (tew _ h2) (fun _ _ => rfl)) (Exs.cons (Ex.assign (d := .str (cutS (mkS dec) none (some (-(eol.length : Int))))) ?_ (.inl (by kernel_rfl)) (fun _ _ => rfl)) Exs.nil)) ?_
      · refine Ev.sliceS (l := none) (u := some (-(eol.length : Int))) (Ev.localName (by kernel_rfl) R.rdec (by kernel_rfl)) trivial (Ev.unary (Ev.call (Ev.bi T.good T.len (by kernel_rfl) (by kernel_rfl)) trivial (Evs.cons (d := .str (mkS eol)) (Ev.localName (by kernel_rfl) R.reol (by kernel_rfl)) Evs.nil) (d := .int eol.length) (by
          have := Fn.lenStr (c := c) (n := n) (mkS eol) (by rw [mkS_len]; omega)
          rwa [mkS_len] at this)) (Op1.neg _)) (by rw [mkS_len]; omega)
      · exact Exs.ret (Ex.retE (Ev.localName (by kernel_rfl) rfl (by kernel_rfl)))
    · have h2' : Txt.endswith (mkS dec) (mkS eol) = false := by simpa using h2
      rw [h1, h2']
      refine Exs.cons (Ex.ifF (Tr.and2 (b := false) (Tr.cmp (Ev.idxS (Ev.localName (by kernel_rfl) R.renc (by kernel_rfl)) (Ev.unary Ev.int (Op1.neg 1)) il (by decide) (by decide)) Ev.str (tin _ h1) (by kernel_rfl)) fun _ => Tr.value (EW (by kernel_rfl)) (tew _ h2') (fun _ _ => rfl)) Exs.nil) ?_
      exact Exs.ret (Ex.retE (Ev.localName (by kernel_rfl) R.rdec (by kernel_rfl)))
  · have h1' : (!(lastK enc == 13 || lastK enc == 10)) = false := by simpa using h1
    rw [h1']
    refine Exs.cons (Ex.ifF (Tr.andF (Tr.cmp (Ev.idxS (Ev.localName (by kernel_rfl) R.renc (by kernel_rfl)) (Ev.unary Ev.int (Op1.neg 1)) il (by decide) (by decide)) Ev.str (tin _ h1') (by kernel_rfl))) Exs.nil) ?_
    exact Exs.ret (Ex.retE (Ev.localName (by kernel_rfl) R.rdec (by kernel_rfl)))
theorem x_decode_nil (eol : Str) :
    Exs c n (fS 21) (Cells 21) none (upds (fun _ => none) ["encoded", "eol"] [.str ⟨#[]⟩, .str eol]) [] (fB 21) (.ret (.str ⟨#[]⟩)) := by
  exact Exs.ret (Ex.ifT (Tr.not (b := false) (Tr.value (Ev.localName (by kernel_rfl) rfl (by kernel_rfl)) (Tru.str ⟨#[]⟩ (by decide)) (fun _ _ => rfl))) (Exs.ret (Ex.retE (Ev.localName (by kernel_rfl) rfl (by kernel_rfl)))))
end
end Qp
namespace Qp
open PySem PySem.Calls PyProof.Rows PySem.W
noncomputable def asρ (l : List (Str × D)) : Str → Option D := fun x => l.lookup x
theorem ExsF.weak {k : Nat} {c : Cx} {n : Nat} {sc : Scope} {own : Str → Prop} {ρ ρ' : Str → Option D} {st : List Stmt} {d : D} (h : ExsF k c n sc own none ρ' [] st (.ret d)) (w : ∀ y d, ρ' y = some d → ρ y = some d) : ExsF k c n sc own none ρ [] st (.ret d) :=
  fun F P A s env a hk hf => h F P A s env ⟨a.ok, a.scope, a.eok, ⟨a.sm.fm.weak w, trivial⟩⟩ hk hf
theorem asρ_le {l : List (Str × D)} {ρ : Str → Option D} (h : ∀ p ∈ l, ρ p.1 = some p.2) : ∀ y d, asρ l y = some d → ρ y = some d := fun y d e => h (y, d) (mem_of_lookup e)
noncomputable def natsD (l : List Nat) : D := .list (l.map fun (k : Nat) => D.int k)
structure OctOK (ks : List Nat) : Prop where
  len : ks.length = 9
  ok : ∀ k ∈ ks, k < 256 ∧ k ≠ 10 ∧ k ≠ 13
theorem pick_to {α : Type} (l : List α) (m : Nat) : pick l none (some (m : Int)) none = l.take m := by
  rw [pick_plain]
  simp only [Option.elim, List.drop_zero, Nat.sub_zero]
  have : clipAt l.length (m : Int) = min m l.length := by have := clipAt_cast l.length (m : Int); omega
  rw [this, List.take_eq_take_iff]; omega
theorem mem_pick {α : Type} {l : List α} {a b s : Option Int} {x : α} (h : x ∈ pick l a b s) : x ∈ l := by
  unfold pick at h
  obtain ⟨i, _, hi⟩ := List.mem_filterMap.mp h
  exact List.mem_of_getElem? hi
theorem sum_nonneg : ∀ {l : List Int}, (∀ x ∈ l, 0 ≤ x) → 0 ≤ l.sum
  | [], _ => by simp
  | a :: l, h => by
    have := sum_nonneg (l := l) fun x hx => h x (List.mem_cons_of_mem _ hx)
    have := h a List.mem_cons_self
    simp only [List.sum_cons]; omega
theorem enumRows (l : List Int) : List.zipWith (fun (i : Nat) d => [D.int i, d]) (List.range (l.map D.int).length) (l.map D.int) = ((List.range l.length).zip l).map fun p => [D.int p.1, D.int p.2] := by
  rw [List.length_map, List.zipWith_map_right, List.zip_eq_zipWith, List.map_zipWith]
noncomputable def modM (x : Int) : Int := x.fmod ((10 : Int) ^ (6 : Int).toNat)
noncomputable def firsts : List Int := [0, 5, 1, 0, 6, 5, 3, 0, 2, 2, 8, 1, 4, 9, 6]
noncomputable def cellsOf (nums : List Int) : List Int := ((List.range firsts.length).zip firsts).map fun p => p.2 + (pick nums (some (p.1 : Int)) none (some 15)).sum
noncomputable def octA (c : Int) : Int := [97, 61, 32, 233, 9, 98, 46, (c.fdiv 8).fmod 256].getD (c.fmod 8).toNat 0
noncomputable def octB (o : Int) : Int := if (o == 10 || o == 13) then o + 1 else o
theorem octs_ok (cs : List Int) (hl : cs.length = 9) : ∃ ks, OctOK ks ∧ (cs.map octA).map octB = ks.map fun (k : Nat) => (k : Int) := by
  have one : ∀ c : Int, 0 ≤ octB (octA c) ∧ octB (octA c) < 256 ∧ octB (octA c) ≠ 10 ∧ octB (octA c) ≠ 13 := fun c => by
    have h : 0 ≤ octA c ∧ octA c < 256 := by
      have h8 : 0 ≤ c.fmod 8 ∧ c.fmod 8 < 8 := ⟨Int.fmod_nonneg_of_pos _ (by decide), Int.fmod_lt_of_pos _ (by decide)⟩
      have h256 : 0 ≤ (c.fdiv 8).fmod 256 ∧ (c.fdiv 8).fmod 256 < 256 := ⟨Int.fmod_nonneg_of_pos _ (by decide), Int.fmod_lt_of_pos _ (by decide)⟩
      unfold octA
      generalize c.fmod 8 = i at *
      generalize (c.fdiv 8).fmod 256 = j at *
      have : i = 0 ∨ i = 1 ∨ i = 2 ∨ i = 3 ∨ i = 4 ∨ i = 5 ∨ i = 6 ∨ i = 7 := by omega
      rcases this with rfl | rfl | rfl | rfl | rfl | rfl | rfl | rfl <;> simp <;> omega
    unfold octB
    split
    · rename_i q
      simp only [Bool.or_eq_true, beq_iff_eq] at q
      omega
    · rename_i q
      simp only [Bool.or_eq_true, beq_iff_eq] at q
      omega
  refine ⟨((cs.map octA).map octB).map Int.toNat, ⟨by simpa using hl, fun k hk => ?_⟩, ?_⟩
  · simp only [List.map_map, List.mem_map] at hk
    obtain ⟨c, _, rfl⟩ := hk
    have := one c
    simp only [Function.comp]
    omega
  · rw [List.map_map (f := Int.toNat)]
    conv => lhs; rw [← List.map_id (((cs.map octA).map octB))]
    apply List.map_congr_left
    intro a ha
    simp only [List.map_map, List.mem_map] at ha
    obtain ⟨c, _, rfl⟩ := ha
    have := one c
    simp only [Function.comp, id]
    omega
end Qp
namespace Qp
open PySem PySem.Calls PyProof.Rows PySem.W
section
variable {c : Cx} {n : Nat}
theorem s_numbers (ns : List Int) (hns : ns.length ≤ 63) {ρ : Str → Option D} (h1 : ρ "script" = some (intsD ns)) {out : Out}
    (h : ExsF 0 c n (fS 30) (Cells 30) none (upd ρ "numbers" (intsD ((ns.take 60).map modM))) [] ((fB 30).drop 1) out) : ExsF 0 c n (fS 30) (Cells 30) none ρ [] (fB 30) out := by
  have hsz : sizeLine = 16777216 := sizeLine_eq
  have e : intsD ((ns.take 60).map modM) = .list (((ns.take 60).filter fun _ => true).map fun x => D.int (modM x)) := by
    rw [filter_true]; show D.list (List.map D.int (List.map modM (ns.take 60))) = _; rw [List.map_map]; rfl
  rw [e] at h
  refine ExsF.cons (ExF.of (Ex.assignFM (l := ns.take 60) (row := fun x => [D.int x]) (p := fun _ => true) (b := false) (Tgt.name _ _) ?src ⟨by kernel_rfl, by decide +kernel, by kernel_rfl, by kernel_rfl⟩ ?inj (by simp; omega) ?row (by kernel_rfl) (by rw [if_neg (by decide)]; exact .inr (show (fS 30).names.lookup _ = _ by kernel_rfl)) (by kernel_rfl))) h
  case src =>
    rw [← map_rows D.int, List.map_take, ← pick_to]
    exact ItEv.list (Ev.sliceL (l := none) (u := some 60) (z := none) (Ev.localName (by kernel_rfl) h1 (by kernel_rfl)) trivial Ev.int trivial (by simp) (by simp; omega))
  case inj => intro a _ b _ q; simp only [List.cons.injEq, D.int.injEq, and_true] at q; subst q; exact ⟨rfl, rfl⟩
  case row =>
    intro x _
    exact ⟨rfl, rfl, fun _ => Ev.binop (Ev.localName (by kernel_rfl) rfl (by kernel_rfl)) (Ev.binop Ev.int Ev.int (Op2.powInt 10 6 (by decide) (by decide) (by decide))) (Op2.modInt _ _ (by decide))⟩
theorem s_cells (T : Tops c) (nums : List Int) (hnl : nums.length ≤ 63) {ρ : Str → Option D} (h1 : ρ "numbers" = some (intsD nums)) {out : Out}
    (h : ExsF 0 c n (fS 30) (Cells 30) none (upd ρ "cells" (intsD (cellsOf nums))) [] ((fB 30).drop 2) out) : ExsF 0 c n (fS 30) (Cells 30) none ρ [] ((fB 30).drop 1) out := by
  have hsz : sizeLine = 16777216 := sizeLine_eq
  have e : intsD (cellsOf nums) = .list ((((List.range firsts.length).zip firsts).filter fun _ => true).map fun p => D.int (p.2 + (pick nums (some (p.1 : Int)) none (some 15)).sum)) := by
    rw [filter_true]; show D.list (List.map D.int (List.map _ _)) = _; rw [List.map_map]; rfl
  rw [e] at h
  have hf15 : firsts.length = 15 := rfl
  generalize hfs : firsts = fs at *
  refine ExsF.cons (ExF.of (Ex.assignFM (l := (List.range fs.length).zip fs) (row := fun p => [D.int p.1, D.int p.2]) (p := fun _ => true) (b := true) (Tgt.two _ _ _ _ _ _) ?src ⟨by kernel_rfl, by decide +kernel, ?fo, by kernel_rfl⟩ ?inj (by simp; omega) ?row (by kernel_rfl) (by rw [if_pos rfl]; kernel_rfl) (by kernel_rfl))) h
  case src =>
    rw [← enumRows]
    refine ItEv.enum ?_ ?_
    · exact Ev.bi T.good T.enumerate (by kernel_rfl) (by kernel_rfl)
    · refine Evs.cons ?_ ?_
      · refine Ev.list ?_ ?_
        · subst hfs
          repeat (refine Evs.cons ?_ ?_; (· exact Ev.int))
          exact Evs.nil
        · simp; omega
      · exact Evs.nil
  case fo => exact freeOK_of (fs := ["numbers"]) (by kernel_rfl) (by kernel_rfl) (by intro x hx; rw [List.mem_singleton.mp hx, h1]; rfl)
  case inj =>
    rintro ⟨a, b⟩ _ ⟨a', b'⟩ _ q
    simp only [List.cons.injEq, D.int.injEq, and_true] at q
    obtain ⟨q1, rfl⟩ := q
    have : a = a' := by omega
    subst this; exact ⟨rfl, rfl⟩
  case row =>
    rintro ⟨a, b⟩ _
    refine ⟨rfl, rfl, fun _ => Ev.binop (Ev.localName (by kernel_rfl) rfl (by kernel_rfl)) (Ev.call (Ev.bi T.good T.sum (by kernel_rfl) (by kernel_rfl)) trivial (Evs.cons (d := intsD (pick nums (some (a : Int)) none (some 15))) ?_ Evs.nil) (Fn.sum _)) (Op2.addInt _ _)⟩
    unfold intsD
    rw [← pick_map]
    exact Ev.sliceL (l := some (a : Int)) (u := none) (z := some 15) (Ev.cellName (.inl (by kernel_rfl)) (upds_ne (restr_at (by kernel_rfl) h1) (by kernel_rfl)) (by kernel_rfl) (by kernel_rfl)) (Ev.localName (by kernel_rfl) rfl (by kernel_rfl)) trivial Ev.int (by decide) (by simp; omega)
theorem s_octA (cs : List Int) (hcl : cs.length = 15) {ρ : Str → Option D} (h1 : ρ "cells" = some (intsD cs)) {out : Out}
    (h : ExsF 0 c n (fS 30) (Cells 30) none (upd ρ "octets" (intsD ((cs.take 9).map octA))) [] ((fB 30).drop 3) out) : ExsF 0 c n (fS 30) (Cells 30) none ρ [] ((fB 30).drop 2) out := by
  have hsz : sizeLine = 16777216 := sizeLine_eq
  have e : intsD ((cs.take 9).map octA) = .list (((cs.take 9).filter fun _ => true).map fun x => D.int (octA x)) := by
    rw [filter_true]; show D.list (List.map D.int (List.map _ _)) = _; rw [List.map_map]; rfl
  rw [e] at h
  refine ExsF.cons (ExF.of (Ex.assignFM (l := cs.take 9) (row := fun x => [D.int x]) (p := fun _ => true) (b := true) (Tgt.name _ _) ?src ⟨by kernel_rfl, by decide +kernel, by kernel_rfl, by kernel_rfl⟩ ?inj (by simp; omega) ?row (by kernel_rfl) (by rw [if_pos rfl]; kernel_rfl) (by kernel_rfl))) h
  case src =>
    rw [← map_rows D.int, List.map_take, ← pick_to]
    exact ItEv.list (Ev.sliceL (l := none) (u := some 9) (z := none) (Ev.localName (by kernel_rfl) h1 (by kernel_rfl)) trivial Ev.int trivial (by simp) (by simp; omega))
  case inj => intro a _ b _ q; simp only [List.cons.injEq, D.int.injEq, and_true] at q; subst q; exact ⟨rfl, rfl⟩
  case row =>
    intro x _
    refine ⟨rfl, rfl, fun _ => ?_⟩
    have h8 : 0 ≤ x.fmod 8 ∧ x.fmod 8 < 8 := ⟨Int.fmod_nonneg_of_pos _ (by decide), Int.fmod_lt_of_pos _ (by decide)⟩
    refine Ev.idxT (ds := [97, 61, 32, 233, 9, 98, 46, (x.fdiv 8).fmod 256].map D.int) (k := x.fmod 8) ?_ ?_ ?_ ?_ ?_
    · refine Ev.tup ?_ ?_
      · repeat (refine Evs.cons ?_ ?_; (· first | exact Ev.int | exact Ev.binop (Ev.binop (Ev.localName (by kernel_rfl) rfl (by kernel_rfl)) Ev.int (Op2.divInt _ _ (by decide) (PyProof.noPylong_small (by decide)))) Ev.int (Op2.modInt _ _ (by decide))))
        exact Evs.nil
      · show 8 ≤ _; omega
    · exact Ev.binop (Ev.localName (by kernel_rfl) rfl (by kernel_rfl)) Ev.int (Op2.modInt _ _ (by decide))
    · refine idx_map D.int _ _ _ (idx_nat _ _ (x.fmod 8).toNat _ (by omega) ?_)
      unfold octA
      rw [List.getD_eq_getElem?_getD, List.getElem?_eq_getElem (by simp; omega)]; rfl
    · omega
    · omega
theorem s_octB (os : List Int) (ho : os.length ≤ 100) (ks : List Nat) (hk : os.map octB = ks.map fun (k : Nat) => (k : Int)) {ρ : Str → Option D} (h1 : ρ "octets" = some (intsD os)) {out : Out}
    (h : ExsF 0 c (n + 8) (fS 30) (Cells 30) none (upd ρ "octets" (natsD ks)) [] ((fB 30).drop 4) out) : ExsF 0 c (n + 8) (fS 30) (Cells 30) none ρ [] ((fB 30).drop 3) out := by
  have hsz : sizeLine = 16777216 := sizeLine_eq
  have e : natsD ks = .list ((os.filter fun _ => true).map fun x => D.int (octB x)) := by
    have : natsD ks = intsD (ks.map fun (k : Nat) => (k : Int)) := by unfold natsD intsD; rw [List.map_map]; rfl
    rw [this, ← hk, filter_true]; show D.list (List.map D.int (List.map _ _)) = _; rw [List.map_map]; rfl
  rw [e] at h
  refine ExsF.cons (ExF.of (Ex.assignFM (l := os) (row := fun x => [D.int x]) (p := fun _ => true) (b := true) (Tgt.name _ _) ?src ⟨by kernel_rfl, by decide +kernel, by kernel_rfl, by kernel_rfl⟩ ?inj (by omega) ?row (by kernel_rfl) (by rw [if_pos rfl]; kernel_rfl) (by kernel_rfl))) h
  case src => exact map_rows D.int _ ▸ ItEv.list (Ev.localName (by kernel_rfl) h1 (by kernel_rfl))
  case inj => intro a _ b _ q; simp only [List.cons.injEq, D.int.injEq, and_true] at q; subst q; exact ⟨rfl, rfl⟩
  case row =>
    intro x _
    refine ⟨rfl, rfl, fun _ => ?_⟩
    have tst : Op2 c (n + 8) (compareOp .In) (.int x) (.tup [.int 10, .int 13]) (.bool (x == 10 || x == 13)) := by
      have := Op2.inTup (c := c) (n := n) (x := .int x) (l := [.int 10, .int 13]) ((CmpL.int 0 x).cmp (by decide)) ((CmpL.tup (k := 0) (l := [.int 10, .int 13]) (by intro d hd; simp only [List.mem_cons, List.not_mem_nil, or_false] at hd; rcases hd with rfl | rfl <;> exact CmpL.int 0 _)).cmp (by decide))
      have e : ([D.int 10, D.int 13].any fun y => eqD y (.int x)) = (x == 10 || x == 13) := by
        simp only [List.any_cons, List.any_nil, eqD_int, Bool.or_false]
        rw [Bool.beq_comm (a := (10 : Int)), Bool.beq_comm (a := (13 : Int))]
      rw [e] at this; exact this
    unfold octB
    cases hb : (x == 10 || x == 13) with
    | true => exact Ev.ifexp (Tr.cmp (Ev.localName (by kernel_rfl) rfl (by kernel_rfl)) (Ev.tup (Evs.cons Ev.int (Evs.cons Ev.int Evs.nil)) (by show 2 ≤ _; omega)) (hb ▸ tst) (by kernel_rfl)) (fun _ => Ev.binop (Ev.localName (by kernel_rfl) rfl (by kernel_rfl)) Ev.int (Op2.addInt _ _)) (fun q => by cases q)
    | false => exact Ev.ifexp (Tr.cmp (Ev.localName (by kernel_rfl) rfl (by kernel_rfl)) (Ev.tup (Evs.cons Ev.int (Evs.cons Ev.int Evs.nil)) (by show 2 ≤ _; omega)) (hb ▸ tst) (by kernel_rfl)) (fun q => by cases q) (fun _ => Ev.localName (by kernel_rfl) rfl (by kernel_rfl))
theorem law_1 (T : Tops c) (ns : List Int) (hns : ns.length ≤ 63) {d : D}
    (h : ∀ cs ks, cs.length = 15 → (∀ x ∈ cs, 0 ≤ x) → OctOK ks → ExsF 0 c (n + 8) (fS 30) (Cells 30) none (asρ [("cells", intsD cs), ("octets", natsD ks)]) [] ((fB 30).drop 4) (.ret d)) :
    ExsF 0 c (n + 8) (fS 30) (Cells 30) none (upds (fun _ => none) ["script"] [intsD ns]) [] (fB 30) (.ret d) := by
  have hnum : ∀ x ∈ (ns.take 60).map modM, 0 ≤ x := fun x hx => by
    obtain ⟨y, _, rfl⟩ := List.mem_map.mp hx
    exact Int.fmod_nonneg_of_pos _ (by decide)
  have hnl : ((ns.take 60).map modM).length ≤ 63 := by simp; omega
  refine s_numbers ns hns rfl ?_
  refine s_cells (n := n + 8) T ((ns.take 60).map modM) hnl rfl ?_
  have hcl : (cellsOf ((ns.take 60).map modM)).length = 15 := by simp [cellsOf, firsts]
  have hcs : ∀ x ∈ cellsOf ((ns.take 60).map modM), 0 ≤ x := fun x hx => by
    obtain ⟨p, hp, rfl⟩ := List.mem_map.mp hx
    have h1 : 0 ≤ p.2 := by
      have := (List.of_mem_zip (show (p.1, p.2) ∈ _ from hp)).2
      simp [firsts] at this
      omega
    have h2 := sum_nonneg (l := pick ((ns.take 60).map modM) (some (p.1 : Int)) none (some 15)) fun y hy => hnum y (mem_pick hy)
    omega
  generalize cellsOf ((ns.take 60).map modM) = cs at hcl hcs
  obtain ⟨ks, hks, eks⟩ := octs_ok (cs.take 9) (by simp [hcl])
  refine s_octA cs hcl rfl ?_
  refine s_octB _ (by simp; omega) ks eks rfl ?_
  refine ExsF.weak (h cs ks hcl hcs hks) (asρ_le ?_)
  intro p hp
  simp only [List.mem_cons, List.not_mem_nil, or_false] at hp
  rcases hp with rfl | rfl
  · exact upd_ne (x := "cells") (by decide +kernel) (upd_ne (x := "cells") (by decide +kernel) rfl)
  · rfl
end
end Qp
namespace Qp
open PySem PySem.Calls PyProof.Rows PySem.W

noncomputable def inter (sep : List Nat) : List (List Nat) → List Nat
  | [] => []
  | [x] => x
  | x :: y :: r => x ++ sep ++ inter sep (y :: r)
theorem join_mk (sep : List Nat) : ∀ rows : List (List Nat), Str.join (mkS sep) (rows.map mkS) = mkS (inter sep rows)
  | [] => rfl
  | [x] => rfl
  | x :: y :: r => by
    have ih := join_mk sep (y :: r)
    show mkS x ++ mkS sep ++ Str.join (mkS sep) ((y :: r).map mkS) = _
    rw [ih, mkS_append, mkS_append]; rfl
theorem txt_join (sep : List Nat) (rows : List (List Nat)) : Txt.join (mkS sep) (rows.map mkS) = mkS (inter sep rows) := by
  show Builtin.Str.glued _ _ = _
  rw [StrLaws.glued_eq_join, join_mk]
theorem inter_nil : ∀ rows : List (List Nat), inter [] rows = rows.flatten
  | [] => rfl
  | [x] => by simp [inter]
  | x :: y :: r => by
    have := inter_nil (y :: r)
    rw [inter, this]; simp
theorem joinOk {sep : Str} {texts : List Str} (B : Nat) (hB : ∀ y ∈ texts, y.length ≤ B) (h : texts.length * B + texts.length * sep.length ≤ 16777216) : JoinOk sep texts = true := by
  unfold JoinOk
  rw [StrLaws.joinFits hB h]; rfl
theorem chS_mk (k : Nat) : chS k = mkS [k] := rfl
theorem escS_mk (k : Nat) : escS k = mkS [61, hexC (k / 16), hexC (k % 16)] := rfl
noncomputable def codeL (k : Nat) : List Nat := if bareK k then [k] else [61, hexC (k / 16), hexC (k % 16)]
theorem codeS_mk (k : Nat) : codeS k = mkS (codeL k) := by unfold codeS codeL; split <;> rfl
theorem codeL_len (k : Nat) : (codeL k).length = if bareK k then 1 else 3 := by unfold codeL; split <;> rfl
theorem flatten_ones : ∀ ks : List Nat, (ks.map fun k => [k]).flatten = ks
  | [] => rfl
  | k :: ks => by simp [flatten_ones ks]
end Qp
namespace Qp
open PySem PySem.Calls PyProof.Rows PySem.W
section
variable {k : Nat} {c : Cx} {n : Nat} {sc : Scope} {own : Str → Prop} {kc : Option (Addr × Addr)} {ρ : Str → Option D} {ac : List D} {out : Out}
end
noncomputable def stL (i : Nat) : Stmt := (fB 30).getD i (.Pass ⟨0,0,0,0⟩)
theorem lenL : (fB 30).length = 40 := by kernel_rfl
theorem dropL (i : Nat) (h : i < 40) : (fB 30).drop i = stL i :: (fB 30).drop (i + 1) := by
  rw [List.drop_eq_getElem_cons (by rw [lenL]; exact h)]
  congr 1
  unfold stL
  rw [List.getD_eq_getElem?_getD, List.getElem?_eq_getElem (by rw [lenL]; exact h)]; rfl
/-- law's suite from a statement on; one statement (structures: nothing unfolds them by itself) -/
structure XL (k : Nat) (c : Cx) (n : Nat) (ρ : Str → Option D) (i : Nat) (d : D) : Prop where
  out : ExsF k c n (fS 30) (Cells 30) none ρ [] ((fB 30).drop i) (.ret d)
structure SL (k : Nat) (c : Cx) (n : Nat) (ρ : Str → Option D) (i : Nat) (ρ' : Str → Option D) : Prop where
  out : ExF k c n (fS 30) (Cells 30) none ρ [] (stL i) (.next ρ' [])
theorem XL.step {k : Nat} {c : Cx} {n : Nat} {ρ ρ' : Str → Option D} {i : Nat} {d : D} (x : SL k c n ρ i ρ') (y : XL k c n ρ' (i + 1) d) (h : i < 40) : XL k c n ρ i d := by
  refine ⟨?_⟩
  rw [dropL i h]
  exact ExsF.cons x.out y.out
theorem XL.weak {k : Nat} {c : Cx} {n : Nat} {ρ ρ' : Str → Option D} {i : Nat} {d : D} (x : XL k c n ρ' i d) (w : ∀ y d, ρ' y = some d → ρ y = some d) : XL k c n ρ i d := ⟨ExsF.weak x.out w⟩
/-- what may stand behind the line -/
noncomputable def EndOK (en : List Nat) : Prop := en = [] ∨ en = [10] ∨ en = [13] ∨ en = [13, 10]
noncomputable def EolOK (el : List Nat) : Prop := el = [10] ∨ el = [13, 10]
section
variable {c : Cx} {n : Nat}
theorem cell_at (cs : List Int) (j : Nat) (h : j < cs.length) : idx? (cs.map D.int) (j : Int) = some (.int (cs.getD j 0)) := getD_at cs j h
theorem s_width (cs : List Int) (hcl : cs.length = 15) {ρ : Str → Option D} (h1 : ρ "cells" = some (intsD cs)) {d : D} (h : XL 1 c n (upd ρ "width" (.int (4 + (cs.getD 9 0).fmod 4))) 5 d) : XL 0 c n ρ 4 d := by
  have hlc : (cs.map D.int).length = 15 := by simpa using hcl
  refine ⟨?_⟩
  rw [dropL 4 (by decide)]
  refine ExsF.assignBump (b := (cs.getD 9 0).fmod 4) (j := 4 + (cs.getD 9 0).fmod 4) ?_ ?_ ?_ ?_ ?_
  · kernel_rfl
  · refine Ev.binop (a := .int (cs.getD 9 0)) (b := .int 4) ?_ ?_ ?_
    · exact Ev.idxL (ds := cs.map D.int) (Ev.localName (by kernel_rfl) h1 (by kernel_rfl)) Ev.int (cell_at cs 9 (by omega)) (by omega)
    · exact Ev.int
    · exact Op2.modInt _ _ (by decide)
  · exact Op2.addInt _ _
  · exact fun _ _ => rfl
  · obtain ⟨q⟩ := h; assumption
theorem s_end (cs : List Int) (hcl : cs.length = 15) {ρ : Str → Option D} (h1 : ρ "cells" = some (intsD cs)) : ∃ en, EndOK en ∧ ∀ k, SL k c n ρ 5 (upd ρ "end" (.str (mkS en))) := by
  have hsz : sizeLine = 16777216 := sizeLine_eq
  have he10 : 0 ≤ (cs.getD 10 0).fmod 4 ∧ (cs.getD 10 0).fmod 4 < 4 := ⟨Int.fmod_nonneg_of_pos _ (by decide), Int.fmod_lt_of_pos _ (by decide)⟩
  have hlc : (cs.map D.int).length = 15 := by simpa using hcl
  obtain ⟨en, hen, hen2⟩ : ∃ en, idx? [D.str (mkS []), .str (mkS [10]), .str (mkS [13]), .str (mkS [13, 10])] ((cs.getD 10 0).fmod 4) = some (.str (mkS en)) ∧ EndOK en := by
    generalize (cs.getD 10 0).fmod 4 = i at he10
    have : i = 0 ∨ i = 1 ∨ i = 2 ∨ i = 3 := by omega
    rcases this with rfl | rfl | rfl | rfl
    · exact ⟨[], rfl, .inl rfl⟩
    · exact ⟨[10], rfl, .inr (.inl rfl)⟩
    · exact ⟨[13], rfl, .inr (.inr (.inl rfl))⟩
    · exact ⟨[13, 10], rfl, .inr (.inr (.inr rfl))⟩
  refine ⟨en, hen2, fun k => ⟨ExF.of ?_⟩⟩
  refine Ex.assign (d := .str (mkS en)) ?_ ?_ ?_
  · refine Ev.idxT (ds := [D.str (mkS []), .str (mkS [10]), .str (mkS [13]), .str (mkS [13, 10])]) (k := (cs.getD 10 0).fmod 4) ?_ ?_ ?_ ?_ ?_
    · refine Ev.tup ?_ ?_
      · refine Evs.cons ?_ ?_
        · exact Ev.str
        · refine Evs.cons ?_ ?_
          · exact Ev.str
          · refine Evs.cons ?_ ?_
            · exact Ev.str
            · refine Evs.cons ?_ ?_
              · exact Ev.str
              · exact Evs.nil
      · show 4 ≤ _; omega
    · refine Ev.binop (a := .int (cs.getD 10 0)) (b := .int 4) ?_ ?_ ?_
      · exact Ev.idxL (ds := cs.map D.int) (Ev.localName (by kernel_rfl) h1 (by kernel_rfl)) Ev.int (cell_at cs 10 (by omega)) (by omega)
      · exact Ev.int
      · exact Op2.modInt _ _ (by decide)
    · exact hen
    · omega
    · omega
  · exact .inl (by kernel_rfl)
  · exact fun _ _ => rfl
theorem s_eol (cs : List Int) (hcl : cs.length = 15) {ρ : Str → Option D} (h1 : ρ "cells" = some (intsD cs)) {d : D}
    (h : ∀ (el : List Nat) (t : Tok), EolOK el → t ≠ 0 → XL (t + 1) c n (upd ρ "eol" (.val (.str (mkS el) t))) 7 d) : XL 1 c n ρ 6 d := by
  refine ⟨?_⟩
  rw [dropL 6 (by decide)]
  have hlc : (cs.map D.int).length = 15 := by simpa using hcl
  have hb10 : 0 ≤ ((cs.getD 10 0).fdiv 4).fmod 2 ∧ ((cs.getD 10 0).fdiv 4).fmod 2 < 2 := ⟨Int.fmod_nonneg_of_pos _ (by decide), Int.fmod_lt_of_pos _ (by decide)⟩
  obtain ⟨b, hbi⟩ : ∃ b : Bool, ((cs.getD 10 0).fdiv 4).fmod 2 = if b = true then 1 else 0 := by
    have : ((cs.getD 10 0).fdiv 4).fmod 2 = 0 ∨ ((cs.getD 10 0).fdiv 4).fmod 2 = 1 := by omega
    rcases this with q | q
    · exact ⟨false, q⟩
    · exact ⟨true, q⟩
  have E : ∀ {p1 p2 p3 p4 p5 p6 p7 : Pos} {z1 z2 z3 : Nat}, Ev c n (fS 30) ρ (.BinOp (.BinOp (.Subscript (.Name "cells" p1) (.Constant (.int 10) z1 p2) p3) .FloorDiv (.Constant (.int 4) z2 p4) p5) .Mod (.Constant (.int 2) z3 p6) p7) (.int (if b then 1 else 0)) := by
    intros
    rw [← hbi]
    refine Ev.binop (a := .int ((cs.getD 10 0).fdiv 4)) (b := .int 2) ?_ ?_ ?_
    · refine Ev.binop (a := .int (cs.getD 10 0)) (b := .int 4) ?_ ?_ ?_
      · exact Ev.idxL (ds := cs.map D.int) (Ev.localName (by kernel_rfl) h1 (by kernel_rfl)) Ev.int (cell_at cs 10 (by omega)) (by omega)
      · exact Ev.int
      · exact Op2.divInt _ _ (by decide) (PyProof.noPylong_small (by decide))
    · exact Ev.int
    · exact Op2.modInt _ _ (by decide)
  have hel : ∃ el, (if b = true then (PySem.Str.ofString "\r\n") else PySem.Str.ofString "\n") = mkS el ∧ EolOK el := by
    cases b
    · exact ⟨[10], rfl, .inl rfl⟩
    · exact ⟨[13, 10], rfl, .inr rfl⟩
  obtain ⟨el, hel, hel2⟩ := hel
  refine ExsF.assignTok (b := b) ?_ ?_ ?_ ?_ ?_
  · kernel_rfl
  · exact E
  · exact fun _ _ => rfl
  · exact fun _ _ => rfl
  · intro t ht
    rw [hel]
    have hh := h el t hel2 ht
    obtain ⟨q⟩ := hh; assumption
theorem s_text (T : Tops c) (ks : List Nat) (hks : OctOK ks) {ρ : Str → Option D} (h1 : ρ "octets" = some (natsD ks)) (k : Nat) : SL k c n ρ 7 (upd ρ "text" (.str (mkS ks))) := by
  have hkl : ks.length = 9 := hks.len
  have hsz : sizeLine = 16777216 := sizeLine_eq
  have etx : Txt.join (mkS []) ((ks.map chS)) = mkS ks := by
    have := txt_join [] (ks.map fun k => [k])
    rw [inter_nil, flatten_ones, List.map_map] at this
    exact this
  have hj : JoinOk (mkS []) (ks.map chS) = true := joinOk 1 (fun y hy => by obtain ⟨k, _, rfl⟩ := List.mem_map.mp hy; exact Nat.le_refl 1) (by rw [mkS_len]; simp [hkl])
  have hfn : Fn c n (.builtin "str.join") [.str (mkS []), .list ((ks.map chS).map D.str)] (.str (mkS ks)) := by
    have := Fn.join (c := c) (n := n) (mkS []) (ks.map chS) hj
    rwa [etx] at this
  refine ⟨ExF.of ?_⟩
  refine Ex.assign (d := .str (mkS ks)) ?_ ?_ ?_
  · refine Ev.meth1 (x := mkS []) (a := .list ((ks.map chS).map D.str)) (id := "str.join") ?_ ?_ ?_ ?_ ?_ ?_
    · exact Ev.str
    rotate_left
    · exact mJoin
    · exact hfn
    · exact fun _ => rfl
    · kernel_rfl
    · have e : (ks.map chS).map D.str = (ks.filter fun _ => true).map fun k => D.str (chS k) := by rw [filter_true, List.map_map]; rfl
      rw [e]
      refine Ev.compFM (xs := ["octet"]) (l := ks) (row := fun (k : Nat) => [D.int k]) ?_ ?_ ?_ ?_ ?_ ?_ ?_
      · exact Tgt.name _ _
      · exact map_rows (fun (k : Nat) => D.int k) ks ▸ ItEv.list (Ev.localName (by kernel_rfl) h1 (by kernel_rfl))
      · exact ⟨by kernel_rfl, by decide +kernel, by kernel_rfl, by kernel_rfl⟩
      · intro a _ b _ q
        simp only [List.cons.injEq, D.int.injEq, and_true] at q
        have : a = b := by omega
        subst this; exact ⟨rfl, rfl⟩
      · omega
      · intro k hk
        have := (hks.ok k hk).1
        exact ⟨rfl, rfl, fun _ => Ev.call (Ev.bi T.good T.chr (by kernel_rfl) (by kernel_rfl)) trivial (Evs.cons (Ev.localName (by kernel_rfl) rfl (by kernel_rfl)) Evs.nil) (Fn.chr k (by omega) (by omega))⟩
      · exact fun _ _ => rfl
  · exact .inl (by kernel_rfl)
  · exact fun _ _ => rfl
theorem law_2 (T : Tops c) (cs : List Int) (ks : List Nat) (hcl : cs.length = 15) (hks : OctOK ks) {d : D}
    (h : ∀ (w : Int) (en el : List Nat) (t : Tok), 4 ≤ w → w ≤ 7 → EndOK en → EolOK el → t ≠ 0 →
      XL (t + 1) c n (asρ [("cells", intsD cs), ("octets", natsD ks), ("width", .int w), ("end", .str (mkS en)), ("eol", .val (.str (mkS el) t)), ("text", .str (mkS ks))]) 8 d) :
    XL 0 c n (asρ [("cells", intsD cs), ("octets", natsD ks)]) 4 d := by
  have hw9 : 0 ≤ (cs.getD 9 0).fmod 4 ∧ (cs.getD 9 0).fmod 4 < 4 := ⟨Int.fmod_nonneg_of_pos _ (by decide), Int.fmod_lt_of_pos _ (by decide)⟩
  refine s_width cs hcl (by kernel_rfl) ?_
  obtain ⟨en, hen, x5⟩ := s_end (c := c) (n := n) cs hcl (ρ := upd (asρ [("cells", intsD cs), ("octets", natsD ks)]) "width" (.int (4 + (cs.getD 9 0).fmod 4))) (by kernel_rfl)
  refine XL.step (x5 1) (s_eol cs hcl (by kernel_rfl) fun el t hel ht => ?_) (by decide)
  refine XL.step (s_text T ks hks (by kernel_rfl) _) ?_ (by decide)
  refine XL.weak (h (4 + (cs.getD 9 0).fmod 4) en el t (by omega) (by omega) hen hel ht) (asρ_le ?_)
  intro p hp
  simp only [List.mem_cons, List.not_mem_nil, or_false] at hp
  rcases hp with rfl | rfl | rfl | rfl | rfl | rfl
  all_goals kernel_rfl
end
end Qp
namespace Qp
open PySem PySem.Calls PyProof.Rows PySem.W
noncomputable def figS : Str := mkS [48, 49, 50, 51, 52, 53, 54, 55, 56, 57, 65, 66, 67, 68, 69, 70]
theorem fig_at (j : Nat) (h : j < 16) : figS.cps.toList[j]? = some (hexC j) := by
  have : ∀ j : Fin 16, figS.cps.toList[j.1]? = some (hexC j.1) := by decide +kernel
  exact this ⟨j, h⟩
noncomputable def strsOf (l : List Nat) (f : Nat → Str) : D := .list ((l.map f).map D.str)
noncomputable def boolsOf (l : List Nat) (f : Nat → Bool) : D := .list ((l.map f).map D.bool)
theorem strsOf_eq (l : List Nat) (f : Nat → Str) : strsOf l f = .list ((l.filter fun _ => true).map fun k => D.str (f k)) := by unfold strsOf; rw [filter_true, List.map_map]; rfl
theorem boolsOf_eq (l : List Nat) (f : Nat → Bool) : boolsOf l f = .list ((l.filter fun _ => true).map fun k => D.bool (f k)) := by unfold boolsOf; rw [filter_true, List.map_map]; rfl
theorem bare_int (k : Nat) : (((k : Int) == 9) || ((decide (32 ≤ (k : Int)) && decide ((k : Int) < 127)) && ((k : Int) != 61))) = bareK k := by
  unfold bareK
  rw [Bool.eq_iff_iff]
  simp only [Bool.or_eq_true, Bool.and_eq_true, beq_iff_eq, decide_eq_true_eq, bne_iff_ne]
  omega
section
variable {c : Cx} {n : Nat}
theorem nat_inj {a b : Nat} (q : [D.int (a : Int)] = [D.int (b : Int)]) : a = b := by
  simp only [List.cons.injEq, D.int.injEq, and_true] at q; omega
theorem s_figures {ρ : Str → Option D} (k : Nat) : SL k c n ρ 8 (upd ρ "figures" (.str figS)) := by
  refine ⟨ExF.of ?_⟩
  refine Ex.assign (d := .str figS) ?_ ?_ ?_
  · exact Ev.str (x := figS)
  · exact .inr (show (fS 30).names.lookup _ = _ by kernel_rfl)
  · exact fun _ _ => rfl
theorem s_escapes (ks : List Nat) (hks : OctOK ks) {ρ : Str → Option D} (h1 : ρ "octets" = some (natsD ks)) (h2 : ρ "figures" = some (.str figS)) (k : Nat) : SL k c n ρ 9 (upd ρ "escapes" (strsOf ks escS)) := by
  have hsz : sizeLine = 16777216 := sizeLine_eq
  have hkl : ks.length = 9 := hks.len
  rw [strsOf_eq]
  refine ⟨ExF.of ?_⟩
  refine Ex.assignFM (xs := ["octet"]) (l := ks) (row := fun (k : Nat) => [D.int k]) (p := fun _ => true) (g := fun k => D.str (escS k)) (b := true) ?_ ?_ ?_ ?_ ?_ ?_ ?_ ?_ ?_ ?_
  · exact Tgt.name _ _
  · exact map_rows (fun (k : Nat) => D.int k) ks ▸ ItEv.list (Ev.localName (by kernel_rfl) h1 (by kernel_rfl))
  · exact ⟨by kernel_rfl, by decide +kernel, freeOK_of (fs := ["figures"]) (by kernel_rfl) (by kernel_rfl) (by intro x hx; rw [List.mem_singleton.mp hx, h2]; rfl), by kernel_rfl⟩
  · intro a _ b _ q; have := nat_inj q; subst this; exact ⟨rfl, rfl⟩
  · omega
  · intro k hk
    have hk256 := (hks.ok k hk).1
    refine ⟨rfl, rfl, fun _ => ?_⟩
    have i1 : idx? figS.cps.toList ((k : Int).fdiv 16) = some (hexC (k / 16)) := idx_nat _ _ (k / 16) _ (fdiv_nat k 16) (fig_at _ (by omega))
    have i2 : idx? figS.cps.toList ((k : Int).fmod 16) = some (hexC (k % 16)) := idx_nat _ _ (k % 16) _ (by rw [Int.fmod_eq_emod_of_nonneg _ (by decide)]; rfl) (fig_at _ (by omega))
    have b1 : (k : Int).fdiv 16 = ((k / 16 : Nat) : Int) := fdiv_nat k 16
    have b2 : (k : Int).fmod 16 = ((k % 16 : Nat) : Int) := by rw [Int.fmod_eq_emod_of_nonneg _ (by decide)]; rfl
    refine Ev.binop (a := .str ((⟨#[61]⟩ : Str) ++ ⟨#[hexC (k / 16)]⟩)) (b := .str ⟨#[hexC (k % 16)]⟩) (d := .str (escS k)) ?_ ?_ ?_
    · refine Ev.binop (a := .str ⟨#[61]⟩) (b := .str ⟨#[hexC (k / 16)]⟩) ?_ ?_ ?_
      · exact Ev.str
      · refine Ev.idxS (y := figS) (k := (k : Int).fdiv 16) ?_ ?_ ?_ ?_ ?_
        · exact Ev.cellName (.inl (by kernel_rfl)) (upds_ne (restr_at (by kernel_rfl) h2) (by kernel_rfl)) (by kernel_rfl) (by kernel_rfl)
        · exact Ev.binop (Ev.localName (by kernel_rfl) rfl (by kernel_rfl)) Ev.int (Op2.divInt _ _ (by decide) (PyProof.noPylong_small (by decide)))
        · exact i1
        · omega
        · omega
      · exact Op2.addStr _ _ (by show 1 + 1 ≤ _; omega)
    · refine Ev.idxS (y := figS) (k := (k : Int).fmod 16) ?_ ?_ ?_ ?_ ?_
      · exact Ev.cellName (.inl (by kernel_rfl)) (upds_ne (restr_at (by kernel_rfl) h2) (by kernel_rfl)) (by kernel_rfl) (by kernel_rfl)
      · exact Ev.binop (Ev.localName (by kernel_rfl) rfl (by kernel_rfl)) Ev.int (Op2.modInt _ _ (by decide))
      · exact i2
      · omega
      · omega
    · exact Op2.addStr _ _ (by show 2 + 1 ≤ _; omega)
  · kernel_rfl
  · rw [if_pos rfl]; kernel_rfl
  · kernel_rfl
  · exact fun _ _ => rfl
theorem s_bare (ks : List Nat) (hks : OctOK ks) {ρ : Str → Option D} (h1 : ρ "octets" = some (natsD ks)) (k : Nat) : SL k c n ρ 10 (upd ρ "bare" (boolsOf ks bareK)) := by
  have hsz : sizeLine = 16777216 := sizeLine_eq
  have hkl : ks.length = 9 := hks.len
  rw [boolsOf_eq]
  refine ⟨ExF.of ?_⟩
  refine Ex.assignFM (xs := ["octet"]) (l := ks) (row := fun (k : Nat) => [D.int k]) (p := fun _ => true) (g := fun k => D.bool (bareK k)) (b := true) ?_ ?_ ?_ ?_ ?_ ?_ ?_ ?_ ?_ ?_
  · exact Tgt.name _ _
  · exact map_rows (fun (k : Nat) => D.int k) ks ▸ ItEv.list (Ev.localName (by kernel_rfl) h1 (by kernel_rfl))
  · exact ⟨by kernel_rfl, by decide +kernel, by kernel_rfl, by kernel_rfl⟩
  · intro a _ b _ q; have := nat_inj q; subst this; exact ⟨rfl, rfl⟩
  · omega
  · intro k hk
    refine ⟨rfl, rfl, fun _ => ?_⟩
    rw [← bare_int k]
    refine Ev.boolOr (a := ((k : Int) == 9)) ?_ fun _ => ?_
    · exact Ev.cmp (Ev.localName (by kernel_rfl) rfl (by kernel_rfl)) Ev.int (Op2.eqInt _ _) (by kernel_rfl)
    · refine Ev.boolAnd (a := (decide (32 ≤ (k : Int)) && decide ((k : Int) < 127))) ?_ fun _ => ?_
      · exact Ev.cmp2 (b := .int k) Ev.int (Ev.localName (by kernel_rfl) rfl (by kernel_rfl)) Ev.int (Op2.leInt _ _) (fun _ => Op2.ltInt _ _) (by kernel_rfl)
      · exact Ev.cmp (Ev.localName (by kernel_rfl) rfl (by kernel_rfl)) Ev.int (Op2.neInt _ _) (by kernel_rfl)
  · kernel_rfl
  · rw [if_pos rfl]; kernel_rfl
  · kernel_rfl
  · exact fun _ _ => rfl
theorem zip3Rows (ks : List Nat) : zip3With (ks.map fun (k : Nat) => D.int k) ((ks.map bareK).map D.bool) ((ks.map escS).map D.str) = ks.map fun (k : Nat) => [D.int k, D.bool (bareK k), D.str (escS k)] := by
  induction ks with
  | nil => rfl
  | cons k ks ih => simpa [zip3With] using ih
theorem s_codes (T : Tops c) (ks : List Nat) (hks : OctOK ks) {ρ : Str → Option D} (h1 : ρ "octets" = some (natsD ks)) (h2 : ρ "bare" = some (boolsOf ks bareK)) (h3 : ρ "escapes" = some (strsOf ks escS)) (k : Nat) : SL k c n ρ 11 (upd ρ "codes" (strsOf ks codeS)) := by
  have hsz : sizeLine = 16777216 := sizeLine_eq
  have hkl : ks.length = 9 := hks.len
  rw [strsOf_eq]
  refine ⟨ExF.of ?_⟩
  refine Ex.assignFM (xs := ["octet", "plain", "escape"]) (l := ks) (row := fun (k : Nat) => [D.int k, D.bool (bareK k), D.str (escS k)]) (p := fun _ => true) (g := fun k => D.str (codeS k)) (b := true) ?_ ?_ ?_ ?_ ?_ ?_ ?_ ?_ ?_ ?_
  · exact Tgt.three _ _ _ _ _ _ _ _
  · rw [← zip3Rows]
    refine ItEv.zip3 ?_ ?_ ?_ ?_
    rotate_left 2
    · simp
    · simp
    · exact Ev.bi T.good T.zip (by kernel_rfl) (by kernel_rfl)
    · exact Evs.cons (Ev.localName (by kernel_rfl) h1 (by kernel_rfl)) (Evs.cons (Ev.localName (by kernel_rfl) h2 (by kernel_rfl)) (Evs.cons (Ev.localName (by kernel_rfl) h3 (by kernel_rfl)) Evs.nil))
  · exact ⟨by kernel_rfl, by decide +kernel, by kernel_rfl, by kernel_rfl⟩
  · intro a _ b _ q
    have : a = b := by simp only [List.cons.injEq, D.int.injEq] at q; omega
    subst this; exact ⟨rfl, rfl⟩
  · omega
  · intro k hk
    have hk256 := (hks.ok k hk).1
    refine ⟨rfl, rfl, fun _ => ?_⟩
    unfold codeS
    cases hb : bareK k with
    | true => exact Ev.ifexp (z := true) (Tr.value (Ev.localName (by kernel_rfl) rfl (by kernel_rfl)) (hb ▸ Tru.bool _) (fun _ _ => rfl)) (fun _ => Ev.call (Ev.bi T.good T.chr (by kernel_rfl) (by kernel_rfl)) trivial (Evs.cons (Ev.localName (by kernel_rfl) rfl (by kernel_rfl)) Evs.nil) (Fn.chr k (by omega) (by omega))) (fun q => by cases q)
    | false => exact Ev.ifexp (z := false) (Tr.value (Ev.localName (by kernel_rfl) rfl (by kernel_rfl)) (hb ▸ Tru.bool _) (fun _ _ => rfl)) (fun q => by cases q) (fun _ => Ev.localName (by kernel_rfl) rfl (by kernel_rfl))
  · kernel_rfl
  · rw [if_pos rfl]; kernel_rfl
  · kernel_rfl
  · exact fun _ _ => rfl
theorem s_told (T : Tops c) (ks : List Nat) (hks : OctOK ks) (bv : Value) (B : GFn c "body_check" bv) (fb : ∀ k : Nat, k < 256 → Fn c n bv [.int k] (.bool (!bareK k))) {ρ : Str → Option D} (h1 : ρ "octets" = some (natsD ks)) (k : Nat) : SL k c n ρ 12 (upd ρ "told" (boolsOf (ks ++ [10, 13]) fun k => !bareK k)) := by
  have hsz : sizeLine = 16777216 := sizeLine_eq
  have hkl : ks.length = 9 := hks.len
  rw [boolsOf_eq]
  refine ⟨ExF.of ?_⟩
  refine Ex.assignFM (xs := ["octet"]) (l := ks ++ [10, 13]) (row := fun (k : Nat) => [D.int k]) (p := fun _ => true) (g := fun k => D.bool (!bareK k)) (b := true) ?_ ?_ ?_ ?_ ?_ ?_ ?_ ?_ ?_ ?_
  · exact Tgt.name _ _
  · rw [← map_rows (fun (k : Nat) => D.int k)]
    refine ItEv.list ?_
    rw [List.map_append]
    exact Ev.binop (Ev.localName (by kernel_rfl) h1 (by kernel_rfl)) (Ev.list (Evs.cons Ev.int (Evs.cons Ev.int Evs.nil)) (by show 2 ≤ _; omega)) (Op2.addList (by simp; omega))
  · exact ⟨by kernel_rfl, by decide +kernel, by kernel_rfl, by kernel_rfl⟩
  · intro a _ b _ q; have := nat_inj q; subst this; exact ⟨rfl, rfl⟩
  · simp; omega
  · intro k hk
    have hk256 : k < 256 := by
      rcases List.mem_append.mp hk with q | q
      · exact (hks.ok k q).1
      · simp at q; omega
    exact ⟨rfl, rfl, fun _ => Ev.call (Ev.globalName T.good (by kernel_rfl) B.mg (by kernel_rfl)) B.plain (Evs.cons (Ev.localName (by kernel_rfl) rfl (by kernel_rfl)) Evs.nil) (fb k hk256)⟩
  · kernel_rfl
  · rw [if_pos rfl]; kernel_rfl
  · kernel_rfl
  · exact fun _ _ => rfl
end
end Qp
namespace Qp
open PySem PySem.Calls PyProof.Rows PySem.W
theorem eqD_bools (a b : List Bool) : eqD (.list (a.map D.bool)) (.list (b.map D.bool)) = (a == b) := eqD_list D.bool eqD_bool a b
theorem eqD_strs (a b : List Str) : eqD (.list (a.map D.str)) (.list (b.map D.str)) = (a == b) := eqD_list D.str eqD_str a b
theorem cmp_bools (a : List Bool) : Cmp (.list (a.map D.bool)) := (CmpL.list (k := 0) fun d hd => by obtain ⟨i, _, rfl⟩ := List.mem_map.mp hd; exact CmpL.bool 0 i).cmp (by decide)
theorem cmp_strs {a : List Str} (h : ∀ x ∈ a, PyData.strOk x = true) : Cmp (.list (a.map D.str)) := (CmpL.strs h).cmp (by decide)
theorem strOk_mk {l : List Nat} (h : ∀ k ∈ l, k < 1114112) : PyData.strOk (mkS l) = true := by
  unfold PyData.strOk mkS
  simpa using h
theorem hexC_lt (d : Nat) (h : d < 16) : hexC d < 128 := by unfold hexC; split <;> omega
theorem escS_ok (k : Nat) (h : k < 256) : PyData.strOk (escS k) = true := by
  refine strOk_mk fun x hx => ?_
  simp only [List.mem_cons, List.not_mem_nil, or_false] at hx
  have h1 := hexC_lt (k / 16) (by omega)
  have h2 := hexC_lt (k % 16) (by omega)
  rcases hx with rfl | rfl | rfl <;> omega
theorem codeS_ok (k : Nat) (h : k < 256) : PyData.strOk (codeS k) = true := by
  unfold codeS
  split
  · exact strOk_mk fun x hx => by rw [List.mem_singleton.mp hx]; omega
  · exact escS_ok k h
noncomputable def lastN (ks : List Nat) : Nat := ks.getLastD 0
/-- the blank that is to be escaped behind the line, or nothing -/
noncomputable def blankS (ks : List Nat) : Str := if blankK (lastN ks) then escS (lastN ks) else ⟨#[]⟩
noncomputable def tailL (en el : List Nat) : List Nat := if en = [] then [] else el
section
variable {c : Cx} {n : Nat}
theorem s_ifTold (T : Tops c) (ks : List Nat) (hks : OctOK ks) {ρ : Str → Option D} (h1 : ρ "told" = some (boolsOf (ks ++ [10, 13]) fun k => !bareK k)) (h2 : ρ "bare" = some (boolsOf ks bareK)) (k : Nat) : SL k c (n + 8) ρ 13 ρ := by
  have hsz : sizeLine = 16777216 := sizeLine_eq
  have hkl : ks.length = 9 := hks.len
  have lt : (((ks ++ [10, 13]).map fun k => !bareK k)) = (ks.map bareK).map not ++ [true, true] := by
    rw [List.map_append, List.map_map]; rfl
  have t1 : Op2 c (n + 8) (compareOp .NotEq) (boolsOf (ks ++ [10, 13]) fun k => !bareK k) (.list (((ks.map bareK).map not ++ [true, true]).map D.bool)) (.bool false) := by
    have := Op2.ne (c := c) (n := n) (cmp_bools ((ks ++ [10, 13]).map fun k => !bareK k)) (cmp_bools ((ks.map bareK).map not ++ [true, true]))
    rw [eqD_bools, lt] at this
    simp only [beq_self_eq_true, Bool.not_true] at this
    unfold boolsOf; rw [lt]; exact this
  have t2 : Op2 c (n + 8) (compareOp .NotEq) (.list []) (.list []) (.bool false) := by
    have := Op2.ne (c := c) (n := n) (cmp_bools []) (cmp_bools [])
    exact this
  refine ⟨ExF.of ?_⟩
  refine Ex.ifF ?_ Exs.nil
  refine Tr.orF ?_ ?_
  · refine Tr.cmp ?_ ?_ t1 ?_
    · exact Ev.localName (by kernel_rfl) h1 (by kernel_rfl)
    · rw [List.map_append]
      refine Ev.binop (a := .list (((ks.map bareK).map not).map D.bool)) (b := .list [.bool true, .bool true]) ?_ ?_ ?_
      · have e : ((ks.map bareK).map not).map D.bool = ((ks.map bareK).filter fun _ => true).map fun b => D.bool (!b) := by rw [filter_true, List.map_map]; rfl
        rw [e]
        refine Ev.compFM (xs := ["plain"]) (l := ks.map bareK) (row := fun b => [D.bool b]) ?_ ?_ ?_ ?_ ?_ ?_ ?_
        · exact Tgt.name _ _
        · exact map_rows D.bool _ ▸ ItEv.list (Ev.localName (by kernel_rfl) h2 (by kernel_rfl))
        · exact ⟨by kernel_rfl, by decide +kernel, by kernel_rfl, by kernel_rfl⟩
        · intro a _ b _ q; simp only [List.cons.injEq, D.bool.injEq, and_true] at q; subst q; exact ⟨rfl, rfl⟩
        · simp; omega
        · intro b _
          exact ⟨rfl, rfl, fun _ => Ev.unary (Ev.localName (by kernel_rfl) rfl (by kernel_rfl)) (Op1.not (Tru.bool b))⟩
        · exact fun _ _ => rfl
      · refine Ev.list ?_ ?_
        · exact Evs.cons Ev.bool (Evs.cons Ev.bool Evs.nil)
        · show 2 ≤ _; omega
      · exact Op2.addList (by simp; omega)
    · kernel_rfl
  · refine Tr.orF ?_ Tr.orN
    refine Tr.cmp ?_ ?_ t2 ?_
    · have e : ([] : List D) = (((ks ++ [10, 13]).map fun k => !bareK k).filter fun _ => false).map D.bool := by simp
      rw [e]
      refine Ev.compFM (xs := ["one"]) (l := (ks ++ [10, 13]).map fun k => !bareK k) (row := fun b => [D.bool b]) ?_ ?_ ?_ ?_ ?_ ?_ ?_
      · exact Tgt.name _ _
      · exact map_rows D.bool _ ▸ ItEv.list (Ev.localName (by kernel_rfl) h1 (by kernel_rfl))
      · exact ⟨by kernel_rfl, by decide +kernel, by kernel_rfl, by kernel_rfl⟩
      · intro a _ b _ q; simp only [List.cons.injEq, D.bool.injEq, and_true] at q; subst q; exact ⟨rfl, rfl⟩
      · simp; omega
      · intro b _
        refine ⟨rfl, ?_, fun q => by cases q⟩
        show Tr _ _ _ _ _ _
        refine Tr.not (b := true) ?_
        refine Tr.value (a := .bool true) ?_ ?_ ?_
        · exact Ev.call (Ev.bi T.good T.isinstance (by kernel_rfl) (by kernel_rfl)) trivial (Evs.cons (d := .bool b) (Ev.localName (by kernel_rfl) rfl (by kernel_rfl)) (Evs.cons (Ev.bi T.good T.bool (by kernel_rfl) (by kernel_rfl)) Evs.nil)) (Fn.isBool b)
        · exact Tru.bool true
        · exact fun _ _ => rfl
      · exact fun _ _ => rfl
    · exact Ev.list Evs.nil (by simp)
    · kernel_rfl
theorem s_ifQuote (T : Tops c) (ks : List Nat) (hks : OctOK ks) (qv : Value) (Q : GFn c "quote" qv) (fq : ∀ k : Nat, k < 256 → Fn c (n + 8) qv [.str (chS k)] (.str (escS k))) {ρ : Str → Option D} (h1 : ρ "text" = some (.str (mkS ks))) (h2 : ρ "escapes" = some (strsOf ks escS)) (k : Nat) : SL k c (n + 8) ρ 14 ρ := by
  have hsz : sizeLine = 16777216 := sizeLine_eq
  have hkl : ks.length = 9 := hks.len
  have hk2 : ∀ k ∈ ks ++ [10, 13], k < 256 := fun k hk => by
    rcases List.mem_append.mp hk with q | q
    · exact (hks.ok k q).1
    · simp at q; omega
  have lt : (ks ++ [10, 13]).map escS = ks.map escS ++ [escS 10, escS 13] := by rw [List.map_append]; rfl
  have ok : ∀ x ∈ (ks ++ [10, 13]).map escS, PyData.strOk x = true := fun x hx => by obtain ⟨k, hk, rfl⟩ := List.mem_map.mp hx; exact escS_ok k (hk2 k hk)
  have t1 : Op2 c (n + 8) (compareOp .NotEq) (.list (((ks ++ [10, 13]).map escS).map D.str)) (.list ((ks.map escS ++ [escS 10, escS 13]).map D.str)) (.bool false) := by
    have := Op2.ne (c := c) (n := n) (cmp_strs ok) (cmp_strs (lt ▸ ok))
    rw [eqD_strs, lt] at this
    simp only [beq_self_eq_true, Bool.not_true] at this
    rw [lt]; exact this
  refine ⟨ExF.of ?_⟩
  refine Ex.ifF ?_ Exs.nil
  refine Tr.cmp ?_ ?_ t1 ?_
  · have e : ((ks ++ [10, 13]).map escS).map D.str = ((ks ++ [10, 13]).filter fun _ => true).map fun k => D.str (escS k) := by rw [filter_true, List.map_map]; rfl
    rw [e]
    refine Ev.compFM (xs := ["sign"]) (l := ks ++ [10, 13]) (row := fun k => [D.str (chS k)]) ?_ ?_ ?_ ?_ ?_ ?_ ?_
    · exact Tgt.name _ _
    · have e2 : (charsD (mkS ks ++ mkS [10, 13])).map (fun d => [d]) = (ks ++ [10, 13]).map fun k => [D.str (chS k)] := by
        rw [mkS_append]; unfold charsD; rw [mkS_list, List.map_map]; rfl
      rw [← e2]
      refine ItEv.str ?_
      refine Ev.binop (a := .str (mkS ks)) (b := .str (mkS [10, 13])) ?_ ?_ ?_
      · exact Ev.localName (by kernel_rfl) h1 (by kernel_rfl)
      · exact Ev.str
      · exact Op2.addStr _ _ (by rw [mkS_len, mkS_len]; simp; omega)
    · exact ⟨by kernel_rfl, by decide +kernel, by kernel_rfl, by kernel_rfl⟩
    · intro a _ b _ q
      have : a = b := by simpa [chS] using q
      subst this; exact ⟨rfl, rfl⟩
    · simp; omega
    · intro k hk
      exact ⟨rfl, rfl, fun _ => Ev.call (Ev.globalName T.good (by kernel_rfl) Q.mg (by kernel_rfl)) Q.plain (Evs.cons (Ev.localName (by kernel_rfl) rfl (by kernel_rfl)) Evs.nil) (fq k (hk2 k hk))⟩
    · exact fun _ _ => rfl
  · rw [List.map_append]
    refine Ev.binop (a := strsOf ks escS) (b := .list [.str (escS 10), .str (escS 13)]) ?_ ?_ ?_
    · exact Ev.localName (by kernel_rfl) h2 (by kernel_rfl)
    · refine Ev.list ?_ ?_
      · exact Evs.cons (Ev.str (x := escS 10)) (Evs.cons (Ev.str (x := escS 13)) Evs.nil)
      · show 2 ≤ _; omega
    · exact Op2.addList (by simp; omega)
  · kernel_rfl
theorem last_nat (ks : List Nat) (hne : ks ≠ []) : idx? (ks.map fun (k : Nat) => D.int k) (-1) = some (.int (lastN ks : Nat)) := idx_map (fun (k : Nat) => D.int k) _ _ _ (idx_last ks hne 0)
theorem last_str (ks : List Nat) (hne : ks ≠ []) (f : Nat → Str) : idx? ((ks.map f).map D.str) (-1) = some (.str (f (lastN ks))) := by
  rw [List.map_map]
  exact idx_map (D.str ∘ f) _ _ _ (idx_last ks hne 0)
theorem s_blank (ks : List Nat) (hks : OctOK ks) {ρ : Str → Option D} (h1 : ρ "octets" = some (natsD ks)) (h2 : ρ "escapes" = some (strsOf ks escS)) (k : Nat) : SL k c (n + 8) ρ 15 (upd ρ "blank" (.str (blankS ks))) := by
  have hsz : sizeLine = 16777216 := sizeLine_eq
  have hkl : ks.length = 9 := hks.len
  have hne : ks ≠ [] := by intro q; rw [q] at hkl; cases hkl
  have tst : Op2 c (n + 8) (compareOp .In) (.int (lastN ks : Nat)) (.tup [.int 9, .int 32]) (.bool (blankK (lastN ks))) := by
    have := Op2.inTup (c := c) (n := n) (x := .int (lastN ks : Nat)) (l := [.int 9, .int 32]) ((CmpL.int 0 _).cmp (by decide)) ((CmpL.tup (k := 0) (l := [.int 9, .int 32]) (by intro d hd; simp only [List.mem_cons, List.not_mem_nil, or_false] at hd; rcases hd with rfl | rfl <;> exact CmpL.int 0 _)).cmp (by decide))
    have e : ([D.int 9, D.int 32].any fun y => eqD y (.int (lastN ks : Nat))) = blankK (lastN ks) := by
      simp only [List.any_cons, List.any_nil, eqD_int, Bool.or_false, blankK]
      rw [Bool.eq_iff_iff]
      simp only [Bool.or_eq_true, beq_iff_eq]
      omega
    rw [e] at this; exact this
  have E : ∀ {p1 p2 p3 p4 p5 p6 p7 p8 : Pos} {z1 z2 z3 z4 : Nat}, Tr c (n + 8) (fS 30) ρ (.Compare (.Subscript (.Name "octets" p1) (.UnaryOp .USub (.Constant (.int 1) z1 p2) p3) p4) [.In] [.Tuple [.Constant (.int 9) z2 p5, .Constant (.int 32) z3 p6] z4 p7] p8) (blankK (lastN ks)) := by
    intros
    refine Tr.cmp ?_ ?_ tst ?_
    · exact Ev.idxL (ds := ks.map fun (k : Nat) => D.int k) (Ev.localName (by kernel_rfl) h1 (by kernel_rfl)) (Ev.unary Ev.int (Op1.neg 1)) (last_nat ks hne) (by simp; omega)
    · exact Ev.tup (Evs.cons Ev.int (Evs.cons Ev.int Evs.nil)) (by show 2 ≤ _; omega)
    · kernel_rfl
  refine ⟨ExF.of ?_⟩
  refine Ex.assign (d := .str (blankS ks)) ?_ ?_ ?_
  · unfold blankS
    cases hb : blankK (lastN ks) with
    | true =>
      rw [hb] at E
      refine Ev.ifexp (z := true) ?_ (fun _ => ?_) (fun q => by cases q)
      · exact E
      exact Ev.idxL (ds := (ks.map escS).map D.str) (Ev.localName (by kernel_rfl) h2 (by kernel_rfl)) (Ev.unary Ev.int (Op1.neg 1)) (last_str ks hne escS) (by simp; omega)
    | false =>
      rw [hb] at E
      refine Ev.ifexp (z := false) ?_ (fun q => by cases q) (fun _ => ?_)
      · exact E
      exact Ev.str (x := ⟨#[]⟩)
  · exact .inl (by kernel_rfl)
  · exact fun _ _ => rfl
theorem Ev.tokS {sc : Scope} {ρ : Str → Option D} {e : Expr} {x : Str} {t : Tok} (h : Ev c n sc ρ e (.val (.str x t))) : Ev c n sc ρ e (.str x) := fun F A s env k => (h F A s env k).mono fun v h' _ q => ⟨t, q⟩
theorem s_tail {ρ : Str → Option D} (en el : List Nat) (t : Tok) (h1 : ρ "end" = some (.str (mkS en))) (h2 : ρ "eol" = some (.val (.str (mkS el) t))) (k : Nat) : SL k c n ρ 16 (upd ρ "tail" (.str (mkS (tailL en el)))) := by
  have tst : ∀ b, (mkS en != mkS []) = b → Op2 c n (compareOp .NotEq) (.str (mkS en)) (.str (mkS [])) (.bool b) := fun b hb => hb ▸ Op2.neStr _ _
  refine ⟨ExF.of ?_⟩
  refine Ex.assign (d := .str (mkS (tailL en el))) ?_ ?_ ?_
  · unfold tailL
    by_cases he : en = []
    · rw [if_pos he]
      refine Ev.ifexp (z := false) ?_ (fun q => by cases q) (fun _ => ?_)
      · refine Tr.cmp ?_ ?_ (tst _ (by rw [he]; rfl)) ?_
        · exact Ev.localName (by kernel_rfl) h1 (by kernel_rfl)
        · exact Ev.str (x := mkS [])
        · kernel_rfl
      · exact Ev.str (x := mkS [])
    · rw [if_neg he]
      refine Ev.ifexp (z := true) ?_ (fun _ => ?_) (fun q => by cases q)
      · refine Tr.cmp ?_ ?_ (tst _ (by rw [bne_iff_ne]; intro q; apply he; have := congrArg (fun x => x.cps.toList) q; simpa [mkS] using this)) ?_
        · exact Ev.localName (by kernel_rfl) h1 (by kernel_rfl)
        · exact Ev.str (x := mkS [])
        · kernel_rfl
      · exact Ev.tokS (Ev.localName (by kernel_rfl) h2 (by kernel_rfl))
  · exact .inl (by kernel_rfl)
  · exact fun _ _ => rfl
end
end Qp
namespace Qp
open PySem PySem.Calls PyProof.Rows PySem.W
structure WOK (W : List (List Int)) (K : Nat) : Prop where
  ne : W ≠ []
  len : ∀ w ∈ W, w.length = K
  few : W.length ≤ 60
  k1 : 1 ≤ K
  k : K ≤ 60
noncomputable def wsD (W : List (List Int)) : D := .list (W.map intsD)
noncomputable def sizesOf (ks : List Nat) : List Int := ks.map fun k => ((codeS k).length : Int)
noncomputable def extraOf (ks : List Nat) : Int := if blankK (lastN ks) then 2 else 0
noncomputable def maxL : List Int → Int
  | [] => 0
  | [a] => a
  | a :: b :: l => max a (maxL (b :: l))
noncomputable def minL : List Int → Int
  | [] => 0
  | [a] => a
  | a :: b :: l => min a (minL (b :: l))
theorem maxL_mem : ∀ l : List Int, l ≠ [] → maxL l ∈ l
  | [a], _ => by simp [maxL]
  | a :: b :: l, _ => by
    have := maxL_mem (b :: l) (by simp)
    rw [maxL]
    rcases Int.le_total a (maxL (b :: l)) with h | h
    · rw [Int.max_eq_right h]; exact List.mem_cons_of_mem _ this
    · rw [Int.max_eq_left h]; exact List.mem_cons_self
theorem maxL_le : ∀ l : List Int, ∀ a ∈ l, a ≤ maxL l
  | [a], x, hx => by rw [List.mem_singleton.mp hx]; exact Int.le_refl _
  | a :: b :: l, x, hx => by
    rw [maxL]
    rcases List.mem_cons.mp hx with rfl | hx
    · exact Int.le_max_left _ _
    · exact Int.le_trans (maxL_le (b :: l) x hx) (Int.le_max_right _ _)
theorem minL_mem : ∀ l : List Int, l ≠ [] → minL l ∈ l
  | [a], _ => by simp [minL]
  | a :: b :: l, _ => by
    have := minL_mem (b :: l) (by simp)
    rw [minL]
    rcases Int.le_total a (minL (b :: l)) with h | h
    · rw [Int.min_eq_left h]; exact List.mem_cons_self
    · rw [Int.min_eq_right h]; exact List.mem_cons_of_mem _ this
theorem minL_le : ∀ l : List Int, ∀ a ∈ l, minL l ≤ a
  | [a], x, hx => by rw [List.mem_singleton.mp hx]; exact Int.le_refl _
  | a :: b :: l, x, hx => by
    rw [minL]
    rcases List.mem_cons.mp hx with rfl | hx
    · exact Int.min_le_left _ _
    · exact Int.le_trans (Int.min_le_right _ _) (minL_le (b :: l) x hx)
/-- the column of a place -/
noncomputable def colOf (W : List (List Int)) (i : Nat) : List Int := W.map fun w => w.getD i 0
noncomputable def latestOf (W : List (List Int)) (K : Nat) : List Int := (List.range K).map fun i => maxL (colOf W i)
noncomputable def earliestOf (W : List (List Int)) (K : Nat) : List Int := (List.range K).map fun i => minL (colOf W i)
theorem colOf_ne {W : List (List Int)} (h : W ≠ []) (i : Nat) : colOf W i ≠ [] := by unfold colOf; simpa using h
theorem mem_rangeI0 {K : Nat} {i : Int} (h : i ∈ rangeI 0 (K : Int)) : ∃ j : Nat, j < K ∧ i = (j : Int) := by
  unfold rangeI at h
  obtain ⟨j, hj, rfl⟩ := List.mem_map.mp h
  exact ⟨j, by simpa using hj, by simp⟩
theorem rangeI_len (K : Nat) : (rangeI 0 (K : Int)).length = K := by unfold rangeI; simp
theorem int_inj1 {a b : Int} (q : [D.int a] = [D.int b]) : a = b := by simpa using q
section
variable {c : Cx} {n : Nat}
theorem s_ways (T : Tops c) (ks : List Nat) (hks : OctOK ks) (w : Int) (W : List (List Int)) (lw : Value) (G : GFn c "_law_ways" lw) (fw : Fn c n lw [intsD (sizesOf ks), .int w, .int (extraOf ks)] (wsD W)) {ρ : Str → Option D}
    (h1 : ρ "codes" = some (strsOf ks codeS)) (h2 : ρ "width" = some (.int w)) (h3 : ρ "blank" = some (.str (blankS ks))) (k : Nat) : SL k c n ρ 17 (upd ρ "ways" (wsD W)) := by
  have hsz : sizeLine = 16777216 := sizeLine_eq
  have hkl : ks.length = 9 := hks.len
  refine ⟨ExF.of ?_⟩
  refine Ex.assign (d := wsD W) ?_ ?_ ?_
  · refine Ev.call (f := lw) (ds := [intsD (sizesOf ks), .int w, .int (extraOf ks)]) ?_ ?_ ?_ fw
    · exact Ev.globalName T.good (by kernel_rfl) G.mg (by kernel_rfl)
    · exact G.plain
    · refine Evs.cons ?_ ?_
      · have e : intsD (sizesOf ks) = .list (((ks.map codeS).filter fun _ => true).map fun x => D.int (x.length : Int)) := by
          rw [filter_true]; unfold intsD sizesOf; rw [List.map_map, List.map_map]; rfl
        rw [e]
        refine Ev.compFM (xs := ["code"]) (l := ks.map codeS) (row := fun x => [D.str x]) ?_ ?_ ?_ ?_ ?_ ?_ ?_
        · exact Tgt.name _ _
        · exact map_rows D.str _ ▸ ItEv.list (Ev.localName (by kernel_rfl) h1 (by kernel_rfl))
        · exact ⟨by kernel_rfl, by decide +kernel, by kernel_rfl, by kernel_rfl⟩
        · intro a _ b _ q; simp only [List.cons.injEq, D.str.injEq, and_true] at q; subst q; exact ⟨rfl, rfl⟩
        · simp; omega
        · intro x hx
          obtain ⟨k, _, rfl⟩ := List.mem_map.mp hx
          have : (codeS k).length ≤ 3 := by rw [codeS_mk, mkS_len, codeL_len]; split <;> omega
          exact ⟨rfl, rfl, fun _ => Ev.call (Ev.bi T.good T.len (by kernel_rfl) (by kernel_rfl)) trivial (Evs.cons (Ev.localName (by kernel_rfl) rfl (by kernel_rfl)) Evs.nil) (Fn.lenStr _ (by omega))⟩
        · exact fun _ _ => rfl
      · refine Evs.cons ?_ ?_
        · exact Ev.localName (by kernel_rfl) h2 (by kernel_rfl)
        · refine Evs.cons ?_ ?_
          · have tst : ∀ b, (blankS ks != mkS []) = b → Op2 c n (compareOp .NotEq) (.str (blankS ks)) (.str (mkS [])) (.bool b) := fun b hb => hb ▸ Op2.neStr _ _
            unfold extraOf
            cases hb : blankK (lastN ks) with
            | true =>
              refine Ev.ifexp (z := true) ?_ (fun _ => ?_) (fun q => by cases q)
              · refine Tr.cmp ?_ ?_ (tst _ (by unfold blankS; rw [hb, if_pos rfl, escS_mk, bne_iff_ne]; intro q; have := congrArg (fun x => x.cps.toList) q; simp [mkS] at this)) ?_
                · exact Ev.localName (by kernel_rfl) h3 (by kernel_rfl)
                · exact Ev.str (x := mkS [])
                · kernel_rfl
              · exact Ev.int
            | false =>
              refine Ev.ifexp (z := false) ?_ (fun q => by cases q) (fun _ => ?_)
              · refine Tr.cmp ?_ ?_ (tst _ (by unfold blankS; rw [hb]; rfl)) ?_
                · exact Ev.localName (by kernel_rfl) h3 (by kernel_rfl)
                · exact Ev.str (x := mkS [])
                · kernel_rfl
              · exact Ev.int
          · exact Evs.nil
  · exact .inr (show (fS 30).names.lookup _ = _ by kernel_rfl)
  · exact fun _ _ => rfl
theorem s_places (T : Tops c) (W : List (List Int)) (K : Nat) (hW : WOK W K) {ρ : Str → Option D} (h1 : ρ "ways" = some (wsD W)) (k : Nat) : SL k c n ρ 18 (upd ρ "places" (.range 0 K)) := by
  have hk := hW.k
  have hfew := hW.few
  obtain ⟨w0, hw0⟩ : ∃ w0, W[0]? = some w0 := by
    cases W with
    | nil => exact absurd rfl hW.ne
    | cons a l => exact ⟨a, rfl⟩
  have hl : w0.length = K := hW.len w0 (List.mem_of_getElem? hw0)
  refine ⟨ExF.of ?_⟩
  refine Ex.assign (d := .range 0 K) ?_ ?_ ?_
  · refine Ev.call (f := .type "range") (ds := [.int K]) ?_ trivial ?_ (Fn.range1 _)
    · exact Ev.bi T.good T.range (by kernel_rfl) (by kernel_rfl)
    · refine Evs.cons ?_ ?_
      · refine Ev.call (f := .builtin "len") (ds := [intsD w0]) ?_ trivial ?_ ?_
        · exact Ev.bi T.good T.len (by kernel_rfl) (by kernel_rfl)
        · refine Evs.cons ?_ ?_
          · exact Ev.idxL (ds := W.map intsD) (Ev.cellName (.inl (by kernel_rfl)) h1 (by kernel_rfl) (by kernel_rfl)) Ev.int (idx_map intsD W _ _ (idx_nat _ _ 0 _ rfl hw0)) (by simp; omega)
          · exact Evs.nil
        · have := Fn.lenList (c := c) (n := n) (w0.map D.int) (by simp; omega)
          rw [List.length_map, hl] at this; exact this
      · exact Evs.nil
  · exact .inl (by kernel_rfl)
  · exact fun _ _ => rfl
theorem col_eq (W : List (List Int)) (K : Nat) (f : List Int → Int) : intsD ((List.range K).map fun i => f (colOf W i)) = .list (((rangeI 0 (K : Int)).filter fun _ => true).map fun i => D.int (f (colOf W i.toNat))) := by
  rw [filter_true]; unfold intsD rangeI; simp
theorem s_latest (T : Tops c) (W : List (List Int)) (K : Nat) (hW : WOK W K) {ρ : Str → Option D} (h1 : ρ "ways" = some (wsD W)) (h2 : ρ "places" = some (.range 0 K)) (k : Nat) : SL k c n ρ 19 (upd ρ "latest" (intsD (latestOf W K))) := by
  have hsz : sizeLine = 16777216 := sizeLine_eq
  have hk := hW.k
  have hfew := hW.few
  unfold latestOf
  rw [col_eq]
  refine ⟨ExF.of ?_⟩
  refine Ex.assignFM (xs := ["place"]) (l := rangeI 0 (K : Int)) (row := fun i => [D.int i]) (p := fun _ => true) (g := fun i => D.int (maxL (colOf W i.toNat))) (b := true) ?_ ?_ ?_ ?_ ?_ ?_ ?_ ?_ ?_ ?_
  · exact Tgt.name _ _
  · exact ItEv.range (Ev.localName (by kernel_rfl) h2 (by kernel_rfl)) (by decide) (by omega)
  · exact ⟨by kernel_rfl, by decide +kernel, freeOK_of (fs := ["ways"]) (by kernel_rfl) (by kernel_rfl) (by intro x hx; rw [List.mem_singleton.mp hx, h1]; rfl), by kernel_rfl⟩
  · intro a _ b _ q; have := int_inj1 q; subst this; exact ⟨rfl, rfl⟩
  · rw [rangeI_len]; omega
  · intro i hi
    obtain ⟨j, hj, rfl⟩ := mem_rangeI0 hi
    refine ⟨rfl, rfl, fun _ => ?_⟩
    refine Ev.call (f := .builtin "max") (ds := [intsD (colOf W j)]) ?_ trivial ?_ ?_
    · exact Ev.bi T.good T.max (by kernel_rfl) (by kernel_rfl)
    · refine Evs.cons ?_ ?_
      · have e2 : intsD (colOf W j) = .list ((W.filter fun _ => true).map fun w => D.int (w.getD j 0)) := by
          rw [filter_true]; unfold intsD colOf; rw [List.map_map]; rfl
        rw [e2]
        refine Ev.compFM (xs := ["way"]) (l := W) (row := fun w => [intsD w]) ?_ ?_ ?_ ?_ ?_ ?_ ?_
        · exact Tgt.name _ _
        · exact map_rows intsD W ▸ ItEv.list (Ev.cellName (.inl (by kernel_rfl)) (upds1_ne (restr_at (by kernel_rfl) h1) (by decide +kernel)) (by kernel_rfl) (by kernel_rfl))
        · exact ⟨by kernel_rfl, by decide +kernel, by kernel_rfl, by kernel_rfl⟩
        · intro a _ b _ q; have := intsD_inj q; subst this; exact ⟨rfl, rfl⟩
        · omega
        · intro w hw
          exact ⟨rfl, rfl, fun _ => Ev.idxL (ds := w.map D.int) (Ev.localName (by kernel_rfl) rfl (by kernel_rfl)) (Ev.cellName (.inl (by kernel_rfl)) rfl (by kernel_rfl) (by kernel_rfl)) (getD_at w j (by rw [hW.len w hw]; exact hj)) (by simp; have := hW.len w hw; omega)⟩
        · exact fun _ _ => rfl
      · exact Evs.nil
    · exact Fn.max _ (colOf_ne hW.ne j) _ (maxL_mem _ (colOf_ne hW.ne j)) (maxL_le _)
  · kernel_rfl
  · rw [if_pos rfl]; kernel_rfl
  · kernel_rfl
  · exact fun _ _ => rfl
theorem s_earliest (T : Tops c) (W : List (List Int)) (K : Nat) (hW : WOK W K) {ρ : Str → Option D} (h1 : ρ "ways" = some (wsD W)) (h2 : ρ "places" = some (.range 0 K)) (k : Nat) : SL k c n ρ 20 (upd ρ "earliest" (intsD (earliestOf W K))) := by
  have hsz : sizeLine = 16777216 := sizeLine_eq
  have hk := hW.k
  have hfew := hW.few
  unfold earliestOf
  rw [col_eq]
  refine ⟨ExF.of ?_⟩
  refine Ex.assignFM (xs := ["place"]) (l := rangeI 0 (K : Int)) (row := fun i => [D.int i]) (p := fun _ => true) (g := fun i => D.int (minL (colOf W i.toNat))) (b := true) ?_ ?_ ?_ ?_ ?_ ?_ ?_ ?_ ?_ ?_
  · exact Tgt.name _ _
  · exact ItEv.range (Ev.localName (by kernel_rfl) h2 (by kernel_rfl)) (by decide) (by omega)
  · exact ⟨by kernel_rfl, by decide +kernel, freeOK_of (fs := ["ways"]) (by kernel_rfl) (by kernel_rfl) (by intro x hx; rw [List.mem_singleton.mp hx, h1]; rfl), by kernel_rfl⟩
  · intro a _ b _ q; have := int_inj1 q; subst this; exact ⟨rfl, rfl⟩
  · rw [rangeI_len]; omega
  · intro i hi
    obtain ⟨j, hj, rfl⟩ := mem_rangeI0 hi
    refine ⟨rfl, rfl, fun _ => ?_⟩
    refine Ev.call (f := .builtin "min") (ds := [intsD (colOf W j)]) ?_ trivial ?_ ?_
    · exact Ev.bi T.good T.min (by kernel_rfl) (by kernel_rfl)
    · refine Evs.cons ?_ ?_
      · have e2 : intsD (colOf W j) = .list ((W.filter fun _ => true).map fun w => D.int (w.getD j 0)) := by
          rw [filter_true]; unfold intsD colOf; rw [List.map_map]; rfl
        rw [e2]
        refine Ev.compFM (xs := ["way"]) (l := W) (row := fun w => [intsD w]) ?_ ?_ ?_ ?_ ?_ ?_ ?_
        · exact Tgt.name _ _
        · exact map_rows intsD W ▸ ItEv.list (Ev.cellName (.inl (by kernel_rfl)) (upds1_ne (restr_at (by kernel_rfl) h1) (by decide +kernel)) (by kernel_rfl) (by kernel_rfl))
        · exact ⟨by kernel_rfl, by decide +kernel, by kernel_rfl, by kernel_rfl⟩
        · intro a _ b _ q; have := intsD_inj q; subst this; exact ⟨rfl, rfl⟩
        · omega
        · intro w hw
          exact ⟨rfl, rfl, fun _ => Ev.idxL (ds := w.map D.int) (Ev.localName (by kernel_rfl) rfl (by kernel_rfl)) (Ev.cellName (.inl (by kernel_rfl)) rfl (by kernel_rfl) (by kernel_rfl)) (getD_at w j (by rw [hW.len w hw]; exact hj)) (by simp; have := hW.len w hw; omega)⟩
        · exact fun _ _ => rfl
      · exact Evs.nil
    · exact Fn.min _ (colOf_ne hW.ne j) _ (minL_mem _ (colOf_ne hW.ne j)) (minL_le _)
  · kernel_rfl
  · rw [if_pos rfl]; kernel_rfl
  · kernel_rfl
  · exact fun _ _ => rfl
end
end Qp
namespace Qp
open PySem PySem.Calls PyProof.Rows PySem.W
section
variable {c : Cx} {n : Nat}
theorem neStr_same {a b : Str} (h : a = b) : Op2 c n (compareOp .NotEq) (.str a) (.str b) (.bool false) := by
  have := Op2.neStr (c := c) (n := n) a b
  rw [h] at this ⊢
  simpa using this
theorem Op2.addMk (a b : List Nat) (h : a.length + b.length ≤ 16777216) : Op2 c n (binaryOp .Add) (.str (mkS a)) (.str (mkS b)) (.str (mkS (a ++ b))) := by
  have := Op2.addStr (c := c) (n := n) (mkS a) (mkS b) (by rw [mkS_len, mkS_len, sizeLine_eq]; exact h)
  rwa [mkS_append] at this
theorem s_21 (T : Tops c) (ks en el R L tl : List Nat) (lat : List Int) (bl : Str) (w : Int) (t : Tok) (hl1 : ks.length + en.length ≤ 1000) (hl2 : L.length + tl.length ≤ 100000) (hR : R = L ++ tl)
    (bev lv : Value) (Bg : GFn c "body_encode" bev) (Lg : GFn c "_law_letter" lv) (fb : Fn c n bev [.str (mkS (ks ++ en)), .int w, .str (mkS el)] (.str (mkS R)))
    (fl : Fn c n lv [strsOf ks codeS, intsD lat, .str bl, .str (mkS el)] (.str (mkS L))) {ρ : Str → Option D}
    (h1 : ρ "text" = some (.str (mkS ks))) (h2 : ρ "end" = some (.str (mkS en))) (h3 : ρ "width" = some (.int w)) (h4 : ρ "eol" = some (.val (.str (mkS el) t))) (h5 : ρ "codes" = some (strsOf ks codeS)) (h6 : ρ "latest" = some (intsD lat)) (h7 : ρ "blank" = some (.str bl)) (h8 : ρ "tail" = some (.str (mkS tl))) (k : Nat) : SL k c n ρ 21 ρ := by
  refine ⟨ExF.of ?_⟩
  refine Ex.ifF ?_ Exs.nil
  refine Tr.cmp (a := .str (mkS R)) (b := .str (mkS (L ++ tl))) ?_ ?_ (neStr_same (by rw [hR])) ?_
  · refine Ev.call (f := bev) (ds := [.str (mkS (ks ++ en)), .int w, .str (mkS el)]) ?_ Bg.plain ?_ fb
    · exact Ev.globalName T.good (by kernel_rfl) Bg.mg (by kernel_rfl)
    · refine Evs.cons ?_ ?_
      · exact Ev.binop (Ev.localName (by kernel_rfl) h1 (by kernel_rfl)) (Ev.localName (by kernel_rfl) h2 (by kernel_rfl)) (Op2.addMk _ _ (by omega))
      · refine Evs.cons ?_ ?_
        · exact Ev.localName (by kernel_rfl) h3 (by kernel_rfl)
        · refine Evs.cons ?_ ?_
          · exact Ev.tokS (Ev.localName (by kernel_rfl) h4 (by kernel_rfl))
          · exact Evs.nil
  · refine Ev.binop (a := .str (mkS L)) (b := .str (mkS tl)) ?_ ?_ (Op2.addMk _ _ (by omega))
    · refine Ev.call (f := lv) (ds := [strsOf ks codeS, intsD lat, .str bl, .str (mkS el)]) ?_ Lg.plain ?_ fl
      · exact Ev.globalName T.good (by kernel_rfl) Lg.mg (by kernel_rfl)
      · refine Evs.cons ?_ ?_
        · exact Ev.localName (by kernel_rfl) h5 (by kernel_rfl)
        · refine Evs.cons ?_ ?_
          · exact Ev.localName (by kernel_rfl) h6 (by kernel_rfl)
          · refine Evs.cons ?_ ?_
            · exact Ev.localName (by kernel_rfl) h7 (by kernel_rfl)
            · refine Evs.cons ?_ ?_
              · exact Ev.tokS (Ev.localName (by kernel_rfl) h4 (by kernel_rfl))
              · exact Evs.nil
    · exact Ev.localName (by kernel_rfl) h8 (by kernel_rfl)
  · kernel_rfl
theorem s_whole (T : Tops c) (ks L0 : List Nat) (bl : Str) (hl : L0.length ≤ 100000) (lv : Value) (Lg : GFn c "_law_letter" lv) (fl : Fn c n lv [strsOf ks codeS, .list [], .str bl, .str (mkS [10])] (.str (mkS L0))) {ρ : Str → Option D}
    (h5 : ρ "codes" = some (strsOf ks codeS)) (h7 : ρ "blank" = some (.str bl)) (k : Nat) : SL k c n ρ 22 (upd ρ "whole" (.str (mkS (L0 ++ [10])))) := by
  refine ⟨ExF.of ?_⟩
  refine Ex.assign (d := .str (mkS (L0 ++ [10]))) ?_ ?_ ?_
  · refine Ev.binop (a := .str (mkS L0)) (b := .str (mkS [10])) ?_ ?_ (Op2.addMk _ _ (by simp; omega))
    · refine Ev.call (f := lv) (ds := [strsOf ks codeS, .list [], .str bl, .str (mkS [10])]) ?_ Lg.plain ?_ fl
      · exact Ev.globalName T.good (by kernel_rfl) Lg.mg (by kernel_rfl)
      · refine Evs.cons ?_ ?_
        · exact Ev.localName (by kernel_rfl) h5 (by kernel_rfl)
        · refine Evs.cons ?_ ?_
          · exact Ev.list Evs.nil (by simp)
          · refine Evs.cons ?_ ?_
            · exact Ev.localName (by kernel_rfl) h7 (by kernel_rfl)
            · refine Evs.cons ?_ ?_
              · exact Ev.str
              · exact Evs.nil
    · exact Ev.str
  · exact .inl (by kernel_rfl)
  · exact fun _ _ => rfl
theorem mul_b (m : Nat) (h0 : 2 ≤ m) (h : m ≤ 1000) : Op2 c n (binaryOp .Mult) (.str (mkS [98])) (.int m) (.str (mkS (List.replicate m 98))) := by
  have e : Txt.mul (mkS [98]) (m : Int) = mkS (List.replicate m 98) := by
    unfold Txt.mul
    rw [if_neg (by omega), if_neg (by simp [mkS_len]; omega)]
    refine Str.ext' ?_
    show (List.replicate (m : Int).toNat (mkS [98]).cps).foldl (fun x1 x2 => x1 ++ x2) #[] = (List.replicate m 98).toArray
    rw [Int.toNat_natCast]
    have : ∀ (m : Nat) (acc : Array Nat), (List.replicate m (mkS [98]).cps).foldl (fun x1 x2 => x1 ++ x2) acc = acc ++ (List.replicate m 98).toArray := by
      intro m
      induction m with
      | zero => intro acc; simp
      | succ m ih =>
        intro acc
        rw [List.replicate_succ, List.foldl_cons, ih, List.replicate_succ]
        apply Array.toList_inj.mp
        simp [mkS]
    rw [this]; simp
  rw [← e]
  refine Op2.mulStr _ _ ⟨?_, fun _ _ => ?_, fun _ _ => ?_⟩
  · simp; omega
  · rw [mkS_len]
    simp only [List.length_cons, List.length_nil]
    have h1 : (1000 : Int) ≤ (2 ^ 63 - 1) / (m : Int) := by
      refine Int.le_ediv_of_mul_le (by omega) ?_
      omega
    omega
  · unfold Builtin.Str.tooLong
    rw [mkS_len, sizeLine_eq]
    simp; omega
theorem s_23 (T : Tops c) (ks wh : List Nat) (hks : ks.length ≤ 1000) (bev dv : Value) (Bg : GFn c "body_encode" bev) (Dg : GFn c "decode" dv) (fb1 : Fn c n bev [.str (mkS (ks ++ [10]))] (.str (mkS wh))) (fd1 : Fn c n dv [.str (mkS wh)] (.str (mkS (ks ++ [10]))))
    (fb77 : Fn c n bev [.str (mkS (List.replicate 77 98))] (.str (mkS (List.replicate 75 98 ++ [61, 10, 98, 98])))) {ρ : Str → Option D} (h1 : ρ "text" = some (.str (mkS ks))) (h2 : ρ "whole" = some (.str (mkS wh))) (k : Nat) : SL k c n ρ 23 ρ := by
  have T1 : ∀ {p1 p2 p3 : Pos} {z : Nat}, Ev c n (fS 30) ρ (.BinOp (.Name "text" p1) .Add (.Constant (.str (mkS [10])) z p2) p3) (.str (mkS (ks ++ [10]))) := by
    intros
    refine Ev.binop (a := .str (mkS ks)) (b := .str (mkS [10])) ?_ ?_ (Op2.addMk _ _ (by simp; omega))
    · exact Ev.localName (by kernel_rfl) h1 (by kernel_rfl)
    · exact Ev.str
  refine ⟨ExF.of ?_⟩
  refine Ex.ifF ?_ Exs.nil
  refine Tr.orF ?_ ?_
  · refine Tr.cmp (a := .str (mkS wh)) (b := .str (mkS wh)) ?_ ?_ (neStr_same rfl) ?_
    · refine Ev.call (f := bev) (ds := [.str (mkS (ks ++ [10]))]) ?_ Bg.plain ?_ fb1
      · exact Ev.globalName T.good (by kernel_rfl) Bg.mg (by kernel_rfl)
      · refine Evs.cons ?_ Evs.nil
        exact T1
    · exact Ev.localName (by kernel_rfl) h2 (by kernel_rfl)
    · kernel_rfl
  · refine Tr.orF ?_ ?_
    · refine Tr.cmp (a := .str (mkS (ks ++ [10]))) (b := .str (mkS (ks ++ [10]))) ?_ ?_ (neStr_same rfl) ?_
      · refine Ev.call (f := dv) (ds := [.str (mkS wh)]) ?_ Dg.plain ?_ fd1
        · exact Ev.globalName T.good (by kernel_rfl) Dg.mg (by kernel_rfl)
        · refine Evs.cons ?_ Evs.nil
          exact Ev.localName (by kernel_rfl) h2 (by kernel_rfl)
      · exact T1
      · kernel_rfl
    · refine Tr.orF ?_ Tr.orN
      refine Tr.cmp (a := .str (mkS (List.replicate 75 98 ++ [61, 10, 98, 98]))) (b := .str (mkS (List.replicate 75 98 ++ [61, 10, 98, 98]))) ?_ ?_ (neStr_same rfl) ?_
      · refine Ev.call (f := bev) (ds := [.str (mkS (List.replicate 77 98))]) ?_ Bg.plain ?_ fb77
        · exact Ev.globalName T.good (by kernel_rfl) Bg.mg (by kernel_rfl)
        · refine Evs.cons ?_ Evs.nil
          refine Ev.binop (a := .str (mkS [98])) (b := .int (77 : Nat)) ?_ ?_ (mul_b 77 (by decide) (by decide))
          · exact Ev.str
          · exact Ev.int
      · refine Ev.binop (a := .str (mkS (List.replicate 75 98))) (b := .str (mkS [61, 10, 98, 98])) ?_ ?_ (Op2.addMk _ _ (by simp))
        · refine Ev.binop (a := .str (mkS [98])) (b := .int (75 : Nat)) ?_ ?_ (mul_b 75 (by decide) (by decide))
          · exact Ev.str
          · exact Ev.int
        · exact Ev.str
      · kernel_rfl
theorem s_25 (T : Tops c) (el : List Nat) (w : Int) (t : Tok) (bev dv : Value) (Bg : GFn c "body_encode" bev) (Dg : GFn c "decode" dv) (fb0 : Fn c n bev [.str (mkS []), .int w, .str (mkS el)] (.str (mkS []))) (fd0 : Fn c n dv [.str (mkS []), .str (mkS el)] (.str (mkS [])))
    {ρ : Str → Option D} (h3 : ρ "width" = some (.int w)) (h4 : ρ "eol" = some (.val (.str (mkS el) t))) (k : Nat) : SL k c n ρ 25 ρ := by
  refine ⟨ExF.of ?_⟩
  refine Ex.ifF ?_ Exs.nil
  refine Tr.orF ?_ ?_
  · refine Tr.cmp (a := .str (mkS [])) (b := .str (mkS [])) ?_ ?_ (neStr_same rfl) ?_
    · refine Ev.call (f := bev) (ds := [.str (mkS []), .int w, .str (mkS el)]) ?_ Bg.plain ?_ fb0
      · exact Ev.globalName T.good (by kernel_rfl) Bg.mg (by kernel_rfl)
      · refine Evs.cons ?_ ?_
        · exact Ev.str
        · refine Evs.cons ?_ ?_
          · exact Ev.localName (by kernel_rfl) h3 (by kernel_rfl)
          · refine Evs.cons ?_ ?_
            · exact Ev.tokS (Ev.localName (by kernel_rfl) h4 (by kernel_rfl))
            · exact Evs.nil
    · exact Ev.str
    · kernel_rfl
  · refine Tr.orF ?_ Tr.orN
    refine Tr.cmp (a := .str (mkS [])) (b := .str (mkS [])) ?_ ?_ (neStr_same rfl) ?_
    · refine Ev.call (f := dv) (ds := [.str (mkS []), .str (mkS el)]) ?_ Dg.plain ?_ fd0
      · exact Ev.globalName T.good (by kernel_rfl) Dg.mg (by kernel_rfl)
      · refine Evs.cons ?_ ?_
        · exact Ev.str
        · refine Evs.cons ?_ ?_
          · exact Ev.tokS (Ev.localName (by kernel_rfl) h4 (by kernel_rfl))
          · exact Evs.nil
    · exact Ev.str
    · kernel_rfl
end
end Qp
namespace Qp
open PySem PySem.Calls PyProof.Rows PySem.W
noncomputable def msgS : Str := PySem.Str.ofString "maxlinelen must be at least 4"
noncomputable def handsOf (cs : List Int) (W : List (List Int)) : List (List Int) := (pick cs (some 11) (some (13 + ((cs.getD 10 0).fdiv 8).fmod 3)) none).map fun x => W.getD (x.fmod (W.length : Int)).toNat []
theorem pick_mid (cs : List Int) (hcl : cs.length = 15) (u : Int) (h0 : 0 ≤ u) (h2 : u ≤ 2) : (pick cs (some 11) (some (13 + u)) none).length = (2 + u).toNat := by
  rw [pick_plain]
  have h1 : clipAt cs.length 11 = 11 := by have := clipAt_cast cs.length 11; omega
  have h3 : clipAt cs.length (13 + u) = (13 + u).toNat := by have := clipAt_cast cs.length (13 + u); omega
  simp only [Option.elim, h1, h3, List.length_take, List.length_drop]
  omega
theorem handsOf_ok (cs : List Int) (hcl : cs.length = 15) (W : List (List Int)) (hW : W ≠ []) : 2 ≤ (handsOf cs W).length ∧ (handsOf cs W).length ≤ 4 ∧ ∀ w ∈ handsOf cs W, w ∈ W := by
  have h3 : 0 ≤ ((cs.getD 10 0).fdiv 8).fmod 3 ∧ ((cs.getD 10 0).fdiv 8).fmod 3 < 3 := ⟨Int.fmod_nonneg_of_pos _ (by decide), Int.fmod_lt_of_pos _ (by decide)⟩
  have hl := pick_mid cs hcl _ h3.1 (by omega)
  have hpos : 0 < W.length := List.length_pos_iff.mpr hW
  refine ⟨by unfold handsOf; rw [List.length_map, hl]; omega, by unfold handsOf; rw [List.length_map, hl]; omega, fun w hw => ?_⟩
  obtain ⟨x, _, rfl⟩ := List.mem_map.mp hw
  have hx : 0 ≤ x.fmod (W.length : Int) ∧ x.fmod (W.length : Int) < W.length := ⟨Int.fmod_nonneg_of_pos _ (by omega), Int.fmod_lt_of_pos _ (by omega)⟩
  rw [List.getD_eq_getElem?_getD, List.getElem?_eq_getElem (by omega)]
  exact List.getElem_mem _
noncomputable def dueOf (ks tl : List Nat) : List Nat := ks ++ if tl = [] then [] else [60, 62]
section
variable {c : Cx} {n : Nat}
theorem s_pages (T : Tops c) (hn : 1 ≤ n) (VE : Bi c "ValueError" (.type "ValueError")) (ST : Bi c "str" (.type "str")) (cs : List Int) (hcl : cs.length = 15) (ks en el : List Nat) (hl : ks.length + en.length ≤ 1000) (t : Tok) (bev : Value) (Bg : GFn c "body_encode" bev)
    (fr : ∀ pg : List Nat, ∀ w : Int, w < 4 → FnR c n bev [.str (mkS pg), .int w, .str (mkS el)] msgS) {ρ : Str → Option D} (h1 : ρ "text" = some (.str (mkS ks))) (h2 : ρ "end" = some (.str (mkS en))) (h3 : ρ "cells" = some (intsD cs)) (h4 : ρ "eol" = some (.val (.str (mkS el) t))) (h5 : ρ "error" = none) (k : Nat) :
    SL k c n ρ 24 (upd (upd ρ "page" (.str (mkS []))) "page" (.str (mkS (ks ++ en)))) := by
  have hsz : sizeLine = 16777216 := sizeLine_eq
  have hlc : (cs.map D.int).length = 15 := by simpa using hcl
  have h9 : 0 ≤ (cs.getD 9 0).fmod 5 := Int.fmod_nonneg_of_pos _ (by decide)
  have one : ∀ (ρ' : Str → Option D) (pg : List Nat), (∀ (x : Str) d, x ≠ "page" → ρ x = some d → ρ' x = some d) → ρ' "error" = none → ρ' "page" = some (.str (mkS pg)) → ExsF k c n (fS 30) (Cells 30) none ρ' [] (forB (stL 24)) (.next ρ' []) := fun ρ' pg hρ he hp => by
    refine ExsF.cons (ac' := []) ?_ ExsF.nil
    refine ExF.tryVE (msg := msgS) hn (ds := [.str (mkS pg), .int (3 - (cs.getD 9 0).fmod 5), .str (mkS el)]) T.good (by kernel_rfl) (f := bev) ?_ Bg.plain ?_ (fr pg _ (by omega)) (by kernel_rfl) he (by kernel_rfl) (by kernel_rfl) VE.1 VE.2 (by kernel_rfl) ST.1 ST.2
    · exact Ev.globalName T.good (by kernel_rfl) Bg.mg (by kernel_rfl)
    · refine Evs.cons ?_ ?_
      · exact Ev.localName (by kernel_rfl) hp (by kernel_rfl)
      · refine Evs.cons ?_ ?_
        · refine Ev.binop (a := .int 3) (b := .int ((cs.getD 9 0).fmod 5)) ?_ ?_ (Op2.subInt _ _)
          · exact Ev.int
          · refine Ev.binop (a := .int (cs.getD 9 0)) (b := .int 5) ?_ ?_ ?_
            · exact Ev.idxL (ds := cs.map D.int) (Ev.localName (by kernel_rfl) (hρ _ _ (by decide +kernel) h3) (by kernel_rfl)) Ev.int (cell_at cs 9 (by omega)) (by omega)
            · exact Ev.int
            · exact Op2.modInt _ _ (by decide)
        · refine Evs.cons ?_ ?_
          · exact Ev.tokS (Ev.localName (by kernel_rfl) (hρ _ _ (by decide +kernel) h4) (by kernel_rfl))
          · exact Evs.nil
  refine ⟨?_⟩
  refine ExF.for (xs := ["page"]) (rows := [D.str (mkS []), .str (mkS (ks ++ en))].map fun d => [d]) ?_ ?_ ?_ ?_ ?_ ?_
  · exact Tgt.name _ _
  · refine ItEv.tup ?_
    refine Ev.tup ?_ ?_
    · refine Evs.cons ?_ ?_
      · exact Ev.str
      · refine Evs.cons ?_ Evs.nil
        exact Ev.binop (Ev.localName (by kernel_rfl) h1 (by kernel_rfl)) (Ev.localName (by kernel_rfl) h2 (by kernel_rfl)) (Op2.addMk _ _ (by omega))
    · show 2 ≤ _; omega
  · intro x hx; rw [List.mem_singleton.mp hx]; exact .inl (by kernel_rfl)
  · intro row hr; obtain ⟨d, _, rfl⟩ := List.mem_map.mp hr; rfl
  · refine .inl ⟨upd ρ "page" (.str (mkS [])), [], .inl ?_, .inl ⟨upd (upd ρ "page" (.str (mkS []))) "page" (.str (mkS (ks ++ en))), [], .inl ?_, rfl⟩⟩
    · exact one (upd ρ "page" (.str (mkS []))) [] (fun x d hx e => upd_ne hx e) (by unfold upd; rw [if_neg (by decide +kernel)]; exact h5) rfl
    · exact one (upd (upd ρ "page" (.str (mkS []))) "page" (.str (mkS (ks ++ en)))) (ks ++ en) (fun x d hx e => upd_ne hx (upd_ne hx e)) (by unfold upd; rw [if_neg (by decide +kernel), if_neg (by decide +kernel)]; exact h5) rfl
  · exact fun _ _ => rfl
theorem s_hands (T : Tops c) (cs : List Int) (hcl : cs.length = 15) (W : List (List Int)) (K : Nat) (hW : WOK W K) {ρ : Str → Option D} (h1 : ρ "ways" = some (wsD W)) (h2 : ρ "cells" = some (intsD cs)) (k : Nat) : SL k c n ρ 26 (upd ρ "hands" (wsD (handsOf cs W))) := by
  have hsz : sizeLine = 16777216 := sizeLine_eq
  have hlc : (cs.map D.int).length = 15 := by simpa using hcl
  have hpos : 0 < W.length := List.length_pos_iff.mpr hW.ne
  have hfew := hW.few
  have hlm : (W.map intsD).length = W.length := by simp
  let u : Int := 13 + ((cs.getD 10 0).fdiv 8).fmod 3
  have e : wsD (handsOf cs W) = .list (((pick cs (some 11) (some u) none).filter fun _ => true).map fun x => intsD (W.getD (x.fmod (W.length : Int)).toNat [])) := by
    rw [filter_true]; unfold wsD handsOf; rw [List.map_map]; rfl
  rw [e]
  refine ⟨ExF.of ?_⟩
  refine Ex.assignFM (xs := ["cell"]) (l := pick cs (some 11) (some u) none) (row := fun i => [D.int i]) (p := fun _ => true) (g := fun x => intsD (W.getD (x.fmod (W.length : Int)).toNat [])) (b := false) ?_ ?_ ?_ ?_ ?_ ?_ ?_ ?_ ?_ ?_
  · exact Tgt.name _ _
  · rw [← map_rows D.int, ← pick_map]
    refine ItEv.list ?_
    refine Ev.sliceL (l := some 11) (u := some u) (z := none) ?_ ?_ ?_ ?_ ?_ ?_
    · exact Ev.localName (by kernel_rfl) h2 (by kernel_rfl)
    · exact Ev.int
    · refine Ev.binop (a := .int 13) (b := .int (((cs.getD 10 0).fdiv 8).fmod 3)) ?_ ?_ (Op2.addInt _ _)
      · exact Ev.int
      · refine Ev.binop (a := .int ((cs.getD 10 0).fdiv 8)) (b := .int 3) ?_ ?_ (Op2.modInt _ _ (by decide))
        · refine Ev.binop (a := .int (cs.getD 10 0)) (b := .int 8) ?_ ?_ ?_
          · exact Ev.idxL (ds := cs.map D.int) (Ev.localName (by kernel_rfl) h2 (by kernel_rfl)) Ev.int (cell_at cs 10 (by omega)) (by omega)
          · exact Ev.int
          · exact Op2.divInt _ _ (by decide) (PyProof.noPylong_small (by decide))
        · exact Ev.int
    · trivial
    · simp
    · omega
  · exact ⟨by kernel_rfl, by decide +kernel, freeOK_of (fs := ["ways"]) (by kernel_rfl) (by kernel_rfl) (by intro x hx; rw [List.mem_singleton.mp hx, h1]; rfl), by kernel_rfl⟩
  · intro a _ b _ q; have := int_inj1 q; subst this; exact ⟨rfl, rfl⟩
  · have := pick_le cs (some 11) (some u); omega
  · intro x _
    have hx : 0 ≤ x.fmod (W.length : Int) ∧ x.fmod (W.length : Int) < W.length := ⟨Int.fmod_nonneg_of_pos _ (by omega), Int.fmod_lt_of_pos _ (by omega)⟩
    refine ⟨rfl, rfl, fun _ => ?_⟩
    refine Ev.idxL (ds := W.map intsD) (k := x.fmod (W.length : Int)) ?_ ?_ ?_ ?_ ?_
    · exact Ev.cellName (.inl (by kernel_rfl)) (upds1_ne (restr_at (by kernel_rfl) h1) (by decide +kernel)) (by kernel_rfl) (by kernel_rfl)
    · refine Ev.binop (a := .int x) (b := .int W.length) ?_ ?_ (Op2.modInt _ _ (by omega))
      · exact Ev.localName (by kernel_rfl) rfl (by kernel_rfl)
      · refine Ev.call (f := .builtin "len") (ds := [wsD W]) ?_ trivial ?_ ?_
        · exact Ev.bi T.good T.len (by kernel_rfl) (by kernel_rfl)
        · refine Evs.cons ?_ Evs.nil
          exact Ev.cellName (.inl (by kernel_rfl)) (upds1_ne (restr_at (by kernel_rfl) h1) (by decide +kernel)) (by kernel_rfl) (by kernel_rfl)
        · have := Fn.lenList (c := c) (n := n) (W.map intsD) (by omega)
          rw [hlm] at this; exact this
    · refine idx_map intsD W _ _ (idx_nat _ _ (x.fmod (W.length : Int)).toNat _ (by omega) ?_)
      rw [List.getD_eq_getElem?_getD, List.getElem?_eq_getElem (by omega)]; rfl
    · omega
    · exact fun _ _ => rfl
  · kernel_rfl
  · rw [if_neg (by decide)]; exact .inr (show (fS 30).names.lookup _ = _ by kernel_rfl)
  · kernel_rfl
  · exact fun _ _ => rfl
theorem s_due (ks tl : List Nat) (hl : ks.length ≤ 1000) {ρ : Str → Option D} (h1 : ρ "text" = some (.str (mkS ks))) (h2 : ρ "tail" = some (.str (mkS tl))) (k : Nat) : SL k c n ρ 27 (upd ρ "due" (.str (mkS (dueOf ks tl)))) := by
  have tst : ∀ b, (mkS tl != mkS []) = b → Op2 c n (compareOp .NotEq) (.str (mkS tl)) (.str (mkS [])) (.bool b) := fun b hb => hb ▸ Op2.neStr _ _
  refine ⟨ExF.of ?_⟩
  refine Ex.assign (d := .str (mkS (dueOf ks tl))) ?_ ?_ ?_
  · unfold dueOf
    refine Ev.binop (a := .str (mkS ks)) (b := .str (mkS (if tl = [] then [] else [60, 62]))) ?_ ?_ (Op2.addMk _ _ (by split <;> simp <;> omega))
    · exact Ev.localName (by kernel_rfl) h1 (by kernel_rfl)
    · by_cases he : tl = []
      · rw [if_pos he]
        refine Ev.ifexp (z := false) ?_ (fun q => by cases q) (fun _ => ?_)
        · refine Tr.cmp ?_ ?_ (tst _ (by rw [he]; rfl)) ?_
          · exact Ev.localName (by kernel_rfl) h2 (by kernel_rfl)
          · exact Ev.str (x := mkS [])
          · kernel_rfl
        · exact Ev.str (x := mkS [])
      · rw [if_neg he]
        refine Ev.ifexp (z := true) ?_ (fun _ => ?_) (fun q => by cases q)
        · refine Tr.cmp ?_ ?_ (tst _ (by rw [bne_iff_ne]; intro q; apply he; have := congrArg (fun x => x.cps.toList) q; simpa [mkS] using this)) ?_
          · exact Ev.localName (by kernel_rfl) h2 (by kernel_rfl)
          · exact Ev.str (x := mkS [])
          · kernel_rfl
        · exact Ev.str (x := mkS [60, 62])
  · exact .inl (by kernel_rfl)
  · exact fun _ _ => rfl
end
end Qp
namespace Qp
open PySem PySem.Calls PyProof.Rows PySem.W
section
variable {c : Cx} {n : Nat}
theorem EvF.mono {k : Nat} {sc : Scope} {ρ : Str → Option D} {e : Expr} {d : D} (x : Ev c n sc ρ e d) : EvF k c n sc ρ e d := EvF.of x
/-- what a hand's letter must do -/
structure HandOK (c : Cx) (n : Nat) (lv dv : Value) (ks tl el : List Nat) (bl : Str) (w : List Int) : Prop where
  out : ∃ L : List Nat, L.length + tl.length ≤ 2000 ∧ Fn c n lv [strsOf ks codeS, intsD w, .str bl, .str (mkS el)] (.str (mkS L)) ∧ Fn c n dv [.str (mkS (L ++ tl)), .str (mkS [60, 62])] (.str (mkS (dueOf ks tl))) ∧
    Fn c n dv [.str (Txt.replace (mkS (L ++ tl)) (mkS el) (mkS [32, 9] ++ mkS el)), .str (mkS [60, 62])] (.str (mkS (dueOf ks tl)))
noncomputable def Kept (ρ ρ' : Str → Option D) : Prop := ∀ (x : Str) d, x ≠ "hand" → x ≠ "letter" → ρ x = some d → ρ' x = some d
theorem hand_turn (T : Tops c) (ks tl el : List Nat) (bl : Str) (t : Tok) (ht : t ≠ 0) (hel : EolOK el) (lv dv : Value) (Lg : GFn c "_law_letter" lv) (Dg : GFn c "decode" dv) (w : List Int) (H : HandOK c n lv dv ks tl el bl w) {ρ : Str → Option D}
    (h1 : ρ "codes" = some (strsOf ks codeS)) (h2 : ρ "blank" = some (.str bl)) (h3 : ρ "eol" = some (.val (.str (mkS el) t))) (h4 : ρ "tail" = some (.str (mkS tl))) (h5 : ρ "due" = some (.str (mkS (dueOf ks tl)))) (h6 : ρ "hand" = some (intsD w)) :
    ∃ ρ', Kept ρ ρ' ∧ ExsF (t + 1) c n (fS 30) (Cells 30) none ρ [] (forB (stL 28)) (.next ρ' []) := by
  obtain ⟨L, hL, fl, fd, fd2⟩ := H.out
  have hell : 1 ≤ el.length ∧ el.length ≤ 2 := by rcases hel with rfl | rfl <;> simp
  let ρ1 := upd ρ "letter" (.str (mkS (L ++ tl)))
  have k1 : Kept ρ ρ1 := fun x d _ n2 e => upd_ne n2 e
  have l1 : ρ1 "letter" = some (.str (mkS (L ++ tl))) := rfl
  have e1 : ρ1 "eol" = some (.val (.str (mkS el) t)) := k1 _ _ (by decide +kernel) (by decide +kernel) h3
  have d1 : ρ1 "due" = some (.str (mkS (dueOf ks tl))) := k1 _ _ (by decide +kernel) (by decide +kernel) h5
  refine ⟨ρ1, k1, ?_⟩
  refine ExsF.cons (ρ' := ρ1) (ac' := []) ?_ ?_
  · refine ExF.of ?_
    refine Ex.assign (d := .str (mkS (L ++ tl))) ?_ ?_ ?_
    · refine Ev.binop (a := .str (mkS L)) (b := .str (mkS tl)) ?_ ?_ (Op2.addMk _ _ (by omega))
      · refine Ev.call (f := lv) (ds := [strsOf ks codeS, intsD w, .str bl, .str (mkS el)]) ?_ Lg.plain ?_ fl
        · exact Ev.globalName T.good (by kernel_rfl) Lg.mg (by kernel_rfl)
        · refine Evs.cons ?_ ?_
          · exact Ev.localName (by kernel_rfl) h1 (by kernel_rfl)
          · refine Evs.cons ?_ ?_
            · exact Ev.localName (by kernel_rfl) h6 (by kernel_rfl)
            · refine Evs.cons ?_ ?_
              · exact Ev.localName (by kernel_rfl) h2 (by kernel_rfl)
              · refine Evs.cons ?_ ?_
                · exact Ev.tokS (Ev.localName (by kernel_rfl) h3 (by kernel_rfl))
                · exact Evs.nil
      · exact Ev.localName (by kernel_rfl) h4 (by kernel_rfl)
    · exact .inl (by kernel_rfl)
    · exact fun _ _ => rfl
  · refine ExsF.cons (ρ' := ρ1) (ac' := []) ?_ ExsF.nil
    refine ExF.ifF ?_ ExsF.nil
    refine TrF.orF ?_ ?_
    · refine TrF.of ?_
      refine Tr.cmp (a := .str (mkS (dueOf ks tl))) (b := .str (mkS (dueOf ks tl))) ?_ ?_ (neStr_same rfl) ?_
      · refine Ev.call (f := dv) (ds := [.str (mkS (L ++ tl)), .str (mkS [60, 62])]) ?_ Dg.plain ?_ fd
        · exact Ev.globalName T.good (by kernel_rfl) Dg.mg (by kernel_rfl)
        · refine Evs.cons ?_ ?_
          · exact Ev.localName (by kernel_rfl) l1 (by kernel_rfl)
          · refine Evs.cons ?_ Evs.nil
            exact Ev.str
      · exact Ev.localName (by kernel_rfl) d1 (by kernel_rfl)
      · kernel_rfl
    · refine TrF.orF ?_ (TrF.of Tr.orN)
      refine TrF.cmp (a := .str (mkS (dueOf ks tl))) (b := .str (mkS (dueOf ks tl))) ?_ ?_ (neStr_same rfl) ?_
      · refine EvF.call (f := dv) (ds := [.str (Txt.replace (mkS (L ++ tl)) (mkS el) (mkS [32, 9] ++ mkS el)), .str (mkS [60, 62])]) ?_ Dg.plain ?_ fd2
        · exact Ev.globalName T.good (by kernel_rfl) Dg.mg (by kernel_rfl)
        · refine EvsF.cons ?_ ?_
          · refine EvF.replace (u := t) (x := mkS (L ++ tl)) (y := mkS el) (z := mkS [32, 9]) ht (Nat.lt_succ_self t) ?_ ?_ ?_ ?_ ?_ ?_ ?_ ?_ (fun _ => rfl)
            · exact EvF.of (Ev.localName (by kernel_rfl) l1 (by kernel_rfl))
            · exact Ev.localName (by kernel_rfl) e1 (by kernel_rfl)
            · exact Ev.localName (by kernel_rfl) e1 (by kernel_rfl)
            · rw [mkS_len]; decide
            · rw [mkS_len]; omega
            · rw [mkS_append, mkS_len, mkS_len]
              simp only [List.length_append, List.length_cons, List.length_nil]
              have : (L.length + tl.length + 1) * (0 + 1 + 1 + el.length) ≤ 2001 * 4 := Nat.mul_le_mul (by omega) (by omega)
              omega
            · exact fun _ => rfl
            · kernel_rfl
          · refine EvsF.of ?_
            refine Evs.cons ?_ Evs.nil
            exact Ev.str
      · exact EvF.of (Ev.localName (by kernel_rfl) d1 (by kernel_rfl))
      · kernel_rfl
theorem hand_for (T : Tops c) (ks tl el : List Nat) (bl : Str) (t : Tok) (ht : t ≠ 0) (hel : EolOK el) (lv dv : Value) (Lg : GFn c "_law_letter" lv) (Dg : GFn c "decode" dv) :
    ∀ (H : List (List Int)) (ρ : Str → Option D), (∀ w ∈ H, HandOK c n lv dv ks tl el bl w) → ρ "codes" = some (strsOf ks codeS) → ρ "blank" = some (.str bl) → ρ "eol" = some (.val (.str (mkS el) t)) → ρ "tail" = some (.str (mkS tl)) → ρ "due" = some (.str (mkS (dueOf ks tl))) →
      ∃ ρ', Kept ρ ρ' ∧ ForsF (t + 1) c n (fS 30) (Cells 30) none ["hand"] (forB (stL 28)) (H.map fun w => [intsD w]) ρ [] (.next ρ' [])
  | [], ρ, _, _, _, _, _, _ => ⟨ρ, fun _ _ _ _ e => e, rfl⟩
  | w :: H, ρ, hH, h1, h2, h3, h4, h5 => by
    have hk : ∀ {x : Str} {d : D}, x ≠ "hand" → ρ x = some d → upds ρ ["hand"] [intsD w] x = some d := fun n1 e => upd_ne n1 e
    obtain ⟨ρ1, k1, x1⟩ := hand_turn (n := n) T ks tl el bl t ht hel lv dv Lg Dg w (hH w List.mem_cons_self) (ρ := upds ρ ["hand"] [intsD w]) (hk (by decide +kernel) h1) (hk (by decide +kernel) h2) (hk (by decide +kernel) h3) (hk (by decide +kernel) h4) (hk (by decide +kernel) h5) rfl
    have k2 : ∀ {x : Str} {d : D}, x ≠ "hand" → x ≠ "letter" → ρ x = some d → ρ1 x = some d := fun n1 n2 e => k1 _ _ n1 n2 (hk n1 e)
    obtain ⟨ρ', k', f'⟩ := hand_for T ks tl el bl t ht hel lv dv Lg Dg H ρ1 (fun x hx => hH x (List.mem_cons_of_mem _ hx)) (k2 (by decide +kernel) (by decide +kernel) h1) (k2 (by decide +kernel) (by decide +kernel) h2) (k2 (by decide +kernel) (by decide +kernel) h3) (k2 (by decide +kernel) (by decide +kernel) h4) (k2 (by decide +kernel) (by decide +kernel) h5)
    exact ⟨ρ', fun x d n1 n2 e => k' x d n1 n2 (k2 n1 n2 e), .inl ⟨ρ1, [], .inl x1, f'⟩⟩
theorem s_hand (T : Tops c) (ks tl el : List Nat) (bl : Str) (t : Tok) (ht : t ≠ 0) (hel : EolOK el) (lv dv : Value) (Lg : GFn c "_law_letter" lv) (Dg : GFn c "decode" dv) (H : List (List Int)) (hH : ∀ w ∈ H, HandOK c n lv dv ks tl el bl w) {ρ : Str → Option D}
    (h1 : ρ "codes" = some (strsOf ks codeS)) (h2 : ρ "blank" = some (.str bl)) (h3 : ρ "eol" = some (.val (.str (mkS el) t))) (h4 : ρ "tail" = some (.str (mkS tl))) (h5 : ρ "due" = some (.str (mkS (dueOf ks tl)))) (h6 : ρ "hands" = some (wsD H)) :
    ∃ ρ', Kept ρ ρ' ∧ SL (t + 1) c n ρ 28 ρ' := by
  obtain ⟨ρ', k', f'⟩ := hand_for (n := n) T ks tl el bl t ht hel lv dv Lg Dg H ρ hH h1 h2 h3 h4 h5
  refine ⟨ρ', k', ⟨?_⟩⟩
  refine ExF.for (xs := ["hand"]) (rows := H.map fun w => [intsD w]) ?_ ?_ ?_ ?_ f' ?_
  · exact Tgt.name _ _
  · exact map_rows intsD H ▸ ItEv.list (Ev.cellName (.inl (by kernel_rfl)) h6 (by kernel_rfl) (by kernel_rfl))
  · intro x hx; rw [List.mem_singleton.mp hx]; exact .inl (by kernel_rfl)
  · intro row hr; obtain ⟨d, _, rfl⟩ := List.mem_map.mp hr; rfl
  · exact fun _ _ => rfl
/-- the hands' breaks, place by place -/
noncomputable def votesOf (H : List (List Int)) (K : Nat) : List (List Int) := (List.range K).map fun i => colOf H i
end
end Qp
namespace Qp
open PySem PySem.Calls PyProof.Rows PySem.W
structure HOK (H : List (List Int)) (K : Nat) : Prop where
  len : ∀ w ∈ H, w.length = K
  few : H.length ≤ 60
  k : K ≤ 60
theorem votes_eq (H : List (List Int)) (K : Nat) : wsD (votesOf H K) = .list (((rangeI 0 (K : Int)).filter fun _ => true).map fun i => intsD (colOf H i.toNat)) := by
  rw [filter_true]; unfold wsD votesOf rangeI; simp
section
variable {c : Cx} {n : Nat}
theorem s_votes (H : List (List Int)) (K : Nat) (hH : HOK H K) {ρ : Str → Option D} (h1 : ρ "hands" = some (wsD H)) (h2 : ρ "places" = some (.range 0 K)) (k : Nat) : SL k c n ρ 29 (upd ρ "votes" (wsD (votesOf H K))) := by
  have hsz : sizeLine = 16777216 := sizeLine_eq
  have hk := hH.k
  have hfew := hH.few
  rw [votes_eq]
  refine ⟨ExF.of ?_⟩
  refine Ex.assignFM (xs := ["place"]) (l := rangeI 0 (K : Int)) (row := fun i => [D.int i]) (p := fun _ => true) (g := fun i => intsD (colOf H i.toNat)) (b := true) ?_ ?_ ?_ ?_ ?_ ?_ ?_ ?_ ?_ ?_
  · exact Tgt.name _ _
  · exact ItEv.range (Ev.localName (by kernel_rfl) h2 (by kernel_rfl)) (by decide) (by omega)
  · exact ⟨by kernel_rfl, by decide +kernel, freeOK_of (fs := ["hands"]) (by kernel_rfl) (by kernel_rfl) (by intro x hx; rw [List.mem_singleton.mp hx, h1]; rfl), by kernel_rfl⟩
  · intro a _ b _ q; have := int_inj1 q; subst this; exact ⟨rfl, rfl⟩
  · rw [rangeI_len]; omega
  · intro i hi
    obtain ⟨j, hj, rfl⟩ := mem_rangeI0 hi
    refine ⟨rfl, rfl, fun _ => ?_⟩
    have e2 : intsD (colOf H (j : Int).toNat) = .list ((H.filter fun _ => true).map fun w => D.int (w.getD j 0)) := by
      rw [filter_true]; unfold intsD colOf; rw [List.map_map]; rfl
    rw [e2]
    refine Ev.compFM (xs := ["hand"]) (l := H) (row := fun w => [intsD w]) ?_ ?_ ?_ ?_ ?_ ?_ ?_
    · exact Tgt.name _ _
    · exact map_rows intsD H ▸ ItEv.list (Ev.cellName (.inl (by kernel_rfl)) (upds1_ne (restr_at (by kernel_rfl) h1) (by decide +kernel)) (by kernel_rfl) (by kernel_rfl))
    · exact ⟨by kernel_rfl, by decide +kernel, by kernel_rfl, by kernel_rfl⟩
    · intro a _ b _ q; have := intsD_inj q; subst this; exact ⟨rfl, rfl⟩
    · omega
    · intro w hw
      exact ⟨rfl, rfl, fun _ => Ev.idxL (ds := w.map D.int) (Ev.localName (by kernel_rfl) rfl (by kernel_rfl)) (Ev.cellName (.inl (by kernel_rfl)) rfl (by kernel_rfl) (by kernel_rfl)) (getD_at w j (by rw [hH.len w hw]; exact hj)) (by simp; have := hH.len w hw; omega)⟩
    · exact fun _ _ => rfl
  · kernel_rfl
  · rw [if_pos rfl]; kernel_rfl
  · kernel_rfl
  · exact fun _ _ => rfl
theorem s_low (T : Tops c) (V : List (List Int)) (hV : V.length ≤ 60) (f : Value) (g : GFn c "median_low" f) (pk : List Int → Int) (hf : ∀ v ∈ V, Fn c n f [intsD v] (.int (pk v))) {ρ : Str → Option D} (h1 : ρ "votes" = some (wsD V)) (k : Nat) : SL k c n ρ 30 (upd ρ "low" (intsD (V.map pk))) := by
  have hsz : sizeLine = 16777216 := sizeLine_eq
  have e : intsD (V.map pk) = .list ((V.filter fun _ => true).map fun v => D.int (pk v)) := by rw [filter_true]; unfold intsD; rw [List.map_map]; rfl
  rw [e]
  refine ⟨ExF.of ?_⟩
  refine Ex.assignFM (xs := ["vote"]) (l := V) (row := fun v => [intsD v]) (p := fun _ => true) (g := fun v => D.int (pk v)) (b := false) ?_ ?_ ?_ ?_ ?_ ?_ ?_ ?_ ?_ ?_
  · exact Tgt.name _ _
  · exact map_rows intsD V ▸ ItEv.list (Ev.localName (by kernel_rfl) h1 (by kernel_rfl))
  · exact ⟨by kernel_rfl, by decide +kernel, by kernel_rfl, by kernel_rfl⟩
  · intro a _ b _ q; have := intsD_inj q; subst this; exact ⟨rfl, rfl⟩
  · omega
  · intro v hv
    exact ⟨rfl, rfl, fun _ => Ev.call (Ev.globalName T.good (by kernel_rfl) g.mg (by kernel_rfl)) g.plain (Evs.cons (Ev.localName (by kernel_rfl) rfl (by kernel_rfl)) Evs.nil) (hf v hv)⟩
  · kernel_rfl
  · rw [if_neg (by decide)]; exact .inr (show (fS 30).names.lookup _ = _ by kernel_rfl)
  · kernel_rfl
  · exact fun _ _ => rfl
theorem s_high (T : Tops c) (V : List (List Int)) (hV : V.length ≤ 60) (f : Value) (g : GFn c "median_high" f) (pk : List Int → Int) (hf : ∀ v ∈ V, Fn c n f [intsD v] (.int (pk v))) {ρ : Str → Option D} (h1 : ρ "votes" = some (wsD V)) (k : Nat) : SL k c n ρ 31 (upd ρ "high" (intsD (V.map pk))) := by
  have hsz : sizeLine = 16777216 := sizeLine_eq
  have e : intsD (V.map pk) = .list ((V.filter fun _ => true).map fun v => D.int (pk v)) := by rw [filter_true]; unfold intsD; rw [List.map_map]; rfl
  rw [e]
  refine ⟨ExF.of ?_⟩
  refine Ex.assignFM (xs := ["vote"]) (l := V) (row := fun v => [intsD v]) (p := fun _ => true) (g := fun v => D.int (pk v)) (b := false) ?_ ?_ ?_ ?_ ?_ ?_ ?_ ?_ ?_ ?_
  · exact Tgt.name _ _
  · exact map_rows intsD V ▸ ItEv.list (Ev.localName (by kernel_rfl) h1 (by kernel_rfl))
  · exact ⟨by kernel_rfl, by decide +kernel, by kernel_rfl, by kernel_rfl⟩
  · intro a _ b _ q; have := intsD_inj q; subst this; exact ⟨rfl, rfl⟩
  · omega
  · intro v hv
    exact ⟨rfl, rfl, fun _ => Ev.call (Ev.globalName T.good (by kernel_rfl) g.mg (by kernel_rfl)) g.plain (Evs.cons (Ev.localName (by kernel_rfl) rfl (by kernel_rfl)) Evs.nil) (hf v hv)⟩
  · kernel_rfl
  · rw [if_neg (by decide)]; exact .inr (show (fS 30).names.lookup _ = _ by kernel_rfl)
  · kernel_rfl
  · exact fun _ _ => rfl
theorem s_ifVotes (T : Tops c) (H : List (List Int)) (K : Nat) (hH : HOK H K) (lo hi : List Int) (hl : lo.length + hi.length ≤ 200) {ρ : Str → Option D} (h1 : ρ "hands" = some (wsD H)) (h2 : ρ "places" = some (.range 0 K)) (h3 : ρ "votes" = some (wsD (votesOf H K))) (h4 : ρ "low" = some (intsD lo)) (h5 : ρ "high" = some (intsD hi)) (k : Nat) : SL k c (n + 8) ρ 32 ρ := by
  have hsz : sizeLine = 16777216 := sizeLine_eq
  have hk := hH.k
  have hfew := hH.few
  have t1 : Op2 c (n + 8) (compareOp .NotEq) (wsD (votesOf H K)) (wsD (votesOf H K)) (.bool false) := by
    have := Op2.ne (c := c) (n := n) (cmp_intss (votesOf H K)) (cmp_intss (votesOf H K))
    have e : eqD (.list ((votesOf H K).map intsD)) (.list ((votesOf H K).map intsD)) = (votesOf H K == votesOf H K) := eqD_list intsD eqD_ints _ _
    rw [e, beq_self_eq_true] at this
    exact this
  have t2 : Op2 c (n + 8) (compareOp .NotEq) (.list []) (.list []) (.bool false) := Op2.ne (c := c) (n := n) (cmp_bools []) (cmp_bools [])
  refine ⟨ExF.of ?_⟩
  refine Ex.ifF ?_ Exs.nil
  refine Tr.orF ?_ ?_
  · refine Tr.cmp ?_ ?_ t1 ?_
    · exact Ev.localName (by kernel_rfl) h3 (by kernel_rfl)
    · rw [votes_eq]
      refine Ev.compFM (xs := ["place"]) (l := rangeI 0 (K : Int)) (row := fun i => [D.int i]) (p := fun _ => true) (g := fun i => intsD (colOf H i.toNat)) ?_ ?_ ?_ ?_ ?_ ?_ ?_
      · exact Tgt.name _ _
      · exact ItEv.range (Ev.localName (by kernel_rfl) h2 (by kernel_rfl)) (by decide) (by omega)
      · exact ⟨by kernel_rfl, by decide +kernel, freeOK_of (fs := ["hands"]) (by kernel_rfl) (by kernel_rfl) (by intro x hx; rw [List.mem_singleton.mp hx, h1]; rfl), by kernel_rfl⟩
      · intro a _ b _ q; have := int_inj1 q; subst this; exact ⟨rfl, rfl⟩
      · rw [rangeI_len]; omega
      · intro i hi
        obtain ⟨j, hj, rfl⟩ := mem_rangeI0 hi
        refine ⟨rfl, rfl, fun _ => ?_⟩
        have e2 : intsD (colOf H (j : Int).toNat) = .list ((H.filter fun _ => true).map fun w => D.int (w.getD j 0)) := by
          rw [filter_true]; unfold intsD colOf; rw [List.map_map]; rfl
        rw [e2]
        refine Ev.compFM (xs := ["hand"]) (l := H) (row := fun w => [intsD w]) ?_ ?_ ?_ ?_ ?_ ?_ ?_
        · exact Tgt.name _ _
        · exact map_rows intsD H ▸ ItEv.list (Ev.cellName (.inl (by kernel_rfl)) (upds1_ne (restr_at (by kernel_rfl) h1) (by decide +kernel)) (by kernel_rfl) (by kernel_rfl))
        · exact ⟨by kernel_rfl, by decide +kernel, by kernel_rfl, by kernel_rfl⟩
        · intro a _ b _ q; have := intsD_inj q; subst this; exact ⟨rfl, rfl⟩
        · omega
        · intro w hw
          exact ⟨rfl, rfl, fun _ => Ev.idxL (ds := w.map D.int) (Ev.localName (by kernel_rfl) rfl (by kernel_rfl)) (Ev.cellName (.inl (by kernel_rfl)) rfl (by kernel_rfl) (by kernel_rfl)) (getD_at w j (by rw [hH.len w hw]; exact hj)) (by simp; have := hH.len w hw; omega)⟩
        · exact fun _ _ => rfl
      · exact fun _ _ => rfl
    · kernel_rfl
  · refine Tr.orF ?_ Tr.orN
    refine Tr.cmp ?_ ?_ t2 ?_
    · have e : ([] : List D) = ((lo ++ hi).filter fun _ => false).map D.int := by simp
      rw [e]
      refine Ev.compFM (xs := ["one"]) (l := lo ++ hi) (row := fun b => [D.int b]) ?_ ?_ ?_ ?_ ?_ ?_ ?_
      · exact Tgt.name _ _
      · rw [← map_rows D.int, List.map_append]
        refine ItEv.list ?_
        refine Ev.binop (a := intsD lo) (b := intsD hi) ?_ ?_ ?_
        · exact Ev.cellName (.inl (by kernel_rfl)) h4 (by kernel_rfl) (by kernel_rfl)
        · exact Ev.cellName (.inl (by kernel_rfl)) h5 (by kernel_rfl) (by kernel_rfl)
        · exact Op2.addList (by simp; omega)
      · exact ⟨by kernel_rfl, by decide +kernel, by kernel_rfl, by kernel_rfl⟩
      · intro a _ b _ q; have := int_inj1 q; subst this; exact ⟨rfl, rfl⟩
      · simp; omega
      · intro b _
        refine ⟨rfl, ?_, fun q => by cases q⟩
        show Tr _ _ _ _ _ _
        refine Tr.not (b := true) ?_
        refine Tr.value (a := .bool true) ?_ ?_ ?_
        · exact Ev.call (Ev.bi T.good T.isinstance (by kernel_rfl) (by kernel_rfl)) trivial (Evs.cons (d := .int b) (Ev.localName (by kernel_rfl) rfl (by kernel_rfl)) (Evs.cons (Ev.bi T.good T.int (by kernel_rfl) (by kernel_rfl)) Evs.nil)) (Fn.isInt b)
        · exact Tru.bool true
        · exact fun _ _ => rfl
      · exact fun _ _ => rfl
    · exact Ev.list Evs.nil (by simp)
    · kernel_rfl
theorem s_ifIn (W : List (List Int)) (lo hi : List Int) (hlo : lo ∈ W) (hhi : hi ∈ W) {ρ : Str → Option D} (h1 : ρ "ways" = some (wsD W)) (h4 : ρ "low" = some (intsD lo)) (h5 : ρ "high" = some (intsD hi)) (k : Nat) : SL k c (n + 8) ρ 33 ρ := by
  have tin : ∀ m, m ∈ W → Op2 c (n + 8) (compareOp .NotIn) (intsD m) (wsD W) (.bool false) := fun m hm => by
    have := Op2.notInList (c := c) (n := n) (cmp_ints m) (cmp_intss W)
    rw [any_ints, List.contains_iff_mem.mpr hm] at this
    exact this
  refine ⟨ExF.of ?_⟩
  refine Ex.ifF ?_ Exs.nil
  refine Tr.orF ?_ ?_
  · refine Tr.cmp ?_ ?_ (tin lo hlo) ?_
    · exact Ev.cellName (.inl (by kernel_rfl)) h4 (by kernel_rfl) (by kernel_rfl)
    · exact Ev.cellName (.inl (by kernel_rfl)) h1 (by kernel_rfl) (by kernel_rfl)
    · kernel_rfl
  · refine Tr.orF ?_ Tr.orN
    refine Tr.cmp ?_ ?_ (tin hi hhi) ?_
    · exact Ev.cellName (.inl (by kernel_rfl)) h5 (by kernel_rfl) (by kernel_rfl)
    · exact Ev.cellName (.inl (by kernel_rfl)) h1 (by kernel_rfl) (by kernel_rfl)
    · kernel_rfl
end
end Qp
namespace Qp
open PySem PySem.Calls PyProof.Rows PySem.W
noncomputable def absI (i : Int) : Int := if i < 0 then -i else i
noncomputable def gapsOf (H : List (List Int)) (w : List Int) : List Int := H.flatMap fun h => (w.zip h).map fun p => absI (p.1 - p.2)
noncomputable def spanOf (H : List (List Int)) (w : List Int) : Int := (gapsOf H w).sum
noncomputable def leastOf (H W : List (List Int)) : Int := minL (W.map (spanOf H))
noncomputable def nearestOf (H W : List (List Int)) : List (List Int) := W.filter fun w => spanOf H w == leastOf H W
noncomputable def within (lo w hi : List Int) : Bool := ((lo.zip (w.zip hi)).map fun p => decide (p.1 ≤ p.2.1) && decide (p.2.1 ≤ p.2.2)).all id
noncomputable def betweenOf (W : List (List Int)) (lo hi : List Int) : List (List Int) := W.filter fun w => within lo w hi
theorem zipFilter (f : List Int → Int) (m : Int) : ∀ W : List (List Int), ((W.zip (W.map f)).filter fun p => p.2 == m).map (fun p => intsD p.1) = (W.filter fun w => f w == m).map intsD
  | [] => rfl
  | w :: W => by
    have ih := zipFilter f m W
    simp only [List.map_cons, List.zip_cons_cons, List.filter_cons]
    split <;> simp [ih]
theorem zip3Ints : ∀ lo w hi : List Int, zip3With (lo.map D.int) (w.map D.int) (hi.map D.int) = (lo.zip (w.zip hi)).map fun p => [D.int p.1, D.int p.2.1, D.int p.2.2]
  | [], _, _ => rfl
  | _ :: _, [], _ => rfl
  | _ :: _, _ :: _, [] => rfl
  | a :: lo, b :: w, d :: hi => by
    have := zip3Ints lo w hi
    simp [zip3With, this]
theorem gaps_eq (H : List (List Int)) (w : List Int) : intsD (gapsOf H w) = .list (H.flatMap fun h => ((w.zip h).filter fun _ => true).map fun p => D.int (absI (p.1 - p.2))) := by
  unfold intsD gapsOf
  rw [List.map_flatMap]
  congr 2
  funext h
  rw [filter_true, List.map_map]; rfl
section
variable {c : Cx} {n : Nat}
theorem s_spans (T : Tops c) (H W : List (List Int)) (K : Nat) (hH : HOK H K) (hW : WOK W K) {ρ : Str → Option D} (h1 : ρ "ways" = some (wsD W)) (h2 : ρ "hands" = some (wsD H)) (k : Nat) : SL k c n ρ 34 (upd ρ "spans" (intsD (W.map (spanOf H)))) := by
  have hsz : sizeLine = 16777216 := sizeLine_eq
  have hk := hH.k
  have hfew := hH.few
  have hfw := hW.few
  have e : intsD (W.map (spanOf H)) = .list ((W.filter fun _ => true).map fun w => D.int (spanOf H w)) := by rw [filter_true]; unfold intsD; rw [List.map_map]; rfl
  rw [e]
  refine ⟨ExF.of ?_⟩
  refine Ex.assignFM (xs := ["way"]) (l := W) (row := fun w => [intsD w]) (p := fun _ => true) (g := fun w => D.int (spanOf H w)) (b := true) ?_ ?_ ?_ ?_ ?_ ?_ ?_ ?_ ?_ ?_
  · exact Tgt.name _ _
  · exact map_rows intsD W ▸ ItEv.list (Ev.cellName (.inl (by kernel_rfl)) h1 (by kernel_rfl) (by kernel_rfl))
  · exact ⟨by kernel_rfl, by decide +kernel, freeOK_of (fs := ["hands"]) (by kernel_rfl) (by kernel_rfl) (by intro x hx; rw [List.mem_singleton.mp hx, h2]; rfl), by kernel_rfl⟩
  · intro a _ b _ q; have := intsD_inj q; subst this; exact ⟨rfl, rfl⟩
  · omega
  · intro w hw
    refine ⟨rfl, rfl, fun _ => ?_⟩
    refine Ev.call (f := .builtin "sum") (ds := [intsD (gapsOf H w)]) ?_ trivial ?_ (Fn.sum _)
    · exact Ev.bi T.good T.sum (by kernel_rfl) (by kernel_rfl)
    · refine Evs.cons ?_ Evs.nil
      rw [gaps_eq]
      have hwl := hW.len w hw
      refine Ev.comp2 (xs := ["hand"]) (l := H) (row := fun h => [intsD h]) (outs := fun h => ((w.zip h).filter fun _ => true).map fun p => D.int (absI (p.1 - p.2))) ?_ ?_ ?_ ?_ ?_ ?_ ?_
      · exact Tgt.name _ _
      · exact map_rows intsD H ▸ ItEv.list (Ev.cellName (.inl (by kernel_rfl)) (upds1_ne (restr_at (by kernel_rfl) h2) (by decide +kernel)) (by kernel_rfl) (by kernel_rfl))
      · exact ⟨by kernel_rfl, by decide +kernel, by kernel_rfl, by kernel_rfl⟩
      · intro a _ b _ q; have := intsD_inj q; subst this; rfl
      · have : ∀ H' : List (List Int), (∀ h ∈ H', h.length = K) → (H'.flatMap fun h => ((w.zip h).filter fun _ => true).map fun p => D.int (absI (p.1 - p.2))).length ≤ H'.length * 60 := by
          intro H'
          induction H' with
          | nil => intro _; simp
          | cons h H' ih =>
            intro hh
            have i := ih fun x hx => hh x (List.mem_cons_of_mem _ hx)
            rw [List.flatMap_cons, List.length_append, filter_true]
            have : (List.map (fun p => D.int (absI (p.1 - p.2))) (w.zip h)).length ≤ 60 := by simp; omega
            simp only [List.length_cons]; omega
        have := this H hH.len
        have : H.length * 60 ≤ 60 * 60 := Nat.mul_le_mul_right _ hfew
        omega
      · intro h hh
        have hhl := hH.len h hh
        refine ⟨rfl, ?_⟩
        refine act_inner (row := fun (p : Int × Int) => [D.int p.1, D.int p.2]) (p := fun _ => true) (g := fun p => D.int (absI (p.1 - p.2))) (m := w.zip h) (ys := ["mine", "yours"]) ?_ ?_ ?_ ?_ ?_ ?_ ?_
        · exact Tgt.two _ _ _ _ _ _
        · rw [← zipRows]
          refine ItEv.zip2 ?_ ?_
          · exact Ev.bi T.good T.zip (by kernel_rfl) (by kernel_rfl)
          · refine Evs.cons ?_ ?_
            · exact Ev.cellName (.inl (by kernel_rfl)) rfl (by kernel_rfl) (by kernel_rfl)
            · refine Evs.cons ?_ Evs.nil
              exact Ev.localName (by kernel_rfl) rfl (by kernel_rfl)
        · intro x hx
          simp only [List.mem_cons, List.not_mem_nil, or_false] at hx
          rcases hx with rfl | rfl <;> exact .inl (by kernel_rfl)
        · intro x hx
          simp only [List.mem_cons, List.not_mem_nil, or_false] at hx
          rcases hx with rfl | rfl <;> rfl
        · rintro ⟨a, b⟩ _ ⟨a', b'⟩ _ q
          simp only [List.cons.injEq, D.int.injEq, and_true] at q
          obtain ⟨rfl, rfl⟩ := q
          exact ⟨rfl, rfl⟩
        · rintro ⟨a, b⟩ _
          refine ⟨rfl, rfl, fun _ => ?_⟩
          refine Ev.call (f := .builtin "abs") (ds := [.int (a - b)]) ?_ trivial ?_ (Fn.abs _)
          · exact Ev.bi T.good T.abs (by kernel_rfl) (by kernel_rfl)
          · refine Evs.cons ?_ Evs.nil
            exact Ev.binop (Ev.localName (by kernel_rfl) rfl (by kernel_rfl)) (Ev.localName (by kernel_rfl) rfl (by kernel_rfl)) (Op2.subInt _ _)
        · exact fun _ _ => rfl
      · exact fun _ _ => rfl
  · kernel_rfl
  · rw [if_pos rfl]; kernel_rfl
  · kernel_rfl
  · exact fun _ _ => rfl
theorem s_least (T : Tops c) (l : List Int) (hl : l ≠ []) {ρ : Str → Option D} (h1 : ρ "spans" = some (intsD l)) (k : Nat) : SL k c n ρ 35 (upd ρ "least" (.int (minL l))) := by
  refine ⟨ExF.of ?_⟩
  refine Ex.assign (d := .int (minL l)) ?_ ?_ ?_
  · refine Ev.call (f := .builtin "min") (ds := [intsD l]) ?_ trivial ?_ (Fn.min _ hl _ (minL_mem _ hl) (minL_le _))
    · exact Ev.bi T.good T.min (by kernel_rfl) (by kernel_rfl)
    · refine Evs.cons ?_ Evs.nil
      exact Ev.localName (by kernel_rfl) h1 (by kernel_rfl)
  · exact .inr (show (fS 30).names.lookup _ = _ by kernel_rfl)
  · exact fun _ _ => rfl
theorem s_nearest (T : Tops c) (W : List (List Int)) (hW : W.length ≤ 60) (f : List Int → Int) (m : Int) {ρ : Str → Option D} (h1 : ρ "ways" = some (wsD W)) (h2 : ρ "spans" = some (intsD (W.map f))) (h3 : ρ "least" = some (.int m)) (k : Nat) : SL k c n ρ 36 (upd ρ "nearest" (wsD (W.filter fun w => f w == m))) := by
  have hsz : sizeLine = 16777216 := sizeLine_eq
  have e : wsD (W.filter fun w => f w == m) = .list (((W.zip (W.map f)).filter fun p => p.2 == m).map fun p => intsD p.1) := by rw [zipFilter]; rfl
  rw [e]
  refine ⟨ExF.of ?_⟩
  refine Ex.assignFM (xs := ["way", "span"]) (l := W.zip (W.map f)) (row := fun p => [intsD p.1, D.int p.2]) (p := fun p => p.2 == m) (g := fun p => intsD p.1) (b := true) ?_ ?_ ?_ ?_ ?_ ?_ ?_ ?_ ?_ ?_
  · exact Tgt.two _ _ _ _ _ _
  · rw [← zipRows]
    refine ItEv.zip2 ?_ ?_
    · exact Ev.bi T.good T.zip (by kernel_rfl) (by kernel_rfl)
    · refine Evs.cons ?_ ?_
      · exact Ev.cellName (.inl (by kernel_rfl)) h1 (by kernel_rfl) (by kernel_rfl)
      · refine Evs.cons ?_ Evs.nil
        exact Ev.localName (by kernel_rfl) h2 (by kernel_rfl)
  · exact ⟨by kernel_rfl, by decide +kernel, freeOK_of (fs := ["least"]) (by kernel_rfl) (by kernel_rfl) (by intro x hx; rw [List.mem_singleton.mp hx, h3]; rfl), by kernel_rfl⟩
  · rintro ⟨a, b⟩ _ ⟨a', b'⟩ _ q
    have q1 : intsD a = intsD a' ∧ b = b' := by simpa using q
    have := intsD_inj (a := a) (b := a') (by rw [q1.1])
    obtain ⟨_, rfl⟩ := q1
    subst this; exact ⟨rfl, rfl⟩
  · simp; omega
  · rintro ⟨a, b⟩ _
    refine ⟨rfl, ?_, fun _ => Ev.localName (by kernel_rfl) rfl (by kernel_rfl)⟩
    show Tr _ _ _ _ _ _
    refine Tr.cmp (a := .int b) (b := .int m) ?_ ?_ (Op2.eqInt _ _) ?_
    · exact Ev.localName (by kernel_rfl) rfl (by kernel_rfl)
    · exact Ev.cellName (.inl (by kernel_rfl)) (upds_ne (restr_at (by kernel_rfl) h3) (by kernel_rfl)) (by kernel_rfl) (by kernel_rfl)
    · kernel_rfl
  · kernel_rfl
  · rw [if_pos rfl]; kernel_rfl
  · kernel_rfl
  · exact fun _ _ => rfl
theorem s_between (T : Tops c) (W : List (List Int)) (K : Nat) (hW : WOK W K) (lo hi : List Int) (hlo : lo.length = K) (hhi : hi.length = K) {ρ : Str → Option D} (h1 : ρ "ways" = some (wsD W)) (h2 : ρ "low" = some (intsD lo)) (h3 : ρ "high" = some (intsD hi)) (k : Nat) : SL k c (n + 1) ρ 37 (upd ρ "between" (wsD (betweenOf W lo hi))) := by
  have hsz : sizeLine = 16777216 := sizeLine_eq
  have hk := hW.k
  have hfw := hW.few
  have e : wsD (betweenOf W lo hi) = .list ((W.filter fun w => within lo w hi).map intsD) := rfl
  rw [e]
  refine ⟨ExF.of ?_⟩
  refine Ex.assignFM (xs := ["way"]) (l := W) (row := fun w => [intsD w]) (p := fun w => within lo w hi) (g := intsD) (b := true) ?_ ?_ ?_ ?_ ?_ ?_ ?_ ?_ ?_ ?_
  · exact Tgt.name _ _
  · exact map_rows intsD W ▸ ItEv.list (Ev.cellName (.inl (by kernel_rfl)) h1 (by kernel_rfl) (by kernel_rfl))
  · exact ⟨by kernel_rfl, by decide +kernel, freeOK_of (fs := ["high", "low"]) (by kernel_rfl) (by kernel_rfl) (by intro x hx; simp only [List.mem_cons, List.not_mem_nil, or_false] at hx; rcases hx with rfl | rfl <;> simp [h2, h3]), by kernel_rfl⟩
  · intro a _ b _ q; have := intsD_inj q; subst this; exact ⟨rfl, rfl⟩
  · omega
  · intro w hw
    have hwl := hW.len w hw
    refine ⟨rfl, ?_, fun _ => Ev.localName (by kernel_rfl) rfl (by kernel_rfl)⟩
    show Tr _ _ _ _ _ _
    unfold within
    refine Tr.value (a := .bool _) ?_ (Tru.bool _) (fun _ _ => rfl)
    refine Ev.call (f := .builtin "all") (ds := [.list (((lo.zip (w.zip hi)).map fun p => decide (p.1 ≤ p.2.1) && decide (p.2.1 ≤ p.2.2)).map D.bool)]) ?_ trivial ?_ (Fn.all _)
    · exact Ev.bi T.good T.all (by kernel_rfl) (by kernel_rfl)
    · refine Evs.cons ?_ Evs.nil
      have e2 : (D.list (((lo.zip (w.zip hi)).map fun p => decide (p.1 ≤ p.2.1) && decide (p.2.1 ≤ p.2.2)).map D.bool)) = .list (((lo.zip (w.zip hi)).filter fun _ => true).map fun p => D.bool (decide (p.1 ≤ p.2.1) && decide (p.2.1 ≤ p.2.2))) := by
        rw [filter_true, List.map_map]; rfl
      rw [e2]
      refine Ev.compFM (xs := ["under", "mine", "over"]) (l := lo.zip (w.zip hi)) (row := fun p => [D.int p.1, D.int p.2.1, D.int p.2.2]) ?_ ?_ ?_ ?_ ?_ ?_ ?_
      · exact Tgt.three _ _ _ _ _ _ _ _
      · rw [← zip3Ints]
        refine ItEv.zip3 ?_ ?_ ?_ ?_
        · exact Ev.bi T.good T.zip (by kernel_rfl) (by kernel_rfl)
        · refine Evs.cons ?_ ?_
          · exact Ev.cellName (.inl (by kernel_rfl)) (upds1_ne (restr_at (by kernel_rfl) h2) (by decide +kernel)) (by kernel_rfl) (by kernel_rfl)
          · refine Evs.cons ?_ ?_
            · exact Ev.localName (by kernel_rfl) rfl (by kernel_rfl)
            · refine Evs.cons ?_ Evs.nil
              exact Ev.cellName (.inl (by kernel_rfl)) (upds1_ne (restr_at (by kernel_rfl) h3) (by decide +kernel)) (by kernel_rfl) (by kernel_rfl)
        · simp [hwl, hlo]
        · simp [hhi, hlo]
      · exact ⟨by kernel_rfl, by decide +kernel, by kernel_rfl, by kernel_rfl⟩
      · rintro ⟨a, b, d⟩ _ ⟨a', b', d'⟩ _ q
        simp only [List.cons.injEq, D.int.injEq, and_true] at q
        obtain ⟨rfl, rfl, rfl⟩ := q
        exact ⟨rfl, rfl⟩
      · simp; omega
      · rintro ⟨a, b, d⟩ _
        refine ⟨rfl, rfl, fun _ => ?_⟩
        exact Ev.cmp2 (b := .int b) (Ev.localName (by kernel_rfl) rfl (by kernel_rfl)) (Ev.localName (by kernel_rfl) rfl (by kernel_rfl)) (Ev.localName (by kernel_rfl) rfl (by kernel_rfl)) (Op2.leInt _ _) (fun _ => Op2.leInt _ _) (by kernel_rfl)
      · exact fun _ _ => rfl
  · kernel_rfl
  · rw [if_pos rfl]; kernel_rfl
  · kernel_rfl
  · exact fun _ _ => rfl
theorem s_ifNear (W1 W2 : List (List Int)) (he : W1 = W2) {ρ : Str → Option D} (h1 : ρ "nearest" = some (wsD W1)) (h2 : ρ "between" = some (wsD W2)) (k : Nat) : SL k c (n + 8) ρ 38 ρ := by
  subst he
  have t1 : Op2 c (n + 8) (compareOp .NotEq) (wsD W1) (wsD W1) (.bool false) := by
    have := Op2.ne (c := c) (n := n) (cmp_intss W1) (cmp_intss W1)
    have e : eqD (.list (W1.map intsD)) (.list (W1.map intsD)) = (W1 == W1) := eqD_list intsD eqD_ints _ _
    rw [e, beq_self_eq_true] at this
    exact this
  refine ⟨ExF.of ?_⟩
  refine Ex.ifF ?_ Exs.nil
  refine Tr.cmp ?_ ?_ t1 ?_
  · exact Ev.localName (by kernel_rfl) h1 (by kernel_rfl)
  · exact Ev.localName (by kernel_rfl) h2 (by kernel_rfl)
  · kernel_rfl
theorem s_ret (T : Tops c) (W : List (List Int)) (lat ear : List Int) (cv mh ml : Value) (Cg : GFn c "_law_climb" cv) (Mh : GFn c "median_high" mh) (Ml : GFn c "median_low" ml) (f1 : Fn c (n + 8) cv [wsD W, .val mh, .int 1] (wsD [lat])) (f2 : Fn c (n + 8) cv [wsD W, .val ml, .int (-1)] (wsD [ear])) {ρ : Str → Option D}
    (h1 : ρ "ways" = some (wsD W)) (h2 : ρ "latest" = some (intsD lat)) (h3 : ρ "earliest" = some (intsD ear)) (k : Nat) : XL k c (n + 8) ρ 39 (.bool true) := by
  have hsz : sizeLine = 16777216 := sizeLine_eq
  have t1 : ∀ l, Op2 c (n + 8) (compareOp .Eq) (wsD [l]) (wsD [l]) (.bool true) := fun l => by
    have := Op2.eq (c := c) (n := n) (cmp_intss [l]) (cmp_intss [l])
    have e : eqD (.list ([l].map intsD)) (.list ([l].map intsD)) = ([l] == [l]) := eqD_list intsD eqD_ints _ _
    rw [e, beq_self_eq_true] at this
    exact this
  refine ⟨?_⟩
  rw [dropL 39 (by decide)]
  refine ExsF.ret ?_
  refine ExF.of ?_
  refine Ex.retE ?_
  refine Ev.boolAnd (a := true) (b := true) ?_ fun _ => ?_
  · refine Ev.cmp (a := wsD [lat]) (b := wsD [lat]) ?_ ?_ (t1 lat) ?_
    · refine Ev.call (f := cv) (ds := [wsD W, .val mh, .int 1]) ?_ Cg.plain ?_ f1
      · exact Ev.globalName T.good (by kernel_rfl) Cg.mg (by kernel_rfl)
      · refine Evs.cons ?_ ?_
        · exact Ev.cellName (.inl (by kernel_rfl)) h1 (by kernel_rfl) (by kernel_rfl)
        · refine Evs.cons ?_ ?_
          · exact Ev.globalName T.good (by kernel_rfl) Mh.mg (by kernel_rfl)
          · refine Evs.cons ?_ Evs.nil
            exact Ev.int
    · refine Ev.list ?_ ?_
      · refine Evs.cons ?_ Evs.nil
        exact Ev.localName (by kernel_rfl) h2 (by kernel_rfl)
      · show 1 ≤ _; omega
    · kernel_rfl
  · refine Ev.cmp (a := wsD [ear]) (b := wsD [ear]) ?_ ?_ (t1 ear) ?_
    · refine Ev.call (f := cv) (ds := [wsD W, .val ml, .int (-1)]) ?_ Cg.plain ?_ f2
      · exact Ev.globalName T.good (by kernel_rfl) Cg.mg (by kernel_rfl)
      · refine Evs.cons ?_ ?_
        · exact Ev.cellName (.inl (by kernel_rfl)) h1 (by kernel_rfl) (by kernel_rfl)
        · refine Evs.cons ?_ ?_
          · exact Ev.globalName T.good (by kernel_rfl) Ml.mg (by kernel_rfl)
          · refine Evs.cons ?_ Evs.nil
            exact Ev.unary Ev.int (Op1.neg 1)
    · refine Ev.list ?_ ?_
      · refine Evs.cons ?_ Evs.nil
        exact Ev.localName (by kernel_rfl) h3 (by kernel_rfl)
      · show 1 ≤ _; omega
    · kernel_rfl
end
end Qp
namespace Qp
open PySem PySem.Calls PyProof.Rows PySem.W
noncomputable def srt (v : List Int) : List Int := v.mergeSort fun a b => decide (a ≤ b)
theorem srt_perm (v : List Int) : (srt v).Perm v := List.mergeSort_perm _ _
theorem srt_sorted (v : List Int) : (srt v).Pairwise (· ≤ ·) := by
  have := List.pairwise_mergeSort (le := fun a b : Int => decide (a ≤ b)) (fun a b d h1 h2 => by simp only [decide_eq_true_eq] at *; omega) (fun a b => by simp only [Bool.or_eq_true, decide_eq_true_eq]; omega) v
  exact this.imp fun h => by simpa using h
noncomputable def lowM (v : List Int) : Int := (srt v).getD ((v.length - 1) / 2) 0
noncomputable def highM (v : List Int) : Int := (srt v).getD (v.length / 2) 0
/-- the functions that law calls, and where they lie -/
structure Fv where
  bc : Value
  q : Value
  be : Value
  d : Value
  ways : Value
  letter : Value
  climb : Value
  ml : Value
  mh : Value
structure FvOK (c : Cx) (v : Fv) : Prop where
  bc : GFn c "body_check" v.bc
  q : GFn c "quote" v.q
  be : GFn c "body_encode" v.be
  d : GFn c "decode" v.d
  ways : GFn c "_law_ways" v.ways
  letter : GFn c "_law_letter" v.letter
  climb : GFn c "_law_climb" v.climb
  ml : GFn c "median_low" v.ml
  mh : GFn c "median_high" v.mh
/-- what the functions do, whatever the line -/
structure FnsOK (c : Cx) (N : Nat) (v : Fv) : Prop where
  bc : ∀ k : Nat, k < 256 → Fn c N v.bc [.int k] (.bool (!bareK k))
  q : ∀ k : Nat, k < 256 → Fn c N v.q [.str (chS k)] (.str (escS k))
  ber : ∀ el : List Nat, EolOK el → ∀ pg : List Nat, ∀ w : Int, w < 4 → FnR c N v.be [.str (mkS pg), .int w, .str (mkS el)] msgS
  be0 : ∀ el : List Nat, ∀ w : Int, 4 ≤ w → Fn c N v.be [.str (mkS []), .int w, .str (mkS el)] (.str (mkS []))
  d0 : ∀ el : List Nat, Fn c N v.d [.str (mkS []), .str (mkS el)] (.str (mkS []))
  be77 : Fn c N v.be [.str (mkS (List.replicate 77 98))] (.str (mkS (List.replicate 75 98 ++ [61, 10, 98, 98])))
  ml : ∀ l : List Int, l ≠ [] → l.length < 64 → Fn c N v.ml [intsD l] (.int (lowM l))
  mh : ∀ l : List Int, l ≠ [] → l.length < 64 → Fn c N v.mh [intsD l] (.int (highM l))
/-- what they do with this line -/
structure LineOK (c : Cx) (N : Nat) (v : Fv) (ks : List Nat) (w : Int) (en el : List Nat) (W : List (List Int)) (K : Nat) : Prop where
  wok : WOK W K
  ways : Fn c N v.ways [intsD (sizesOf ks), .int w, .int (extraOf ks)] (wsD W)
  late : ∃ R L : List Nat, L.length + (tailL en el).length ≤ 100000 ∧ R = L ++ tailL en el ∧ Fn c N v.be [.str (mkS (ks ++ en)), .int w, .str (mkS el)] (.str (mkS R)) ∧ Fn c N v.letter [strsOf ks codeS, intsD (latestOf W K), .str (blankS ks), .str (mkS el)] (.str (mkS L))
  whole : ∃ L0 : List Nat, L0.length ≤ 100000 ∧ Fn c N v.letter [strsOf ks codeS, .list [], .str (blankS ks), .str (mkS [10])] (.str (mkS L0)) ∧ Fn c N v.be [.str (mkS (ks ++ [10]))] (.str (mkS (L0 ++ [10]))) ∧ Fn c N v.d [.str (mkS (L0 ++ [10]))] (.str (mkS (ks ++ [10])))
  hand : ∀ h ∈ W, HandOK c N v.letter v.d ks (tailL en el) el (blankS ks) h
  med : ∀ H : List (List Int), H ≠ [] → (∀ h ∈ H, h ∈ W) → (votesOf H K).map lowM ∈ W ∧ (votesOf H K).map highM ∈ W ∧ nearestOf H W = betweenOf W ((votesOf H K).map lowM) ((votesOf H K).map highM)
  up : Fn c N v.climb [wsD W, .val v.mh, .int 1] (wsD [latestOf W K])
  down : Fn c N v.climb [wsD W, .val v.ml, .int (-1)] (wsD [earliestOf W K])
section
variable {c : Cx} {n : Nat}
theorem law_3 (T : Tops c) (VE : Bi c "ValueError" (.type "ValueError")) (ST : Bi c "str" (.type "str")) (v : Fv) (V : FvOK c v) (X : FnsOK c (n + 8) v) (cs : List Int) (ks : List Nat) (hcl : cs.length = 15) (hks : OctOK ks) (w : Int) (hw : 4 ≤ w) (en el : List Nat) (t : Tok) (hen : EndOK en) (hel : EolOK el) (ht : t ≠ 0)
    (W : List (List Int)) (K : Nat) (L : LineOK c (n + 8) v ks w en el W K) :
    XL (t + 1) c (n + 8) (asρ [("cells", intsD cs), ("octets", natsD ks), ("width", .int w), ("end", .str (mkS en)), ("eol", .val (.str (mkS el) t)), ("text", .str (mkS ks))]) 8 (.bool true) := by
  have hkl : ks.length = 9 := hks.len
  have hel2 : el.length ≤ 2 := by rcases hel with rfl | rfl <;> simp
  have hen2 : en.length ≤ 2 := by rcases hen with rfl | rfl | rfl | rfl <;> simp
  obtain ⟨R, Lt, hLt, hR, fbe, fl⟩ := L.late
  obtain ⟨L0, hL0, fl0, fb1, fd1⟩ := L.whole
  have hH := handsOf_ok cs hcl W L.wok.ne
  have hHne : handsOf cs W ≠ [] := by intro q; rw [q] at hH; simp at hH
  have hHK : HOK (handsOf cs W) K := ⟨fun w hw => L.wok.len w (hH.2.2 w hw), by omega, L.wok.k⟩
  obtain ⟨m1, m2, m3⟩ := L.med (handsOf cs W) hHne hH.2.2
  generalize hHd : handsOf cs W = H at *
  have hvl : (votesOf H K).length = K := by simp [votesOf]
  have hv : ∀ v ∈ votesOf H K, v ≠ [] ∧ v.length < 64 := fun v hv => by
    obtain ⟨i, _, rfl⟩ := List.mem_map.mp hv
    exact ⟨colOf_ne hHne i, by simp [colOf]; omega⟩
  have hk60 := L.wok.k
  have hlo := L.wok.len _ m1
  have hhi := L.wok.len _ m2
  refine XL.step (s_figures _) ?_ (by decide)
  refine XL.step (s_escapes ks hks (by kernel_rfl) (by kernel_rfl) _) ?_ (by decide)
  refine XL.step (s_bare ks hks (by kernel_rfl) _) ?_ (by decide)
  refine XL.step (s_codes T ks hks (by kernel_rfl) (by kernel_rfl) (by kernel_rfl) _) ?_ (by decide)
  refine XL.step (s_told T ks hks v.bc V.bc X.bc (by kernel_rfl) _) ?_ (by decide)
  refine XL.step (s_ifTold T ks hks (by kernel_rfl) (by kernel_rfl) _) ?_ (by decide)
  refine XL.step (s_ifQuote T ks hks v.q V.q X.q (by kernel_rfl) (by kernel_rfl) _) ?_ (by decide)
  refine XL.step (s_blank ks hks (by kernel_rfl) (by kernel_rfl) _) ?_ (by decide)
  refine XL.step (s_tail en el t (by kernel_rfl) (by kernel_rfl) _) ?_ (by decide)
  refine XL.weak (ρ' := asρ [("cells", intsD cs), ("width", .int w), ("end", .str (mkS en)), ("eol", .val (.str (mkS el) t)), ("text", .str (mkS ks)), ("codes", strsOf ks codeS), ("blank", .str (blankS ks)), ("tail", .str (mkS (tailL en el)))]) ?_ (asρ_le ?_)
  rotate_left
  · intro p hp
    simp only [List.mem_cons, List.not_mem_nil, or_false] at hp
    rcases hp with rfl | rfl | rfl | rfl | rfl | rfl | rfl | rfl
    all_goals kernel_rfl
  refine XL.step (s_ways T ks hks w W v.ways V.ways L.ways (by kernel_rfl) (by kernel_rfl) (by kernel_rfl) _) ?_ (by decide)
  refine XL.step (s_places T W K L.wok (by kernel_rfl) _) ?_ (by decide)
  refine XL.step (s_latest T W K L.wok (by kernel_rfl) (by kernel_rfl) _) ?_ (by decide)
  refine XL.step (s_earliest T W K L.wok (by kernel_rfl) (by kernel_rfl) _) ?_ (by decide)
  refine XL.step (s_21 T ks en el R Lt (tailL en el) (latestOf W K) (blankS ks) w t (by omega) hLt hR v.be v.letter V.be V.letter fbe fl (by kernel_rfl) (by kernel_rfl) (by kernel_rfl) (by kernel_rfl) (by kernel_rfl) (by kernel_rfl) (by kernel_rfl) (by kernel_rfl) _) ?_ (by decide)
  refine XL.step (s_whole T ks L0 (blankS ks) hL0 v.letter V.letter fl0 (by kernel_rfl) (by kernel_rfl) _) ?_ (by decide)
  refine XL.step (s_23 T ks (L0 ++ [10]) (by omega) v.be v.d V.be V.d fb1 fd1 X.be77 (by kernel_rfl) (by kernel_rfl) _) ?_ (by decide)
  refine XL.step (s_pages T (by omega) VE ST cs hcl ks en el (by omega) t v.be V.be (X.ber el hel) (by kernel_rfl) (by kernel_rfl) (by kernel_rfl) (by kernel_rfl) (by kernel_rfl) _) ?_ (by decide)
  refine XL.step (s_25 T el w t v.be v.d V.be V.d (X.be0 el w hw) (X.d0 el) (by kernel_rfl) (by kernel_rfl) _) ?_ (by decide)
  refine XL.step (ρ' := upd _ "hands" (wsD H)) (by rw [← hHd]; exact s_hands T cs hcl W K L.wok (by kernel_rfl) (by kernel_rfl) _) ?_ (by decide)
  refine XL.step (s_due ks (tailL en el) (by omega) (by kernel_rfl) (by kernel_rfl) _) ?_ (by decide)
  refine XL.weak (ρ' := asρ [("eol", .val (.str (mkS el) t)), ("codes", strsOf ks codeS), ("blank", .str (blankS ks)), ("tail", .str (mkS (tailL en el))), ("ways", wsD W), ("places", .range 0 K), ("latest", intsD (latestOf W K)), ("earliest", intsD (earliestOf W K)), ("hands", wsD H), ("due", .str (mkS (dueOf ks (tailL en el))))]) ?_ (asρ_le ?_)
  rotate_left
  · intro p hp
    simp only [List.mem_cons, List.not_mem_nil, or_false] at hp
    rcases hp with rfl | rfl | rfl | rfl | rfl | rfl | rfl | rfl | rfl | rfl
    all_goals kernel_rfl
  obtain ⟨ρ', hkp, x28⟩ := s_hand (n := n + 8) T ks (tailL en el) el (blankS ks) t ht hel v.letter v.d V.letter V.d H (fun h hh => L.hand h (hH.2.2 h hh)) (ρ := asρ [("eol", .val (.str (mkS el) t)), ("codes", strsOf ks codeS), ("blank", .str (blankS ks)), ("tail", .str (mkS (tailL en el))), ("ways", wsD W), ("places", .range 0 K), ("latest", intsD (latestOf W K)), ("earliest", intsD (earliestOf W K)), ("hands", wsD H), ("due", .str (mkS (dueOf ks (tailL en el))))]) (by kernel_rfl) (by kernel_rfl) (by kernel_rfl) (by kernel_rfl) (by kernel_rfl) (by kernel_rfl)
  refine XL.step x28 ?_ (by decide)
  refine XL.weak (ρ' := asρ [("ways", wsD W), ("places", .range 0 K), ("latest", intsD (latestOf W K)), ("earliest", intsD (earliestOf W K)), ("hands", wsD H)]) ?_ (asρ_le ?_)
  rotate_left
  · intro p hp
    simp only [List.mem_cons, List.not_mem_nil, or_false] at hp
    rcases hp with rfl | rfl | rfl | rfl | rfl
    · exact hkp "ways" _ (by decide +kernel) (by decide +kernel) (by kernel_rfl)
    · exact hkp "places" _ (by decide +kernel) (by decide +kernel) (by kernel_rfl)
    · exact hkp "latest" _ (by decide +kernel) (by decide +kernel) (by kernel_rfl)
    · exact hkp "earliest" _ (by decide +kernel) (by decide +kernel) (by kernel_rfl)
    · exact hkp "hands" _ (by decide +kernel) (by decide +kernel) (by kernel_rfl)
  refine XL.step (s_votes H K hHK (by kernel_rfl) (by kernel_rfl) _) ?_ (by decide)
  refine XL.step (s_low T (votesOf H K) (by omega) v.ml V.ml lowM (fun x hx => X.ml x (hv x hx).1 (hv x hx).2) (by kernel_rfl) _) ?_ (by decide)
  refine XL.step (s_high T (votesOf H K) (by omega) v.mh V.mh highM (fun x hx => X.mh x (hv x hx).1 (hv x hx).2) (by kernel_rfl) _) ?_ (by decide)
  refine XL.step (s_ifVotes T H K hHK ((votesOf H K).map lowM) ((votesOf H K).map highM) (by omega) (by kernel_rfl) (by kernel_rfl) (by kernel_rfl) (by kernel_rfl) (by kernel_rfl) _) ?_ (by decide)
  refine XL.step (s_ifIn W _ _ m1 m2 (by kernel_rfl) (by kernel_rfl) (by kernel_rfl) _) ?_ (by decide)
  refine XL.step (s_spans T H W K hHK L.wok (by kernel_rfl) (by kernel_rfl) _) ?_ (by decide)
  refine XL.step (s_least T (W.map (spanOf H)) (by simpa using L.wok.ne) (by kernel_rfl) _) ?_ (by decide)
  refine XL.step (s_nearest T W L.wok.few (spanOf H) (leastOf H W) (by kernel_rfl) (by kernel_rfl) (by kernel_rfl) _) ?_ (by decide)
  refine XL.step (s_between (n := n + 7) T W K L.wok _ _ hlo hhi (by kernel_rfl) (by kernel_rfl) (by kernel_rfl) _) ?_ (by decide)
  refine XL.step (s_ifNear _ _ m3 (by kernel_rfl) (by kernel_rfl) _) ?_ (by decide)
  exact s_ret T W _ _ v.climb v.mh v.ml V.climb V.mh V.ml L.up L.down (by kernel_rfl) (by kernel_rfl) (by kernel_rfl) _
/-- all of law -/
theorem x_law (T : Tops c) (VE : Bi c "ValueError" (.type "ValueError")) (ST : Bi c "str" (.type "str")) (v : Fv) (V : FvOK c v) (X : FnsOK c (n + 8) v) (ns : List Int) (hns : ns.length ≤ 63)
    (L : ∀ ks w en el, OctOK ks → 4 ≤ w → w ≤ 7 → EndOK en → EolOK el → ∃ W K, LineOK c (n + 8) v ks w en el W K) :
    ExsF 0 c (n + 8) (fS 30) (Cells 30) none (upds (fun _ => none) ["script"] [intsD ns]) [] (fB 30) (.ret (.bool true)) := by
  refine law_1 T ns hns fun cs ks hcl _ hks => ?_
  have x4 : XL 0 c (n + 8) (asρ [("cells", intsD cs), ("octets", natsD ks)]) 4 (.bool true) := by
    refine law_2 T cs ks hcl hks fun w en el t h4 h7 hen hel ht => ?_
    obtain ⟨W, K, l⟩ := L ks w en el hks h4 h7 hen hel
    exact law_3 T VE ST v V X cs ks hcl hks w h4 en el t hen hel ht W K l
  obtain ⟨q⟩ := x4
  assumption
end
end Qp
namespace Qp
open PySem PySem.Calls PyProof.Rows PySem.W
/-! the ways, as chains of places -/
structure Rr (f : Int → Int) (w N : Int) (a b : Int) : Prop where
  lt : a < b
  top : b < N
  fit : f a - f b < w
noncomputable def Ch (f : Int → Int) (w N : Int) : Int → List Int → Prop
  | _, [] => True
  | a, b :: l => Rr f w N a b ∧ Ch f w N b l
/-- f falls and D stays -/
structure FD (f : Int → Int) (D : Int → Prop) : Prop where
  fall : ∀ a b, a ≤ b → f b ≤ f a
  stay : ∀ a b, a ≤ b → D a → D b
structure WS (f : Int → Int) (w N : Int) (D : Int → Prop) (W : List (List Int)) (K : Nat) : Prop where
  mem : ∀ l, l ∈ W ↔ (l.length = K ∧ Ch f w N 0 l ∧ D (l.getLastD 0))
  nodup : W.Nodup
  ne : W ≠ []
  min : ∀ l, Ch f w N 0 l → D (l.getLastD 0) → K ≤ l.length
  k1 : 1 ≤ K
section
variable {f : Int → Int} {w N : Int} {D : Int → Prop}
theorem Rr.cross (F : FD f D) {x y x' y' : Int} (h : Rr f w N x y) (h' : Rr f w N x' y') {a b : Int} (ha : x ≤ a) (hb : b ≤ y) (hlt : a < b) : Rr f w N a b :=
  ⟨hlt, Int.lt_of_le_of_lt hb h.top, by have := F.fall _ _ ha; have := F.fall _ _ hb; have := h.fit; omega⟩
theorem ch_iff : ∀ (l : List Int) (a : Int), Ch f w N a l ↔ ∀ i, i < l.length → Rr f w N ((a :: l).getD i 0) (l.getD i 0)
  | [], a => ⟨fun _ i h => by simp at h, fun _ => trivial⟩
  | b :: l, a => by
    constructor
    · intro h i hi
      cases i with
      | zero => exact h.1
      | succ j => exact (ch_iff l b).mp h.2 j (by simpa using hi)
    · intro h
      exact ⟨h 0 (by simp), (ch_iff l b).mpr fun i hi => h (i + 1) (by simpa using hi)⟩
theorem last_iff : ∀ (l : List Int) (a : Int), l.getLastD a = (a :: l).getD l.length 0
  | [], a => rfl
  | b :: l, a => by
    have := last_iff l b
    rw [List.getLastD_cons, this]; rfl
/-- who stands further on comes home as soon -/
theorem ahead (F : FD f D) : ∀ (u : List Int) (y x : Int), y ≤ x → Ch f w N y u → D (u.getLastD y) → ∃ u', Ch f w N x u' ∧ D (u'.getLastD x) ∧ u'.length ≤ u.length
  | [], y, x, h, _, d => ⟨[], trivial, F.stay _ _ h d, Nat.le_refl _⟩
  | z :: u, y, x, h, c, d => by
    rw [List.getLastD_cons] at d
    by_cases hz : z ≤ x
    · obtain ⟨u', c', d', l'⟩ := ahead F u z x hz c.2 d
      exact ⟨u', c', d', by simp; omega⟩
    · exact ⟨z :: u, ⟨c.1.cross F c.1 h (Int.le_refl _) (by omega), c.2⟩, by rw [List.getLastD_cons]; exact d, Nat.le_refl _⟩
theorem ch_append : ∀ (l m : List Int) (a : Int), Ch f w N a (l ++ m) ↔ Ch f w N a l ∧ Ch f w N (l.getLastD a) m
  | [], m, a => ⟨fun h => ⟨trivial, h⟩, fun h => h.2⟩
  | b :: l, m, a => by
    have := ch_append l m b
    rw [List.getLastD_cons]
    show (_ ∧ Ch f w N b (l ++ m)) ↔ (_ ∧ _) ∧ _
    rw [this]
    exact ⟨fun ⟨a, b, c⟩ => ⟨⟨a, b⟩, c⟩, fun ⟨⟨a, b⟩, c⟩ => ⟨a, b, c⟩⟩
theorem lastD_append : ∀ (l m : List Int) (a : Int), (l ++ m).getLastD a = m.getLastD (l.getLastD a)
  | [], _, _ => rfl
  | b :: l, m, a => by
    have := lastD_append l m b
    rw [List.cons_append, List.getLastD_cons, List.getLastD_cons, this]
theorem getD_lt {l : List Int} {i : Nat} (h : i < l.length) : l.getD i 0 = l[i] := by
  rw [List.getD_eq_getElem?_getD, List.getElem?_eq_getElem h]; rfl
/-- the windows do not meet -/
theorem WS.apart {W : List (List Int)} {K : Nat} (S : WS f w N D W K) (F : FD f D) (u v : List Int) (hu : u ∈ W) (hv : v ∈ W) (i : Nat) (hi : i + 1 < K) : v.getD i 0 < u.getD (i + 1) 0 := by
  rcases Int.lt_or_le (v.getD i 0) (u.getD (i + 1) 0) with h | h
  · exact h
  · exfalso
    obtain ⟨lu, cu, du⟩ := (S.mem u).mp hu
    obtain ⟨lv, cv, dv⟩ := (S.mem v).mp hv
    have eu : u = u.take (i + 1) ++ (u.getD (i + 1) 0 :: u.drop (i + 2)) := by
      rw [getD_lt (by omega), List.getElem_cons_drop, List.take_append_drop]
    have ev : v = (v.take i ++ [v.getD i 0]) ++ v.drop (i + 1) := by
      rw [getD_lt (by omega), List.append_assoc, List.singleton_append, List.getElem_cons_drop, List.take_append_drop]
    generalize u.getD (i + 1) 0 = y at *
    generalize v.getD i 0 = x at *
    rw [eu, ch_append] at cu
    rw [eu, lastD_append, List.getLastD_cons] at du
    rw [ev, ch_append] at cv
    obtain ⟨u', c', d', l'⟩ := ahead F _ y x h cu.2.2 du
    have hx : (v.take i ++ [x]).getLastD 0 = x := by rw [lastD_append]; rfl
    have := S.min ((v.take i ++ [x]) ++ u') (by rw [ch_append, hx]; exact ⟨cv.1, c'⟩) (by rw [lastD_append, hx]; exact d')
    simp only [List.length_append, List.length_take, List.length_singleton, List.length_drop] at this l'
    omega
end
/-! order statistics -/
noncomputable def Os (k : Nat) (v : List Int) : Int := (srt v).getD k 0
theorem srt_len (v : List Int) : (srt v).length = v.length := (srt_perm v).length_eq
theorem os_at {k : Nat} {v : List Int} (h : k < v.length) : ∃ h', Os k v = (srt v)[k]'h' := ⟨by rw [srt_len]; exact h, getD_lt (by rw [srt_len]; exact h)⟩
theorem os_mem {k : Nat} {v : List Int} (h : k < v.length) : Os k v ∈ v := by
  obtain ⟨h', e⟩ := os_at h
  rw [e]; exact (srt_perm v).mem_iff.mp (List.getElem_mem h')
theorem os_le {k : Nat} {v : List Int} (h : k < v.length) : k + 1 ≤ v.countP (fun a => decide (a ≤ Os k v)) := by
  obtain ⟨h', e⟩ := os_at h
  rw [← (srt_perm v).countP_eq, e]
  have hs := srt_sorted v
  generalize srt v = s at *
  have : (s.take (k + 1)).countP (fun a => decide (a ≤ s[k])) = (s.take (k + 1)).length := by
    rw [List.countP_eq_length]
    intro a ha
    obtain ⟨j, hj, rfl⟩ := List.getElem_of_mem ha
    rw [List.length_take] at hj
    rw [List.getElem_take]
    rcases Nat.lt_or_ge j k with q | q
    · simpa using List.pairwise_iff_getElem.mp hs j k (by omega) h' q
    · have : j = k := by omega
      subst this; simp
  have h2 := List.Sublist.countP_le (p := fun a => decide (a ≤ s[k])) (List.take_sublist (k + 1) s)
  rw [this, List.length_take] at h2
  omega
theorem os_ge {k : Nat} {v : List Int} (h : k < v.length) : v.length - k ≤ v.countP (fun a => decide (Os k v ≤ a)) := by
  obtain ⟨h', e⟩ := os_at h
  rw [← (srt_perm v).countP_eq, e, ← srt_len v]
  have hs := srt_sorted v
  generalize srt v = s at *
  have : (s.drop k).countP (fun a => decide (s[k] ≤ a)) = (s.drop k).length := by
    rw [List.countP_eq_length]
    intro a ha
    obtain ⟨j, hj, rfl⟩ := List.getElem_of_mem ha
    rw [List.length_drop] at hj
    rw [List.getElem_drop]
    rcases Nat.eq_zero_or_pos j with q | q
    · subst q; simp
    · simpa using List.pairwise_iff_getElem.mp hs k (k + j) h' (by omega) (by omega)
  have h2 := List.Sublist.countP_le (p := fun a => decide (s[k] ≤ a)) (List.drop_sublist k s)
  rw [this, List.length_drop] at h2
  exact h2
theorem pigeon {α : Type} (p q : α → Bool) : ∀ H : List α, H.length < H.countP p + H.countP q → ∃ h ∈ H, p h = true ∧ q h = true
  | [], h => by simp at h
  | a :: H, h => by
    by_cases hpq : p a = true ∧ q a = true
    · exact ⟨a, List.mem_cons_self, hpq⟩
    · have : H.length < H.countP p + H.countP q := by
        rw [List.countP_cons, List.countP_cons, List.length_cons] at h
        by_cases h1 : p a = true <;> by_cases h2 : q a = true <;> simp_all <;> omega
      obtain ⟨x, hx, r⟩ := pigeon p q H this
      exact ⟨x, List.mem_cons_of_mem _ hx, r⟩
theorem map_range_getD (g : Nat → Int) (K i : Nat) (h : i < K) : ((List.range K).map g).getD i 0 = g i := by
  rw [getD_lt (by simpa using h)]; simp
theorem colOf_countP (p : Int → Bool) (H : List (List Int)) (i : Nat) : (colOf H i).countP p = H.countP fun h => p (h.getD i 0) := by
  unfold colOf; rw [List.countP_map]; rfl
theorem colOf_len (H : List (List Int)) (i : Nat) : (colOf H i).length = H.length := by simp [colOf]
section
variable {f : Int → Int} {w N : Int} {D : Int → Prop}
theorem WS.os {W : List (List Int)} {K : Nat} (S : WS f w N D W K) (F : FD f D) (H : List (List Int)) (hH : ∀ h ∈ H, h ∈ W) (k : Nat) (hk : k < H.length) : ((List.range K).map fun i => Os k (colOf H i)) ∈ W := by
  have hcol : ∀ i, ∃ h ∈ H, h.getD i 0 = Os k (colOf H i) := fun i => by
    have := os_mem (k := k) (v := colOf H i) (by rw [colOf_len]; exact hk)
    obtain ⟨h, hh, e⟩ := List.mem_map.mp this
    exact ⟨h, hh, e⟩
  rw [S.mem]
  refine ⟨by simp, ?_, ?_⟩
  · rw [ch_iff]
    intro i hi
    simp only [List.length_map, List.length_range] at hi
    rw [map_range_getD _ _ _ hi]
    cases i with
    | zero =>
      obtain ⟨h, hh, e⟩ := hcol 0
      obtain ⟨l, c, _⟩ := (S.mem h).mp (hH h hh)
      have := (ch_iff h 0).mp c 0 (by omega)
      rw [e] at this; exact this
    | succ i =>
      rw [List.getD_cons_succ, map_range_getD _ _ _ (by omega)]
      have la := os_le (k := k) (v := colOf H i) (by rw [colOf_len]; exact hk)
      have lb := os_ge (k := k) (v := colOf H i) (by rw [colOf_len]; exact hk)
      have ra := os_le (k := k) (v := colOf H (i + 1)) (by rw [colOf_len]; exact hk)
      have rb := os_ge (k := k) (v := colOf H (i + 1)) (by rw [colOf_len]; exact hk)
      rw [colOf_len] at lb rb
      rw [colOf_countP] at la lb ra rb
      have hR : ∀ h ∈ H, Rr f w N (h.getD i 0) (h.getD (i + 1) 0) := fun h hh => by
        obtain ⟨l, c, _⟩ := (S.mem h).mp (hH h hh)
        exact (ch_iff h 0).mp c (i + 1) (by omega)
      obtain ⟨h1, m1, p1, q1⟩ := pigeon _ _ H (Nat.lt_of_lt_of_le (show H.length < (k + 1) + (H.length - k) by omega) (Nat.add_le_add la rb))
      obtain ⟨h2, m2, p2, q2⟩ := pigeon _ _ H (Nat.lt_of_lt_of_le (show H.length < (H.length - k) + (k + 1) by omega) (Nat.add_le_add lb ra))
      simp only [decide_eq_true_eq] at p1 q1 p2 q2
      exact (hR h1 m1).cross F (hR h1 m1) p1 q1 (by have := (hR h2 m2).lt; omega)
  · rw [last_iff]
    simp only [List.length_map, List.length_range]
    obtain ⟨j, rfl⟩ : ∃ j, K = j + 1 := ⟨K - 1, by have := S.k1; omega⟩
    rw [List.getD_cons_succ, map_range_getD _ _ _ (by omega)]
    obtain ⟨h, hh, e⟩ := hcol j
    obtain ⟨l, _, d⟩ := (S.mem h).mp (hH h hh)
    rw [last_iff, l, List.getD_cons_succ, e] at d
    exact d
theorem low_eq (v : List Int) : lowM v = Os ((v.length - 1) / 2) v := rfl
theorem high_eq (v : List Int) : highM v = Os (v.length / 2) v := rfl
theorem WS.low {W : List (List Int)} {K : Nat} (S : WS f w N D W K) (F : FD f D) (H : List (List Int)) (hne : H ≠ []) (hH : ∀ h ∈ H, h ∈ W) : ((List.range K).map fun i => lowM (colOf H i)) ∈ W := by
  have hl : 0 < H.length := List.length_pos_iff.mpr hne
  have := S.os F H hH ((H.length - 1) / 2) (by omega)
  simpa only [low_eq, colOf_len] using this
theorem WS.high {W : List (List Int)} {K : Nat} (S : WS f w N D W K) (F : FD f D) (H : List (List Int)) (hne : H ≠ []) (hH : ∀ h ∈ H, h ∈ W) : ((List.range K).map fun i => highM (colOf H i)) ∈ W := by
  have hl : 0 < H.length := List.length_pos_iff.mpr hne
  have := S.os F H hH (H.length / 2) (by omega)
  simpa only [high_eq, colOf_len] using this
end
end Qp
namespace Qp
open PySem PySem.Calls PyProof.Rows PySem.W
/-! the nearest are those between the medians -/
noncomputable def distV (v : List Int) (x : Int) : Int := (v.map fun a => absI (x - a)).sum
theorem dist_step (x : Int) : ∀ v : List Int, distV v (x + 1) = distV v x + 2 * (v.countP fun a => decide (a ≤ x)) - v.length
  | [] => rfl
  | a :: v => by
    have ih := dist_step x v
    unfold distV at *
    rw [List.map_cons, List.map_cons, List.sum_cons, List.sum_cons, ih, List.countP_cons, List.length_cons]
    unfold absI
    by_cases h : a ≤ x
    · rw [decide_eq_true h]; simp only [if_true]; split <;> split <;> omega
    · rw [decide_eq_false h]; simp only [Bool.false_eq_true, if_false]; split <;> split <;> omega
theorem cnt_mono (v : List Int) {x y : Int} (h : x ≤ y) : (v.countP fun a => decide (a ≤ x)) ≤ v.countP fun a => decide (a ≤ y) :=
  List.countP_mono_left fun a _ q => by simp only [decide_eq_true_eq] at *; omega
theorem cnt_split (v : List Int) {x y : Int} (h : x < y) : (v.countP fun a => decide (a ≤ x)) + (v.countP fun a => decide (y ≤ a)) ≤ v.length := by
  rcases Nat.lt_or_ge v.length ((v.countP fun a => decide (a ≤ x)) + (v.countP fun a => decide (y ≤ a))) with q | q
  · obtain ⟨a, _, h1, h2⟩ := pigeon _ _ v q
    simp only [decide_eq_true_eq] at h1 h2; omega
  · exact q
section
variable (v : List Int) (hv : v ≠ [])
include hv
theorem dist_up : ∀ d : Nat, distV v (highM v) + d ≤ distV v (highM v + d)
  | 0 => by simp
  | d + 1 => by
    have ih := dist_up d
    have hl : 0 < v.length := List.length_pos_iff.mpr hv
    have := dist_step (highM v + d) v
    have c := os_le (k := v.length / 2) (v := v) (by omega)
    have m := cnt_mono v (x := highM v) (y := highM v + d) (by omega)
    rw [← high_eq] at c
    rw [show highM v + ((d + 1 : Nat) : Int) = highM v + d + 1 by omega, this]
    omega
theorem dist_down : ∀ d : Nat, distV v (lowM v) + d ≤ distV v (lowM v - d)
  | 0 => by simp
  | d + 1 => by
    have ih := dist_down d
    have hl : 0 < v.length := List.length_pos_iff.mpr hv
    have := dist_step (lowM v - (d + 1 : Nat)) v
    have c := os_ge (k := (v.length - 1) / 2) (v := v) (by omega)
    have m := cnt_split v (x := lowM v - (d + 1 : Nat)) (y := lowM v) (by omega)
    rw [← low_eq] at c
    rw [show lowM v - ((d + 1 : Nat) : Int) + 1 = lowM v - d by omega] at this
    omega
theorem dist_flat : ∀ d : Nat, lowM v + d ≤ highM v → distV v (lowM v + d) = distV v (lowM v)
  | 0, _ => by simp
  | d + 1, h => by
    have ih := dist_flat d (by omega)
    have hl : 0 < v.length := List.length_pos_iff.mpr hv
    have := dist_step (lowM v + d) v
    have c := os_le (k := (v.length - 1) / 2) (v := v) (by omega)
    have c2 := os_ge (k := v.length / 2) (v := v) (by omega)
    have m := cnt_mono v (x := lowM v) (y := lowM v + d) (by omega)
    have m2 := cnt_split v (x := lowM v + d) (y := highM v) (by omega)
    rw [← low_eq] at c
    rw [← high_eq] at c2
    rw [show lowM v + ((d + 1 : Nat) : Int) = lowM v + d + 1 by omega, this]
    omega
theorem low_high : lowM v ≤ highM v := by
  rcases Int.lt_or_le (highM v) (lowM v) with h | h
  · have hl : 0 < v.length := List.length_pos_iff.mpr hv
    have c := os_le (k := v.length / 2) (v := v) (by omega)
    have c2 := os_ge (k := (v.length - 1) / 2) (v := v) (by omega)
    have := cnt_split v h
    rw [← high_eq] at c
    rw [← low_eq] at c2
    omega
  · exact h
theorem dist_min (x : Int) : distV v (lowM v) ≤ distV v x ∧ (distV v x = distV v (lowM v) ↔ lowM v ≤ x ∧ x ≤ highM v) := by
  have hh := low_high v hv
  rcases Int.lt_or_le x (lowM v) with h | h
  · have := dist_down v hv (lowM v - x).toNat
    rw [show lowM v - ((lowM v - x).toNat : Int) = x by omega] at this
    omega
  · rcases Int.lt_or_le (highM v) x with h2 | h2
    · have := dist_up v hv (x - highM v).toNat
      have e := dist_flat v hv (highM v - lowM v).toNat (by omega)
      rw [show highM v + ((x - highM v).toNat : Int) = x by omega] at this
      rw [show lowM v + ((highM v - lowM v).toNat : Int) = highM v by omega] at e
      omega
    · have e := dist_flat v hv (x - lowM v).toNat (by omega)
      rw [show lowM v + ((x - lowM v).toNat : Int) = x by omega] at e
      omega
end
theorem sum_range_le (g g' : Nat → Int) : ∀ K : Nat, (∀ i, i < K → g i ≤ g' i) → ((List.range K).map g).sum ≤ ((List.range K).map g').sum ∧ (((List.range K).map g').sum = ((List.range K).map g).sum ↔ ∀ i, i < K → g' i = g i)
  | 0, _ => by simp
  | K + 1, h => by
    obtain ⟨a, b⟩ := sum_range_le g g' K fun i hi => h i (by omega)
    have hK := h K (by omega)
    rw [List.range_succ, List.map_append, List.map_append, List.sum_append, List.sum_append, List.map_singleton, List.map_singleton, List.sum_singleton, List.sum_singleton]
    refine ⟨by omega, ⟨fun q i hi => ?_, fun q => ?_⟩⟩
    · rcases Nat.lt_or_ge i K with hi2 | hi2
      · exact b.mp (by omega) i hi2
      · have : i = K := by omega
        subst this; omega
    · have := b.mpr fun i hi => q i (by omega)
      have := q K (by omega)
      omega
theorem sum_range_add (g g' : Nat → Int) : ∀ K : Nat, ((List.range K).map fun i => g i + g' i).sum = ((List.range K).map g).sum + ((List.range K).map g').sum
  | 0 => by simp
  | K + 1 => by
    have := sum_range_add g g' K
    simp only [List.range_succ, List.map_append, List.sum_append, List.map_singleton, List.sum_singleton, this]
    omega
theorem zip_range (F : Int × Int → Int) (w h : List Int) (K : Nat) (hw : w.length = K) (hh : h.length = K) : (w.zip h).map F = (List.range K).map fun i => F (w.getD i 0, h.getD i 0) := by
  apply List.ext_getElem
  · simp [hw, hh]
  · intro i h1 h2
    simp only [List.length_map, List.length_range] at h2
    rw [List.getElem_map, List.getElem_zip, List.getElem_map, List.getElem_range, getD_lt (by omega), getD_lt (by omega)]
theorem span_eq (K : Nat) (w : List Int) (hw : w.length = K) : ∀ H : List (List Int), (∀ h ∈ H, h.length = K) → spanOf H w = ((List.range K).map fun i => distV (colOf H i) (w.getD i 0)).sum
  | [], _ => by
    show (0 : Int) = ((List.range K).map fun _ => (0 : Int)).sum
    clear hw
    induction K with
    | zero => rfl
    | succ K ih => rw [List.range_succ, List.map_append, List.sum_append, ← ih (by simp)]; rfl
  | h :: H, hh => by
    have ih := span_eq K w hw H fun x hx => hh x (List.mem_cons_of_mem _ hx)
    have e : spanOf (h :: H) w = ((w.zip h).map fun p => absI (p.1 - p.2)).sum + spanOf H w := by
      unfold spanOf gapsOf; rw [List.flatMap_cons, List.sum_append]
    rw [e, ih, zip_range _ w h K hw (hh h List.mem_cons_self), ← sum_range_add]
    rfl
theorem within_iff (K : Nat) (lo w hi : List Int) (h1 : lo.length = K) (h2 : w.length = K) (h3 : hi.length = K) : within lo w hi = true ↔ ∀ i, i < K → lo.getD i 0 ≤ w.getD i 0 ∧ w.getD i 0 ≤ hi.getD i 0 := by
  unfold within
  rw [List.all_map, List.all_eq_true]
  constructor
  · intro h i hi'
    have := h ((lo.zip (w.zip hi))[i]'(by simp; omega)) (List.getElem_mem _)
    simp only [List.getElem_zip, Function.comp, id, Bool.and_eq_true, decide_eq_true_eq] at this
    rw [getD_lt (by omega), getD_lt (by omega), getD_lt (by omega)]; exact this
  · intro h p hp
    obtain ⟨i, hi', rfl⟩ := List.getElem_of_mem hp
    simp only [List.length_zip] at hi'
    have := h i (by omega)
    rw [getD_lt (by omega), getD_lt (by omega), getD_lt (by omega)] at this
    simpa only [List.getElem_zip, Function.comp, id, Bool.and_eq_true, decide_eq_true_eq] using this
theorem votes_map (H : List (List Int)) (K : Nat) (g : List Int → Int) : (votesOf H K).map g = (List.range K).map fun i => g (colOf H i) := by
  unfold votesOf; rw [List.map_map]; rfl
section
variable {f : Int → Int} {w N : Int} {D : Int → Prop}
theorem WS.near {W : List (List Int)} {K : Nat} (S : WS f w N D W K) (F : FD f D) (H : List (List Int)) (hne : H ≠ []) (hH : ∀ h ∈ H, h ∈ W) : nearestOf H W = betweenOf W ((votesOf H K).map lowM) ((votesOf H K).map highM) := by
  have hlo := S.low F H hne hH
  have hlen : ∀ h ∈ W, h.length = K := fun h hh => ((S.mem h).mp hh).1
  have hsp := fun (u : List Int) (hu : u ∈ W) => span_eq K u (hlen u hu) H fun h hh => hlen h (hH h hh)
  have key : ∀ u ∈ W, spanOf H ((List.range K).map fun i => lowM (colOf H i)) ≤ spanOf H u ∧ (spanOf H u = spanOf H ((List.range K).map fun i => lowM (colOf H i)) ↔ within ((votesOf H K).map lowM) u ((votesOf H K).map highM) = true) := by
    intro u hu
    rw [hsp u hu, hsp _ hlo, votes_map, votes_map, within_iff K _ _ _ (by simp) (hlen u hu) (by simp)]
    have hm := fun i => dist_min (colOf H i) (colOf_ne hne i) (u.getD i 0)
    have e : ((List.range K).map fun i => distV (colOf H i) (((List.range K).map fun i => lowM (colOf H i)).getD i 0)) = (List.range K).map fun i => distV (colOf H i) (lowM (colOf H i)) :=
      List.map_congr_left fun i hi => by rw [map_range_getD _ _ _ (List.mem_range.mp hi)]
    rw [e]
    obtain ⟨a, b⟩ := sum_range_le (fun i => distV (colOf H i) (lowM (colOf H i))) (fun i => distV (colOf H i) (u.getD i 0)) K fun i _ => (hm i).1
    refine ⟨a, b.trans ⟨fun q i hi => ?_, fun q i hi => ?_⟩⟩
    · rw [map_range_getD _ _ _ hi, map_range_getD _ _ _ hi]; exact (hm i).2.mp (q i hi)
    · have := q i hi
      rw [map_range_getD _ _ _ hi, map_range_getD _ _ _ hi] at this
      exact (hm i).2.mpr this
  have hle : leastOf H W = spanOf H ((List.range K).map fun i => lowM (colOf H i)) := by
    unfold leastOf
    have h1 := minL_le (W.map (spanOf H)) _ (List.mem_map.mpr ⟨_, hlo, rfl⟩)
    obtain ⟨u, hu, e⟩ := List.mem_map.mp (minL_mem (W.map (spanOf H)) (by simpa using S.ne))
    have := (key u hu).1
    omega
  unfold nearestOf betweenOf
  rw [hle]
  refine List.filter_congr fun u hu => ?_
  have := (key u hu).2
  rw [Bool.eq_iff_iff, beq_iff_eq]
  exact this
end
end Qp
namespace Qp
open PySem PySem.Calls PyProof.Rows PySem.W
/-! the climb comes to the latest, and to the earliest -/
theorem nodup_le {α : Type} [DecidableEq α] : ∀ (l m : List α), l.Nodup → (∀ a ∈ l, a ∈ m) → l.length ≤ m.length
  | [], m, _, _ => Nat.zero_le _
  | a :: l, m, h, s => by
    have ha := s a List.mem_cons_self
    obtain ⟨hn, hd⟩ := List.nodup_cons.mp h
    have := nodup_le l (m.erase a) hd fun b hb => (List.mem_erase_of_ne (fun q => hn (by rw [← q]; exact hb))).mpr (s b (List.mem_cons_of_mem _ hb))
    rw [List.length_erase_of_mem ha] at this
    have : 0 < m.length := List.length_pos_of_mem ha
    simp only [List.length_cons]; omega
theorem all_of_cnt {v : List Int} {p : Int → Bool} (h : v.length ≤ v.countP p) : ∀ a ∈ v, p a = true :=
  List.countP_eq_length.mp (Nat.le_antisymm List.countP_le_length h)
theorem os0 {v : List Int} (h : v ≠ []) : ∀ a ∈ v, Os 0 v ≤ a := fun a ha => by
  have hl : 0 < v.length := List.length_pos_iff.mpr h
  have := all_of_cnt (by have := os_ge (k := 0) (v := v) hl; simpa using this) a ha
  simpa using this
theorem osL {v : List Int} {k : Nat} (h : v.length = k + 1) : ∀ a ∈ v, a ≤ Os k v := fun a ha => by
  have := all_of_cnt (by have := os_le (k := k) (v := v) (by omega); rw [h]; exact this) a ha
  simpa using this
theorem maxL_os {v : List Int} {k : Nat} (h : v.length = k + 1) : maxL v = Os k v := by
  have hne : v ≠ [] := by intro q; rw [q] at h; simp at h
  have a := osL h _ (maxL_mem v hne)
  have b := maxL_le v _ (os_mem (k := k) (v := v) (by omega))
  omega
theorem minL_os {v : List Int} (hne : v ≠ []) : minL v = Os 0 v := by
  have a := os0 hne _ (minL_mem v hne)
  have b := minL_le v _ (os_mem (k := 0) (v := v) (List.length_pos_iff.mpr hne))
  omega
theorem ext_getD {a b : List Int} {K : Nat} (ha : a.length = K) (hb : b.length = K) (h : ∀ i, i < K → a.getD i 0 = b.getD i 0) : a = b := by
  apply List.ext_getElem (by omega)
  intro i h1 h2
  have := h i (by omega)
  rwa [getD_lt h1, getD_lt h2] at this
theorem mj_inj {sg x y a : Int} (h1 : (if sg * x ≤ sg * a then a else x) = if sg * y ≤ sg * a then a else y) (h2 : (if sg * x ≤ sg * a then x else a) = if sg * y ≤ sg * a then y else a) : x = y := by
  by_cases hx : sg * x ≤ sg * a
  · by_cases hy : sg * y ≤ sg * a
    · rw [if_pos hx, if_pos hy] at h2; exact h2
    · rw [if_pos hx, if_neg hy] at h1 h2; omega
  · by_cases hy : sg * y ≤ sg * a
    · rw [if_neg hx, if_pos hy] at h1 h2; omega
    · rw [if_neg hx, if_neg hy] at h1; exact h1
noncomputable def jnS (sg : Int) (K : Nat) (w a : List Int) : List Int := (List.range K).map fun i => if sg * w.getD i 0 ≤ sg * a.getD i 0 then a.getD i 0 else w.getD i 0
noncomputable def mtS (sg : Int) (K : Nat) (w a : List Int) : List Int := (List.range K).map fun i => if sg * w.getD i 0 ≤ sg * a.getD i 0 then w.getD i 0 else a.getD i 0
theorem os0_two (x y : Int) : Os 0 [x, y] = if x ≤ y then x else y := by
  have a := os0 (v := [x, y]) (by simp)
  have h1 := a x (by simp)
  have h2 := a y (by simp)
  have m := os_mem (k := 0) (v := [x, y]) (by simp)
  simp only [List.mem_cons, List.not_mem_nil, or_false] at m
  split <;> omega
theorem os1_two (x y : Int) : Os 1 [x, y] = if x ≤ y then y else x := by
  have a := osL (v := [x, y]) (k := 1) rfl
  have h1 := a x (by simp)
  have h2 := a y (by simp)
  have m := os_mem (k := 1) (v := [x, y]) (by simp)
  simp only [List.mem_cons, List.not_mem_nil, or_false] at m
  split <;> omega
section
variable {f : Int → Int} {w N : Int} {D : Int → Prop} {W : List (List Int)} {K : Nat}
theorem WS.len (S : WS f w N D W K) : ∀ u ∈ W, u.length = K := fun u h => ((S.mem u).mp h).1
theorem WS.jn (S : WS f w N D W K) (F : FD f D) {sg : Int} (hsg : sg = 1 ∨ sg = -1) (u a : List Int) (hu : u ∈ W) (ha : a ∈ W) : jnS sg K u a ∈ W ∧ mtS sg K u a ∈ W := by
  have hH : ∀ h ∈ [u, a], h ∈ W := by intro h hh; simp only [List.mem_cons, List.not_mem_nil, or_false] at hh; rcases hh with rfl | rfl <;> assumption
  have o0 := S.os F [u, a] hH 0 (by simp)
  have o1 := S.os F [u, a] hH 1 (by simp)
  have e : ∀ i, colOf [u, a] i = [u.getD i 0, a.getD i 0] := fun _ => rfl
  simp only [e, os0_two, os1_two] at o0 o1
  unfold jnS mtS
  rcases hsg with rfl | rfl
  · refine ⟨?_, ?_⟩
    · rwa [show (fun i => if (1 : Int) * u.getD i 0 ≤ 1 * a.getD i 0 then a.getD i 0 else u.getD i 0) = fun i => if u.getD i 0 ≤ a.getD i 0 then a.getD i 0 else u.getD i 0 by funext i; simp only [Int.one_mul]]
    · rwa [show (fun i => if (1 : Int) * u.getD i 0 ≤ 1 * a.getD i 0 then u.getD i 0 else a.getD i 0) = fun i => if u.getD i 0 ≤ a.getD i 0 then u.getD i 0 else a.getD i 0 by funext i; simp only [Int.one_mul]]
  · refine ⟨?_, ?_⟩
    · rwa [show (fun i => if (-1 : Int) * u.getD i 0 ≤ -1 * a.getD i 0 then a.getD i 0 else u.getD i 0) = fun i => if u.getD i 0 ≤ a.getD i 0 then u.getD i 0 else a.getD i 0 by funext i; split <;> split <;> omega]
    · rwa [show (fun i => if (-1 : Int) * u.getD i 0 ≤ -1 * a.getD i 0 then u.getD i 0 else a.getD i 0) = fun i => if u.getD i 0 ≤ a.getD i 0 then a.getD i 0 else u.getD i 0 by funext i; split <;> split <;> omega]
theorem WS.latest (S : WS f w N D W K) (F : FD f D) : latestOf W K ∈ W := by
  obtain ⟨k, hk⟩ : ∃ k, W.length = k + 1 := ⟨W.length - 1, by have := List.length_pos_iff.mpr S.ne; omega⟩
  have := S.os F W (fun _ h => h) k (by omega)
  unfold latestOf
  rwa [show (fun i => maxL (colOf W i)) = fun i => Os k (colOf W i) by funext i; exact maxL_os (by rw [colOf_len]; exact hk)]
theorem WS.earliest (S : WS f w N D W K) (F : FD f D) : earliestOf W K ∈ W := by
  have := S.os F W (fun _ h => h) 0 (List.length_pos_iff.mpr S.ne)
  unfold earliestOf
  rwa [show (fun i => minL (colOf W i)) = fun i => Os 0 (colOf W i) by funext i; exact minL_os (colOf_ne S.ne i)]
/-- what the climb keeps -/
structure CI (W : List (List Int)) (K : Nat) (top : List Int) (left : List (List Int)) : Prop where
  nd : left.Nodup
  top : top ∈ left
  of : ∃ P : Nat → Int → Prop, ∀ u, u ∈ left ↔ u ∈ W ∧ ∀ i, i < K → P i (u.getD i 0)
/-- what the climb picks -/
structure PK (pk : List Int → Int) (sg : Int) : Prop where
  one : sg = 1 ∨ sg = -1
  mem : ∀ v, v ≠ [] → pk v ∈ v
  cnt : ∀ v, v ≠ [] → v.length < 2 * v.countP (fun a => decide (sg * a ≤ sg * pk v))
theorem pk_high : PK highM 1 := ⟨.inl rfl, fun v h => os_mem (by have := List.length_pos_iff.mpr h; omega), fun v h => by
  have hl := List.length_pos_iff.mpr h
  have := os_le (k := v.length / 2) (v := v) (by omega)
  simp only [Int.one_mul]
  rw [high_eq]; omega⟩
theorem pk_low : PK lowM (-1) := ⟨.inr rfl, fun v h => os_mem (by have := List.length_pos_iff.mpr h; omega), fun v h => by
  have hl := List.length_pos_iff.mpr h
  have := os_ge (k := (v.length - 1) / 2) (v := v) (by omega)
  have e : (fun a : Int => decide (-1 * a ≤ -1 * lowM v)) = fun a => decide (lowM v ≤ a) := by funext a; congr 1; apply propext; omega
  rw [e, low_eq]; omega⟩
theorem keep_mem (sg : Int) (mid : List Int) (left : List (List Int)) (hm : mid.length = K) (hl : ∀ u ∈ left, u.length = K) (u : List Int) : u ∈ keepBy sg mid left ↔ u ∈ left ∧ ∀ i, i < K → sg * mid.getD i 0 ≤ sg * u.getD i 0 := by
  unfold keepBy
  rw [List.mem_filter]
  constructor
  · rintro ⟨h1, h2⟩
    refine ⟨h1, fun i hi => ?_⟩
    have hu := hl u h1
    have := List.all_eq_true.mp h2 ((u.zip mid)[i]'(by simp; omega)) (List.getElem_mem _)
    simp only [List.getElem_zip, decide_eq_true_eq] at this
    rwa [getD_lt (by omega), getD_lt (by omega)]
  · rintro ⟨h1, h2⟩
    refine ⟨h1, ?_⟩
    rw [List.all_eq_true]
    intro p hp
    obtain ⟨i, hi, rfl⟩ := List.getElem_of_mem hp
    have hu := hl u h1
    simp only [List.length_zip] at hi
    have := h2 i (by omega)
    rw [getD_lt (by omega), getD_lt (by omega)] at this
    simpa only [List.getElem_zip, decide_eq_true_eq] using this
/-- the sum of the places, by the sign -/
noncomputable def ht (sg : Int) (K : Nat) (u : List Int) : Int := ((List.range K).map fun i => sg * u.getD i 0).sum
theorem CI.step (S : WS f w N D W K) (F : FD f D) {top : List Int} {pk : List Int → Int} {sg : Int} (hp : PK pk sg) (htop : ∀ u ∈ W, ∀ i, i < K → sg * u.getD i 0 ≤ sg * top.getD i 0)
    (hmid : ∀ H : List (List Int), H ≠ [] → (∀ h ∈ H, h ∈ W) → midOf pk K H ∈ W) {left : List (List Int)} (I : CI W K top left) :
    midOf pk K left ∈ left ∧ CI W K top (keepBy sg (midOf pk K left) left) ∧ (2 ≤ left.length → (keepBy sg (midOf pk K left) left).length < left.length) ∧ (keepBy sg (midOf pk K left) left).length ≤ left.length := by
  obtain ⟨P, hP⟩ := I.of
  have hne : left ≠ [] := List.ne_nil_of_mem I.top
  have hsub : ∀ u ∈ left, u ∈ W := fun u h => ((hP u).mp h).1
  have hlen : ∀ u ∈ left, u.length = K := fun u h => S.len u (hsub u h)
  have hmv : ∀ i, i < K → (midOf pk K left).getD i 0 = pk (colOf left i) := fun i hi => map_range_getD _ _ _ hi
  have hml : (midOf pk K left).length = K := by simp [midOf]
  have hmem : midOf pk K left ∈ left := by
    rw [hP]
    refine ⟨hmid left hne hsub, fun i hi => ?_⟩
    rw [hmv i hi]
    obtain ⟨u, hu, e⟩ := List.mem_map.mp (hp.mem (colOf left i) (colOf_ne hne i))
    rw [← e]; exact ((hP u).mp hu).2 i hi
  have hK := keep_mem (K := K) sg (midOf pk K left) left hml hlen
  have hlt : 2 ≤ left.length → (keepBy sg (midOf pk K left) left).length < left.length := by
    intro h2
    rcases Nat.lt_or_ge (keepBy sg (midOf pk K left) left).length left.length with q | q
    · exact q
    · exfalso
      have hall : ∀ u ∈ left, ∀ i, i < K → sg * (midOf pk K left).getD i 0 ≤ sg * u.getD i 0 := by
        intro u hu
        have e : keepBy sg (midOf pk K left) left = left := List.filter_eq_self.mpr (List.length_filter_eq_length_iff.mp (Nat.le_antisymm (List.length_filter_le _ _) q))
        exact ((hK u).mp (e.symm ▸ hu : u ∈ keepBy sg (midOf pk K left) left)).2
      have hcnt := fun i => hp.cnt (colOf left i) (colOf_ne hne i)
      generalize hb : midOf pk K left = b at *
      -- another one
      have hR : (left.filter fun u => u != b) ≠ [] := by
        intro e
        have : left.length ≤ [b].length := nodup_le left [b] I.nd fun u hu => by
          rw [List.mem_singleton]
          rcases Decidable.em (u = b) with q | q
          · exact q
          · have : u ∈ left.filter fun u => u != b := List.mem_filter.mpr ⟨hu, bne_iff_ne.mpr q⟩
            rw [e] at this; cases this
        simp at this; omega
      obtain ⟨a, ha, ea⟩ := List.mem_map.mp (minL_mem ((left.filter fun u => u != b).map (ht sg K)) (by simpa using hR))
      have hmin : ∀ u ∈ left, u ≠ b → ht sg K a ≤ ht sg K u := fun u hu hub => by
        rw [ea]; exact minL_le _ _ (List.mem_map.mpr ⟨u, List.mem_filter.mpr ⟨hu, bne_iff_ne.mpr hub⟩, rfl⟩)
      obtain ⟨ha1, ha2⟩ := List.mem_filter.mp ha
      have hab : a ≠ b := bne_iff_ne.mp ha2
      have hbl := hlen b hmem
      have hal := hlen a ha1
      obtain ⟨i0, hi0, hne0⟩ : ∃ i, i < K ∧ a.getD i 0 ≠ b.getD i 0 := by
        rcases Classical.em (∃ i, i < K ∧ a.getD i 0 ≠ b.getD i 0) with q | q
        · exact q
        · exact absurd (ext_getD hal hbl fun i hi => Classical.byContradiction fun z => q ⟨i, hi, z⟩) hab
      have hlow := hall a ha1 i0 hi0
      have hsg := hp.one
      have hstrict : sg * b.getD i0 0 < sg * a.getD i0 0 := by rcases hsg with rfl | rfl <;> omega
      -- meets and joins stay
      have hcl : ∀ u ∈ left, jnS sg K u a ∈ left ∧ mtS sg K u a ∈ left := by
        intro u hu
        obtain ⟨j1, m1⟩ := S.jn F hsg u a (hsub u hu) (hsub a ha1)
        have pu := ((hP u).mp hu).2
        have pa := ((hP a).mp ha1).2
        refine ⟨(hP _).mpr ⟨j1, fun i hi => ?_⟩, (hP _).mpr ⟨m1, fun i hi => ?_⟩⟩
        · unfold jnS; rw [map_range_getD _ _ _ hi]; split
          · exact pa i hi
          · exact pu i hi
        · unfold mtS; rw [map_range_getD _ _ _ hi]; split
          · exact pu i hi
          · exact pa i hi
      let p : List Int → Bool := fun u => decide (sg * u.getD i0 0 ≤ sg * b.getD i0 0)
      have hmt : ∀ u ∈ left, p u = true → mtS sg K u a = b := by
        intro u hu hpu
        have hpu : sg * u.getD i0 0 ≤ sg * b.getD i0 0 := by simpa [p] using hpu
        rcases Decidable.em (mtS sg K u a = b) with q | q
        · exact q
        · exfalso
          have h1 := hmin _ (hcl u hu).2 q
          obtain ⟨h3, h4⟩ := sum_range_le (fun i => sg * (mtS sg K u a).getD i 0) (fun i => sg * a.getD i 0) K fun i hi => by
            show sg * (mtS sg K u a).getD i 0 ≤ sg * a.getD i 0
            unfold mtS; rw [map_range_getD _ _ _ hi]; split <;> omega
          have := h4.mp (Int.le_antisymm h1 h3) i0 hi0
          simp only [mtS] at this
          rw [map_range_getD _ _ _ hi0] at this
          split at this <;> omega
      have hinj : ((left.filter p).map fun u => jnS sg K u a).Nodup := by
        refine List.pairwise_map.mpr ?_
        have hnd : (left.filter p).Nodup := I.nd.filter _
        refine List.Pairwise.imp_of_mem ?_ hnd
        intro u v hu hv huv hj
        apply huv
        obtain ⟨hu1, hu2⟩ := List.mem_filter.mp hu
        obtain ⟨hv1, hv2⟩ := List.mem_filter.mp hv
        refine ext_getD (hlen u hu1) (hlen v hv1) fun i hi => ?_
        have hm : mtS sg K u a = mtS sg K v a := by rw [hmt u hu1 hu2, hmt v hv1 hv2]
        have e1 := congrArg (fun l : List Int => l.getD i 0) hj
        have e2 := congrArg (fun l : List Int => l.getD i 0) hm
        simp only [jnS, mtS] at e1 e2
        rw [map_range_getD _ _ _ hi, map_range_getD _ _ _ hi] at e1 e2
        exact mj_inj e1 e2
      have hle : ((left.filter p).map fun u => jnS sg K u a).length ≤ (left.filter fun u => !p u).length := by
        refine nodup_le _ _ hinj fun x hx => ?_
        obtain ⟨u, hu, rfl⟩ := List.mem_map.mp hx
        obtain ⟨hu1, hu2⟩ := List.mem_filter.mp hu
        refine List.mem_filter.mpr ⟨(hcl u hu1).1, ?_⟩
        simp only [p, Bool.not_eq_true', decide_eq_false_iff_not]
        unfold jnS; rw [map_range_getD _ _ _ hi0]; split <;> omega
      rw [List.length_map] at hle
      have htot : (left.filter p).length + (left.filter fun u => !p u).length = left.length := by
        have := List.length_eq_countP_add_countP p (l := left)
        rw [List.countP_eq_length_filter, List.countP_eq_length_filter] at this
        simp only [Bool.not_eq_true] at this
        rw [this]
        congr 2
        apply List.filter_congr; intro u _; cases p u <;> rfl
      have hc := hcnt i0
      rw [colOf_len, colOf_countP, List.countP_eq_length_filter, ← hmv i0 hi0] at hc
      have : (left.filter fun h => decide (sg * h.getD i0 0 ≤ sg * b.getD i0 0)) = left.filter p := rfl
      rw [this] at hc
      omega
  refine ⟨hmem, ⟨I.nd.filter _, ?_, fun i x => P i x ∧ sg * (midOf pk K left).getD i 0 ≤ sg * x, fun u => ?_⟩, hlt, List.length_filter_le _ _⟩
  · exact (hK _).mpr ⟨I.top, fun i hi => htop _ (hsub _ hmem) i hi⟩
  · rw [hK, hP]
    exact ⟨fun ⟨⟨a, b⟩, c⟩ => ⟨a, fun i hi => ⟨b i hi, c i hi⟩⟩, fun ⟨a, b⟩ => ⟨⟨a, fun i hi => (b i hi).1⟩, fun i hi => (b i hi).2⟩⟩
theorem climb_end (S : WS f w N D W K) (F : FD f D) {top : List Int} {pk : List Int → Int} {sg : Int} (hp : PK pk sg) (htop : ∀ u ∈ W, ∀ i, i < K → sg * u.getD i 0 ≤ sg * top.getD i 0)
    (hmid : ∀ H : List (List Int), H ≠ [] → (∀ h ∈ H, h ∈ W) → midOf pk K H ∈ W) : ∀ (s : Nat) (left : List (List Int)), CI W K top left → left.length ≤ s + 1 → climbN pk sg K s left = [top]
  | 0, left, I, h => by
    have := I.top
    match left, h with
    | [a], _ => rw [List.mem_singleton] at this; rw [this]; rfl
    | [], _ => simp at this
  | s + 1, left, I, h => by
    obtain ⟨a, b, c, d⟩ := CI.step S F hp htop hmid I
    rw [climbN, if_pos (List.contains_iff_mem.mpr a)]
    refine climb_end S F hp htop hmid s _ b ?_
    rcases Nat.lt_or_ge left.length 2 with q | q
    · omega
    · have := c q; omega
end
end Qp
namespace Qp
open PySem PySem.Calls PyProof.Rows PySem.W
/-! the ways that _law_ways writes -/
structure SZ (S : List Int) (w e : Int) : Prop where
  len : S.length = 9
  bd : ∀ s ∈ S, 1 ≤ s ∧ s ≤ 3
  w4 : 4 ≤ w
  w7 : w ≤ 7
  ex : e = 0 ∨ (e = 2 ∧ S.getD 8 0 = 1)
noncomputable def topN (S : List Int) (e : Int) : Int := (S.length : Int) + e.fdiv 2
noncomputable def Dn (S : List Int) (w e : Int) (a : Int) : Prop := lf S a + e ≤ w
theorem nine {S : List Int} (h : S.length = 9) : ∃ a b c d e f g i j, S = [a, b, c, d, e, f, g, i, j] := by
  match S, h with
  | [a, b, c, d, e, f, g, i, j], _ => exact ⟨a, b, c, d, e, f, g, i, j, rfl⟩
theorem drop_le : ∀ (S : List Int), (∀ s ∈ S, 0 ≤ s) → ∀ n, (S.drop n).sum ≤ S.sum ∧ 0 ≤ (S.drop n).sum
  | [], _, n => by simp
  | a :: S, h, 0 => by
    have := (drop_le S (fun s hs => h s (List.mem_cons_of_mem _ hs)) 0).2
    have := h a List.mem_cons_self
    simp only [List.drop_zero] at *
    rw [List.sum_cons]; omega
  | a :: S, h, n + 1 => by
    have := drop_le S (fun s hs => h s (List.mem_cons_of_mem _ hs)) n
    have := h a List.mem_cons_self
    rw [List.drop_succ_cons, List.sum_cons]; omega
theorem SZ.fd {S : List Int} {w e : Int} (Z : SZ S w e) : FD (lf S) (Dn S w e) := by
  have hf : ∀ a b, a ≤ b → lf S b ≤ lf S a := fun a b h => by
    unfold lf
    have e2 : S.drop b.toNat = (S.drop a.toNat).drop (b.toNat - a.toNat) := by rw [List.drop_drop]; congr 1; omega
    rw [e2]
    exact (drop_le _ (fun s hs => by have := (Z.bd s (List.mem_of_mem_drop hs)).1; omega) _).1
  exact ⟨hf, fun a b h d => by unfold Dn at *; have := hf a b h; omega⟩
theorem SZ.top {S : List Int} {w e : Int} (Z : SZ S w e) : topN S e = 9 + (if e = 2 then 1 else 0) := by
  unfold topN
  rw [Z.len]
  rcases Z.ex with h | ⟨h, _⟩
  · subst h; rfl
  · subst h; rfl
/-- the rows of a level -/
structure Lv (S : List Int) (w e : Int) (m : Nat) (rows : List (List Int)) : Prop where
  nd : rows.Nodup
  mem : ∀ r, r ∈ rows ↔ ∃ l, r = 0 :: l ∧ l.length = m ∧ Ch (lf S) w (topN S e) 0 l
theorem lastP_cons (l : List Int) : lastP (0 :: l) = l.getLastD 0 := List.getLastD_cons
theorem Lv.zero (S : List Int) (w e : Int) : Lv S w e 0 [[0]] :=
  ⟨by simp, fun r => ⟨fun h => ⟨[], List.mem_singleton.mp h, rfl, trivial⟩, fun ⟨l, a, b, _⟩ => by rw [List.length_eq_zero_iff.mp b] at a; rw [a]; exact List.mem_cons_self⟩⟩
theorem mem_rangeI (a b x : Int) : x ∈ rangeI a b ↔ a ≤ x ∧ x < b := by
  unfold rangeI
  rw [List.mem_map]
  constructor
  · rintro ⟨j, hj, rfl⟩
    have := List.mem_range.mp hj; omega
  · rintro ⟨h1, h2⟩
    exact ⟨(x - a).toNat, List.mem_range.mpr (by omega), by omega⟩
theorem rangeI_nodup (a b : Int) : (rangeI a b).Nodup := by
  unfold rangeI
  exact List.pairwise_map.mpr (List.nodup_range.imp fun h q => h (by omega))
theorem mem_growOne (S : List Int) (w e : Int) (r r' : List Int) : r' ∈ growOne S w e r ↔ ∃ p, Rr (lf S) w (topN S e) (lastP r) p ∧ r' = r ++ [p] := by
  unfold growOne
  rw [List.mem_map]
  constructor
  · rintro ⟨p, hp, rfl⟩
    obtain ⟨h1, h2⟩ := List.mem_filter.mp hp
    obtain ⟨h3, h4⟩ := (mem_rangeI _ _ _).mp h1
    exact ⟨p, ⟨by omega, h4, by simpa using h2⟩, rfl⟩
  · rintro ⟨p, h, rfl⟩
    exact ⟨p, List.mem_filter.mpr ⟨(mem_rangeI _ _ _).mpr ⟨by have := h.lt; omega, h.top⟩, by simpa using h.fit⟩, rfl⟩
theorem Lv.succ {S : List Int} {w e : Int} {m : Nat} {rows : List (List Int)} (h : Lv S w e m rows) : Lv S w e (m + 1) (grow S w e rows) := by
  constructor
  · unfold grow
    refine List.pairwise_flatMap.mpr ⟨fun r _ => ?_, h.nd.imp ?_⟩
    · unfold growOne
      refine List.pairwise_map.mpr ((((rangeI_nodup _ _).filter _)).imp fun q z => q ?_)
      simpa using z
    · intro a b hab x hx y hy q
      obtain ⟨p, _, rfl⟩ := (mem_growOne ..).mp hx
      obtain ⟨p', _, rfl⟩ := (mem_growOne ..).mp hy
      exact hab (by have := (List.append_inj' q rfl).1; exact this)
  · intro r
    unfold grow
    rw [List.mem_flatMap]
    constructor
    · rintro ⟨r0, h0, h1⟩
      obtain ⟨p, hp, rfl⟩ := (mem_growOne ..).mp h1
      obtain ⟨l, rfl, hl, hc⟩ := (h.mem r0).mp h0
      rw [lastP_cons] at hp
      exact ⟨l ++ [p], rfl, by simp [hl], (ch_append _ _ _).mpr ⟨hc, hp, trivial⟩⟩
    · rintro ⟨l, rfl, hl, hc⟩
      have hne : l ≠ [] := by intro q; rw [q] at hl; simp at hl
      rw [← List.dropLast_concat_getLast hne] at hc ⊢
      obtain ⟨c1, c2⟩ := (ch_append _ _ _).mp hc
      exact ⟨0 :: l.dropLast, (h.mem _).mpr ⟨_, rfl, by simp [hl], c1⟩, (mem_growOne ..).mpr ⟨_, by rw [lastP_cons]; exact c2.1, rfl⟩⟩
noncomputable def up (a : Int) : Nat → List Int
  | 0 => []
  | n + 1 => a :: up (a + 1) n
noncomputable def subs : List Int → List (List Int)
  | [] => [[]]
  | a :: l => subs l ++ (subs l).map (a :: ·)
theorem up_len : ∀ (n : Nat) (a : Int), (up a n).length = n
  | 0, _ => rfl
  | n + 1, a => by rw [up, List.length_cons, up_len n]
theorem up_mem : ∀ (n : Nat) (a x : Int), a ≤ x → x < a + n → x ∈ up a n
  | 0, a, x, h, h2 => by omega
  | n + 1, a, x, h, h2 => by
    rw [up]
    by_cases q : x = a
    · rw [q]; exact List.mem_cons_self
    · exact List.mem_cons_of_mem _ (up_mem n (a + 1) x (by omega) (by omega))
theorem subs_len : ∀ l : List Int, (subs l).length = 2 ^ l.length
  | [] => rfl
  | a :: l => by rw [subs, List.length_append, List.length_map, subs_len l, List.length_cons, Nat.pow_succ]; omega
theorem subs_le : ∀ (l s : List Int), s ∈ subs l → s.length ≤ l.length
  | [], s, h => by rw [List.mem_singleton.mp h]; exact Nat.le_refl _
  | a :: l, s, h => by
    rcases List.mem_append.mp h with h | h
    · have := subs_le l s h; simp; omega
    · obtain ⟨t, ht, rfl⟩ := List.mem_map.mp h
      have := subs_le l t ht; simp; omega
theorem nil_subs : ∀ l : List Int, [] ∈ subs l
  | [] => List.mem_singleton.mpr rfl
  | a :: l => List.mem_append.mpr (.inl (nil_subs l))
noncomputable def Inc (N : Int) : Int → List Int → Prop
  | _, [] => True
  | a, b :: l => a < b ∧ b < N ∧ Inc N b l
theorem ch_inc {f : Int → Int} {w N : Int} : ∀ (l : List Int) (a : Int), Ch f w N a l → Inc N a l
  | [], _, _ => trivial
  | b :: l, _, h => ⟨h.1.lt, h.1.top, ch_inc l b h.2⟩
theorem inc_subs {N : Int} : ∀ (n : Nat) (a : Int) (l : List Int), Inc N a l → N ≤ a + 1 + n → l ∈ subs (up (a + 1) n)
  | n, a, [], _, _ => nil_subs _
  | 0, a, b :: l, h, hN => by obtain ⟨h1, h2, _⟩ := h; omega
  | n + 1, a, b :: l, h, hN => by
    obtain ⟨h1, h2, h3⟩ := h
    rw [up, subs]
    by_cases q : b = a + 1
    · subst q
      exact List.mem_append.mpr (.inr (List.mem_map.mpr ⟨l, inc_subs n _ l h3 (by omega), rfl⟩))
    · exact List.mem_append.mpr (.inl (inc_subs n (a + 1) (b :: l) ⟨by omega, h2, h3⟩ (by omega)))
theorem ch_last {f : Int → Int} {w N : Int} : ∀ (l : List Int) (a : Int), Ch f w N a l → a ≤ l.getLastD a ∧ (l.getLastD a = a ∨ l.getLastD a < N)
  | [], a, _ => ⟨Int.le_refl _, .inl rfl⟩
  | b :: l, a, h => by
    have := ch_last l b h.2
    rw [List.getLastD_cons]
    have := h.1.lt; have := h.1.top
    omega
theorem Lv.ok {S : List Int} {w e : Int} (Z : SZ S w e) {m : Nat} {rows : List (List Int)} (h : Lv S w e m rows) : rows.length ≤ 512 ∧ RowsOK S rows := by
  have hN : topN S e ≤ 10 := by rw [Z.top]; split <;> omega
  have hs : ∀ r ∈ rows, ∃ l, r = 0 :: l ∧ Ch (lf S) w (topN S e) 0 l ∧ l ∈ subs (up (0 + 1) 9) := fun r hr => by
    obtain ⟨l, a, _, c⟩ := (h.mem r).mp hr
    exact ⟨l, a, c, inc_subs 9 0 l (ch_inc l 0 c) (by omega)⟩
  have hl : rows.length ≤ 512 := by
    have := nodup_le rows ((subs (up (0 + 1) 9)).map (0 :: ·)) h.nd fun r hr => by
      obtain ⟨l, a, _, c⟩ := hs r hr
      exact List.mem_map.mpr ⟨l, c, a.symm⟩
    rw [List.length_map, subs_len, up_len] at this
    omega
  refine ⟨hl, by omega, fun r hr => ?_⟩
  obtain ⟨l, rfl, c, d⟩ := hs r hr
  have := subs_le _ _ d
  rw [up_len] at this
  have h2 := ch_last l 0 c
  rw [lastP_cons, Z.len]
  exact ⟨by simp, by simp; omega, h2.1, by omega⟩
theorem SZ.short {S : List Int} {w e : Int} (Z : SZ S w e) : ∃ l : List Int, l.length = 8 ∧ Ch (lf S) w (topN S e) 0 l ∧ Dn S w e (l.getLastD 0) := by
  have hN := Z.top
  have h4 := Z.w4
  have hx := Z.ex
  have hb := Z.bd
  obtain ⟨a, b, c, d, x, f, g, i, j, rfl⟩ := nine Z.len
  simp only [List.mem_cons, List.not_mem_nil, or_false, forall_eq_or_imp, forall_eq] at hb
  refine ⟨[1, 2, 3, 4, 5, 6, 7, 8], rfl, ?_, ?_⟩
  · have h9 : 9 ≤ topN [a, b, c, d, x, f, g, i, j] e := by rw [hN]; split <;> omega
    refine ⟨⟨by omega, by omega, ?_⟩, ⟨by omega, by omega, ?_⟩, ⟨by omega, by omega, ?_⟩, ⟨by omega, by omega, ?_⟩, ⟨by omega, by omega, ?_⟩, ⟨by omega, by omega, ?_⟩, ⟨by omega, by omega, ?_⟩, ⟨by omega, by omega, ?_⟩, trivial⟩
    all_goals
      simp [lf]
      omega
  · unfold Dn
    simp [lf]
    simp at hx
    omega
theorem SZ.notYet {S : List Int} {w e : Int} (Z : SZ S w e) : ¬ Dn S w e 0 := by
  have h7 := Z.w7
  have hx := Z.ex
  have hb := Z.bd
  obtain ⟨a, b, c, d, x, f, g, i, j, rfl⟩ := nine Z.len
  simp only [List.mem_cons, List.not_mem_nil, or_false, forall_eq_or_imp, forall_eq] at hb
  unfold Dn
  simp [lf]
  omega
theorem mem_done {S : List Int} {w e : Int} {m : Nat} {rows : List (List Int)} (h : Lv S w e m rows) (l : List Int) : l ∈ doneOf S w e rows ↔ (l.length = m ∧ Ch (lf S) w (topN S e) 0 l ∧ Dn S w e (l.getLastD 0)) := by
  unfold doneOf
  rw [List.mem_map]
  constructor
  · rintro ⟨r, hr, rfl⟩
    obtain ⟨h1, h2⟩ := List.mem_filter.mp hr
    obtain ⟨l, rfl, hl, hc⟩ := (h.mem r).mp h1
    rw [lastP_cons] at h2
    have h3 : lf S (l.getLastD 0) + e ≤ w := of_decide_eq_true h2
    exact ⟨hl, hc, h3⟩
  · rintro ⟨hl, hc, hd⟩
    exact ⟨0 :: l, List.mem_filter.mpr ⟨(h.mem _).mpr ⟨l, rfl, hl, hc⟩, by rw [lastP_cons]; exact decide_eq_true hd⟩, rfl⟩
theorem done_nodup {S : List Int} {w e : Int} {m : Nat} {rows : List (List Int)} (h : Lv S w e m rows) : (doneOf S w e rows).Nodup := by
  unfold doneOf
  refine List.pairwise_map.mpr (List.Pairwise.imp_of_mem ?_ (h.nd.filter _))
  intro a b ha hb hab q
  obtain ⟨l, rfl, _⟩ := (h.mem a).mp (List.mem_filter.mp ha).1
  obtain ⟨l', rfl, _⟩ := (h.mem b).mp (List.mem_filter.mp hb).1
  exact hab (by rw [show l = l' from q])
theorem ways_ws {S : List Int} {w e : Int} (Z : SZ S w e) : ∀ (n m : Nat) (rows : List (List Int)), Lv S w e m rows → n + m = 9 → (∀ l, Ch (lf S) w (topN S e) 0 l → Dn S w e (l.getLastD 0) → m ≤ l.length) → ∃ K, K ≤ 8 ∧ WS (lf S) w (topN S e) (Dn S w e) (waysN S w e n rows) K
  | 0, m, rows, _, hm, hmin => by
    obtain ⟨l, h1, h2, h3⟩ := Z.short
    have := hmin l h2 h3; omega
  | n + 1, m, rows, h, hm, hmin => by
    by_cases hd : doneOf S w e rows = []
    · rw [waysN, if_neg (by simp [hd])]
      refine ways_ws Z n (m + 1) _ h.succ (by omega) fun l c d => ?_
      have := hmin l c d
      rcases Nat.lt_or_ge m l.length with q | q
      · exact q
      · exfalso
        have := (mem_done h l).mpr ⟨by omega, c, d⟩
        rw [hd] at this; cases this
    · rw [waysN, if_pos (by simpa using hd)]
      refine ⟨m, by omega, mem_done h, done_nodup h, hd, hmin, ?_⟩
      rcases Nat.eq_zero_or_pos m with q | q
      · exfalso
        obtain ⟨l, hl⟩ := List.exists_mem_of_ne_nil _ hd
        obtain ⟨h1, _, h3⟩ := (mem_done h l).mp hl
        rw [q] at h1
        rw [List.length_eq_zero_iff.mp h1] at h3
        exact Z.notYet h3
      · exact q
theorem SZ.ws {S : List Int} {w e : Int} (Z : SZ S w e) : ∃ K, K ≤ 8 ∧ WS (lf S) w (topN S e) (Dn S w e) (waysN S w e S.length [[0]]) K := by
  rw [Z.len]
  exact ways_ws Z 9 0 _ (Lv.zero S w e) rfl fun _ _ _ => Nat.zero_le _
/-! few ways -/
noncomputable def boxL : List Int → List Int → List (List Int)
  | e :: es, g :: gs => (up e (g - e + 1).toNat).flatMap fun x => (boxL es gs).map (x :: ·)
  | _, _ => [[]]
noncomputable def Win : Int → List Int → List Int → Prop
  | lo, e :: es, g :: gs => lo ≤ e ∧ e ≤ g ∧ g ≤ 9 ∧ Win (g + 1) es gs
  | _, _, _ => True
noncomputable def T27 (i : Nat) : Nat := [1, 1, 2, 3, 4, 6, 9, 12, 18, 27].getD i 27
theorem t27 : ∀ n, n < 10 → ∀ m, m < 10 → ∀ k, k < 10 → n + m ≤ k → 1 ≤ n → n * T27 m ≤ T27 k := by decide +kernel
theorem box_mem : ∀ (u es gs : List Int), u.length = es.length → u.length = gs.length → (∀ i, i < u.length → es.getD i 0 ≤ u.getD i 0 ∧ u.getD i 0 ≤ gs.getD i 0) → u ∈ boxL es gs
  | [], [], [], _, _, _ => List.mem_singleton.mpr rfl
  | x :: u, e :: es, g :: gs, h1, h2, h => by
    have h0 := h 0 (by simp)
    simp only [List.getD_cons_zero] at h0
    rw [boxL, List.mem_flatMap]
    refine ⟨x, up_mem _ _ _ h0.1 (by omega), List.mem_map.mpr ⟨u, box_mem u es gs (by simpa using h1) (by simpa using h2) fun i hi => ?_, rfl⟩⟩
    exact h (i + 1) (by simpa using hi)
theorem flat_len {α β : Type} (g : α → List β) (c : Nat) : ∀ l : List α, (∀ a ∈ l, (g a).length = c) → (l.flatMap g).length = l.length * c
  | [], _ => by simp
  | a :: l, h => by
    rw [List.flatMap_cons, List.length_append, h a List.mem_cons_self, flat_len g c l fun b hb => h b (List.mem_cons_of_mem _ hb), List.length_cons, Nat.succ_mul]; omega
theorem box_len : ∀ (es gs : List Int) (lo : Int), 1 ≤ lo → lo ≤ 10 → Win lo es gs → (boxL es gs).length ≤ T27 (10 - lo).toNat
  | [], gs, lo, h1, h2, _ => by
    have : ∀ k, k < 10 → 1 ≤ T27 k := by decide +kernel
    rw [boxL.eq_2 _ _ (by intro _ _ _ _ q; cases q)]
    exact this _ (by omega)
  | e :: es, [], lo, h1, h2, _ => by
    have : ∀ k, k < 10 → 1 ≤ T27 k := by decide +kernel
    rw [boxL.eq_2 _ _ (by intro _ _ _ _ _ q; cases q)]
    exact this _ (by omega)
  | e :: es, g :: gs, lo, h1, h2, h => by
    obtain ⟨a, b, c, d⟩ := h
    have ih := box_len es gs (g + 1) (by omega) (by omega) d
    rw [boxL, flat_len _ (boxL es gs).length _ (fun _ _ => by rw [List.length_map]), up_len]
    refine Nat.le_trans (Nat.mul_le_mul_left _ ih) (t27 _ (by omega) _ (by omega) _ (by omega) (by omega) (by omega))
theorem win_of : ∀ (K : Nat) (e g : Nat → Int) (lo : Int), (∀ i, i < K → e i ≤ g i ∧ g i ≤ 9) → (∀ i, i + 1 < K → g i < e (i + 1)) → (0 < K → lo ≤ e 0) → Win lo ((List.range K).map e) ((List.range K).map g)
  | 0, e, g, lo, _, _, _ => trivial
  | K + 1, e, g, lo, h1, h2, h3 => by
    rw [List.range_succ_eq_map, List.map_cons, List.map_cons, List.map_map, List.map_map]
    refine ⟨h3 (by omega), (h1 0 (by omega)).1, (h1 0 (by omega)).2, win_of K (e ∘ Nat.succ) (g ∘ Nat.succ) _ (fun i hi => h1 (i + 1) (by omega)) (fun i hi => h2 (i + 1) (by omega)) fun hK => ?_⟩
    have : g 0 < e 1 := h2 0 (by omega)
    show g 0 + 1 ≤ e 1
    omega
theorem WS.few {f : Int → Int} {w N : Int} {D : Int → Prop} {W : List (List Int)} {K : Nat} (S : WS f w N D W K) (F : FD f D) (hN : N ≤ 10) : W.length ≤ 27 := by
  have hL := S.latest F
  have hE := S.earliest F
  have hrel : ∀ u ∈ W, ∀ i, i < K → (earliestOf W K).getD i 0 ≤ u.getD i 0 ∧ u.getD i 0 ≤ (latestOf W K).getD i 0 := by
    intro u hu i hi
    unfold earliestOf latestOf
    rw [map_range_getD _ _ _ hi, map_range_getD _ _ _ hi]
    have : u.getD i 0 ∈ colOf W i := List.mem_map.mpr ⟨u, hu, rfl⟩
    exact ⟨minL_le _ _ this, maxL_le _ _ this⟩
  have hpos : ∀ u ∈ W, ∀ i, i < K → 1 ≤ u.getD i 0 ∧ u.getD i 0 ≤ 9 := by
    intro u hu
    obtain ⟨l, c, _⟩ := (S.mem u).mp hu
    have hr := (ch_iff u 0).mp c
    intro i
    induction i with
    | zero => intro hi; have := hr 0 (by omega); have h1 := this.lt; have h2 := this.top; simp only [List.getD_cons_zero] at h1; omega
    | succ i ih =>
      intro hi
      have := hr (i + 1) (by omega)
      have h1 := this.lt; have h2 := this.top
      rw [List.getD_cons_succ] at h1
      have := ih (by omega)
      omega
  have hbox := nodup_le W (boxL (earliestOf W K) (latestOf W K)) S.nodup fun u hu => by
    refine box_mem u _ _ (by rw [S.len u hu, S.len _ hE]) (by rw [S.len u hu, S.len _ hL]) fun i hi => hrel u hu i (by rw [← S.len u hu]; exact hi)
  have hwin : Win 1 (earliestOf W K) (latestOf W K) := by
    have e1 : earliestOf W K = (List.range K).map fun i => (earliestOf W K).getD i 0 := ext_getD (S.len _ hE) (by simp) fun i hi => (map_range_getD (fun i => (earliestOf W K).getD i 0) K i hi).symm
    have e2 : latestOf W K = (List.range K).map fun i => (latestOf W K).getD i 0 := ext_getD (S.len _ hL) (by simp) fun i hi => (map_range_getD (fun i => (latestOf W K).getD i 0) K i hi).symm
    rw [e1, e2]
    refine win_of K _ _ 1 (fun i hi => ⟨(hrel _ hL i hi).1, (hpos _ hL i hi).2⟩) (fun i hi => S.apart F _ _ hE hL i hi) fun hK => (hpos _ hE 0 hK).1
  have := box_len _ _ 1 (by omega) (by omega) hwin
  have : T27 (10 - 1 : Int).toNat = 27 := by decide +kernel
  omega
end Qp
namespace Qp
open PySem PySem.Calls PyProof.Rows PySem.W
/-! signs of a line -/
noncomputable def tkOf (k : Nat) : Nat × Bool := (k, !bareK k)
noncomputable def TkG (p : Nat × Bool) : Prop := p.1 < 256 ∧ (p.2 = false → bareK p.1 = true)
theorem tkOf_ok {k : Nat} (h : k < 256) : TkG (tkOf k) := ⟨h, fun q => by simpa [tkOf] using q⟩
theorem hexC_ok : ∀ k, k < 16 → hexC k ≠ 61 ∧ 48 ≤ hexC k ∧ hexC k ≤ 70 := by decide +kernel
theorem bare_range {k : Nat} (h : bareK k = true) : k ≠ 61 ∧ (k = 9 ∨ (32 ≤ k ∧ k < 127)) := by
  unfold bareK at h
  simp only [Bool.or_eq_true, beq_iff_eq, Bool.and_eq_true, decide_eq_true_eq, bne_iff_ne] at h
  omega
theorem TkG.ok {p : Nat × Bool} (h : TkG p) : tokOK p := by
  unfold tokOK
  by_cases q : p.2 = true
  · rw [if_pos q]; exact h.1
  · rw [if_neg q]; exact (bare_range (h.2 (by simpa using q))).1
theorem tokT_len (p : Nat × Bool) : (tokT p).length = if p.2 then 3 else 1 := by unfold tokT; split <;> rfl
theorem toksT_cons (p : Nat × Bool) (l : List (Nat × Bool)) : toksT (p :: l) = tokT p ++ toksT l := rfl
theorem toksT_append (a b : List (Nat × Bool)) : toksT (a ++ b) = toksT a ++ toksT b := by simp [toksT]
theorem tokT_tkOf (k : Nat) : tokT (tkOf k) = codeL k := by
  unfold tokT tkOf codeL
  cases bareK k <;> rfl
/-- every character of a sign -/
theorem tokT_ch {p : Nat × Bool} (h : TkG p) : ∀ x ∈ tokT p, x = 9 ∨ (32 ≤ x ∧ x < 127) := by
  intro x hx
  unfold tokT at hx
  by_cases q : p.2 = true
  · rw [if_pos q] at hx
    have h1 := hexC_ok (p.1 / 16) (by have := h.1; omega)
    have h2 := hexC_ok (p.1 % 16) (by omega)
    simp only [List.mem_cons, List.not_mem_nil, or_false] at hx
    omega
  · rw [if_neg q] at hx
    have := bare_range (h.2 (by simpa using q))
    rw [List.mem_singleton.mp hx]; exact this.2
theorem toksT_ch {l : List (Nat × Bool)} (h : ∀ p ∈ l, TkG p) : ∀ x ∈ toksT l, x = 9 ∨ (32 ≤ x ∧ x < 127) := by
  intro x hx
  obtain ⟨p, hp, hx⟩ := List.mem_flatMap.mp hx
  exact tokT_ch (h p hp) x hx
theorem getD_app (pre l : List Nat) (i : Nat) : (pre ++ l).getD (pre.length + i) 0 = l.getD i 0 := by
  rw [List.getD_eq_getElem?_getD, List.getElem?_append_right (by omega), List.getD_eq_getElem?_getD]; congr 2; omega
theorem getD_app0 (pre l : List Nat) (i : Nat) (h : i < pre.length) : (pre ++ l).getD i 0 = pre.getD i 0 := by
  rw [List.getD_eq_getElem?_getD, List.getElem?_append_left h, List.getD_eq_getElem?_getD]
/-- no sign ends with = -/
theorem last_ne : ∀ (l : List (Nat × Bool)), (∀ p ∈ l, TkG p) → ∀ i, i + 1 = (toksT l).length ∨ i + 2 = (toksT l).length → (toksT l).getD i 0 ≠ 61
  | [], _, i, hi => by simp [toksT] at hi
  | p :: l, h, i, hi => by
    have ih := last_ne l fun q hq => h q (List.mem_cons_of_mem _ hq)
    have hp := h p List.mem_cons_self
    rw [toksT_cons] at hi ⊢
    rw [List.length_append] at hi
    rcases Nat.lt_or_ge i (tokT p).length with q | q
    · rw [getD_app0 _ _ _ q]
      have hl := tokT_len p
      unfold tokT at q hi hl ⊢
      by_cases e : p.2 = true
      · rw [if_pos e] at q hi hl ⊢
        have h1 := (hexC_ok (p.1 / 16) (by have := hp.1; omega)).1
        have h2 := (hexC_ok (p.1 % 16) (by omega)).1
        simp only [List.length_cons, List.length_nil] at q hi
        have : i = 1 ∨ i = 2 := by omega
        rcases this with rfl | rfl
        · exact h1
        · exact h2
      · rw [if_neg e] at q hi hl ⊢
        simp only [List.length_cons, List.length_nil] at q
        have : i = 0 := by omega
        subst this
        exact (bare_range (hp.2 (by simpa using e))).1
    · obtain ⟨j, rfl⟩ : ∃ j, i = (tokT p).length + j := ⟨i - (tokT p).length, by omega⟩
      rw [getD_app]
      exact ih j (by omega)
theorem chAt_mk (L : List Nat) (i : Int) : chAt (mkS L) i = L.getD i.toNat 0 := rfl
/-- one turn of the inner loop of body_encode -/
theorem be_turn (pre z : List Nat) (xs : List (Nat × Bool)) (p : Nat × Bool) (w : Int) (f : Nat) (hxs : ∀ q ∈ xs, TkG q) (hw : 4 ≤ w) (h1 : ((toksT xs).length : Int) ≤ w - 1) (h2 : w ≤ (toksT xs).length + (tokT p).length)
    (hc : (pre.length : Int) ≤ (pre ++ (toksT xs ++ (tokT p ++ z))).length - 1 - w) :
    beGo (mkS (pre ++ (toksT xs ++ (tokT p ++ z)))) w (f + 1) pre.length = (mkS (toksT xs ++ [61]) :: (beGo (mkS (pre ++ (toksT xs ++ (tokT p ++ z)))) w f (pre.length + (toksT xs).length : Nat)).1, (beGo (mkS (pre ++ (toksT xs ++ (tokT p ++ z)))) w f (pre.length + (toksT xs).length : Nat)).2) := by
  have hne := last_ne xs hxs
  have hpl := tokT_len p
  have hx : ∀ i, i < (toksT xs).length → (pre ++ (toksT xs ++ (tokT p ++ z))).getD (pre.length + i) 0 = (toksT xs).getD i 0 := fun i hi => by
    rw [getD_app, getD_app0 _ _ _ hi]
  have hcut : cutS (mkS (pre ++ (toksT xs ++ (tokT p ++ z)))) (some (pre.length : Int)) (some ((pre.length + (toksT xs).length : Nat) : Int)) = mkS (toksT xs) := by
    have := cut_mk pre (toksT xs) (tokT p ++ z) _ _ rfl rfl
    rwa [List.append_assoc] at this
  have hpe : p.2 = true → tokT p = [61, hexC (p.1 / 16), hexC (p.1 % 16)] := fun e => by unfold tokT; rw [if_pos e]
  have h61 : p.2 = true → (pre ++ (toksT xs ++ (tokT p ++ z))).getD (pre.length + (toksT xs).length) 0 = 61 := fun e => by
    rw [getD_app, hpe e]
    have := getD_app (toksT xs) ([61, hexC (p.1 / 16), hexC (p.1 % 16)] ++ z) 0
    rw [Nat.add_zero] at this
    rw [this]; rfl
  have hcut2 : p.2 = true → cutS (mkS (pre ++ (toksT xs ++ (tokT p ++ z)))) (some (pre.length : Int)) (some ((pre.length + (toksT xs ++ [61]).length : Nat) : Int)) = mkS (toksT xs ++ [61]) := fun e => by
    have := cut_mk pre (toksT xs ++ [61]) ([hexC (p.1 / 16), hexC (p.1 % 16)] ++ z) _ _ rfl rfl
    rw [hpe e]
    rwa [show pre ++ (toksT xs ++ ([61, hexC (p.1 / 16), hexC (p.1 % 16)] ++ z)) = pre ++ (toksT xs ++ [61]) ++ ([hexC (p.1 / 16), hexC (p.1 % 16)] ++ z) by simp]
  rw [beGo, if_pos (by rw [mkS_len]; exact hc)]
  generalize pre ++ (toksT xs ++ (tokT p ++ z)) = L at *
  generalize hX : toksT xs = x at *
  by_cases e : p.2 = true
  · rw [if_pos e] at hpl
    have hd : w - 1 - x.length = 0 ∨ w - 1 - x.length = 1 ∨ w - 1 - x.length = 2 := by omega
    rcases hd with hd | hd | hd
    · have a1 : ((pre.length : Int) + (w - 1) - 2).toNat = pre.length + (x.length - 2) := by omega
      have a2 : ((pre.length : Int) + (w - 1) - 1).toNat = pre.length + (x.length - 1) := by omega
      rw [if_neg (show ¬ (chAt (mkS L) ((pre.length : Int) + (w - 1) - 2) == 61) = true by rw [chAt_mk, a1, hx _ (by omega)]; simpa using hne (x.length - 2) (by omega)), if_neg (show ¬ (chAt (mkS L) ((pre.length : Int) + (w - 1) - 1) == 61) = true by rw [chAt_mk, a2, hx _ (by omega)]; simpa using hne (x.length - 1) (by omega))]
      rw [show (pre.length : Int) + (w - 1) = (pre.length + x.length : Nat) by omega, hcut, show eqS = mkS [61] from rfl, mkS_append]
    · have a1 : ((pre.length : Int) + (w - 1) - 2).toNat = pre.length + (x.length - 1) := by omega
      have a2 : ((pre.length : Int) + (w - 1) - 1).toNat = pre.length + x.length := by omega
      rw [if_neg (show ¬ (chAt (mkS L) ((pre.length : Int) + (w - 1) - 2) == 61) = true by rw [chAt_mk, a1, hx _ (by omega)]; simpa using hne (x.length - 1) (by omega)), if_pos (show (chAt (mkS L) ((pre.length : Int) + (w - 1) - 1) == 61) = true by rw [chAt_mk, a2, h61 e]; rfl)]
      rw [show (pre.length : Int) + (w - 1) - 1 = (pre.length + x.length : Nat) by omega, show (pre.length : Int) + (w - 1) = (pre.length + (x ++ [61]).length : Nat) by simp; omega, hcut2 e]
    · have a1 : ((pre.length : Int) + (w - 1) - 2).toNat = pre.length + x.length := by omega
      rw [if_pos (show (chAt (mkS L) ((pre.length : Int) + (w - 1) - 2) == 61) = true by rw [chAt_mk, a1, h61 e]; rfl)]
      rw [show (pre.length : Int) + (w - 1) - 2 = (pre.length + x.length : Nat) by omega, show (pre.length : Int) + (w - 1) - 1 = (pre.length + (x ++ [61]).length : Nat) by simp; omega, hcut2 e]
  · rw [if_neg e] at hpl
    have a1 : ((pre.length : Int) + (w - 1) - 2).toNat = pre.length + (x.length - 2) := by omega
    have a2 : ((pre.length : Int) + (w - 1) - 1).toNat = pre.length + (x.length - 1) := by omega
    rw [if_neg (show ¬ (chAt (mkS L) ((pre.length : Int) + (w - 1) - 2) == 61) = true by rw [chAt_mk, a1, hx _ (by omega)]; simpa using hne (x.length - 2) (by omega)), if_neg (show ¬ (chAt (mkS L) ((pre.length : Int) + (w - 1) - 1) == 61) = true by rw [chAt_mk, a2, hx _ (by omega)]; simpa using hne (x.length - 1) (by omega))]
    rw [show (pre.length : Int) + (w - 1) = (pre.length + x.length : Nat) by omega, hcut, show eqS = mkS [61] from rfl, mkS_append]
end Qp
namespace Qp
open PySem PySem.Calls PyProof.Rows PySem.W
/-! the rows of a letter, as signs -/
noncomputable abbrev Tk := Nat × Bool
noncomputable def patch (bl : Bool) (xs : List Tk) : List Tk := if bl = true ∧ xs ≠ [] then xs.dropLast ++ [((xs.getLastD (0, false)).1, true)] else xs
noncomputable def rowsT (bl : Bool) (ts : List Tk) : Nat → List Int → List (List Tk)
  | a, [] => [patch bl (ts.drop a)]
  | a, b :: l => (ts.take b.toNat).drop a :: rowsT bl ts b.toNat l
theorem rowsT_ne (bl : Bool) (ts : List Tk) : ∀ (l : List Int) (a : Nat), ∃ x r, rowsT bl ts a l = x :: r
  | [], a => ⟨_, _, rfl⟩
  | b :: l, a => ⟨_, _, rfl⟩
noncomputable def outT (el : List Nat) (rs : List (List Tk)) : List Nat := inter (61 :: el) (rs.map toksT)
theorem inter_cons (sep x : List Nat) {r : List (List Nat)} (h : r ≠ []) : inter sep (x :: r) = x ++ sep ++ inter sep r := by
  match r, h with
  | y :: r, _ => rfl
theorem inter_snoc (sep : List Nat) : ∀ r : List (List Nat), r ≠ [] → inter sep (r ++ [[]]) = inter sep r ++ sep
  | [x], _ => by simp [inter]
  | x :: y :: r, _ => by
    have ih := inter_snoc sep (y :: r) (by simp)
    rw [List.cons_append, inter_cons sep x (r := y :: r ++ [[]]) (by simp), ih, inter_cons sep x (r := y :: r) (by simp), List.append_assoc, List.append_assoc, List.append_assoc]
theorem inter_len (sep : List Nat) (B : Nat) : ∀ r : List (List Nat), (∀ x ∈ r, x.length ≤ B) → (inter sep r).length ≤ r.length * (B + sep.length)
  | [], _ => by simp [inter]
  | [x], h => by have := h x (by simp); simp [inter]; omega
  | x :: y :: r, h => by
    have ih := inter_len sep B (y :: r) fun z hz => h z (List.mem_cons_of_mem _ hz)
    have := h x (by simp)
    rw [inter_cons _ _ (by simp), List.length_append, List.length_append, List.length_cons (a := x), Nat.succ_mul]; omega
noncomputable def cutsR (codes : List Str) : Int → List Int → List (List Str)
  | a, [] => [pick codes (some a) (some (codes.length : Int)) none]
  | a, b :: l => pick codes (some a) (some b) none :: cutsR codes b l
theorem cuts_rec (codes : List Str) : ∀ (way : List Int) (a : Int), ((a :: way).zip (way ++ [(codes.length : Int)])).map (fun p => pick codes (some p.1) (some p.2) none) = cutsR codes a way
  | [], a => rfl
  | b :: l, a => by
    have := cuts_rec codes l b
    rw [List.cons_append, List.zip_cons_cons, List.map_cons, this]; rfl
noncomputable def onLast {α : Type} (g : List α → List α) : List (List α) → List (List α)
  | [] => [g []]
  | [x] => [g x]
  | x :: y :: r => x :: onLast g (y :: r)
theorem onLast_eq {α : Type} (g : List α → List α) : ∀ r : List (List α), r ≠ [] → onLast g r = r.dropLast ++ [g (r.getLastD [])]
  | [x], _ => rfl
  | x :: y :: r, _ => by
    have ih := onLast_eq g (y :: r) (by simp)
    rw [onLast, ih]; rfl
theorem onLast_cons {α : Type} (g : List α → List α) (x : List α) {r : List (List α)} (h : r ≠ []) : onLast g (x :: r) = x :: onLast g r := by
  match r, h with
  | y :: r, _ => rfl
theorem last_id {α : Type} : ∀ r : List (List α), r ≠ [] → r.dropLast ++ [r.getLastD []] = r
  | [x], _ => rfl
  | x :: y :: r, _ => by
    have ih := last_id (y :: r) (by simp)
    show x :: ((y :: r).dropLast ++ [(y :: r).getLastD []]) = _
    rw [ih]
theorem cutsR_ne (codes : List Str) : ∀ (way : List Int) (a : Int), cutsR codes a way ≠ []
  | [], _ => by simp [cutsR]
  | _ :: _, _ => by simp [cutsR]
theorem rowsOf_eq (codes : List Str) (way : List Int) (blank : Str) : rowsOf codes way blank = onLast (fun r => if blank != ⟨#[]⟩ && r != [] then r.dropLast ++ [blank] else r) (cutsR codes 0 way) := by
  have e : cuts codes way = cutsR codes 0 way := cuts_rec codes way 0
  unfold rowsOf lastCut
  rw [e, onLast_eq _ _ (cutsR_ne codes way 0)]
  split
  · rfl
  · exact (last_id _ (cutsR_ne codes way 0)).symm
/-- a way from a place on -/
noncomputable def Wy : Int → List Int → Prop
  | a, [] => a ≤ 9
  | a, b :: l => a ≤ b ∧ Wy b l
theorem Wy.le : ∀ (l : List Int) (a : Int), Wy a l → a ≤ 9
  | [], _, h => h
  | b :: l, _, h => Int.le_trans h.1 (Wy.le l b h.2)
theorem inc_wy {N : Int} (hN : N ≤ 10) : ∀ (l : List Int) (a : Int), a ≤ 9 → Inc N a l → Wy a l
  | [], _, h, _ => h
  | b :: l, a, _, h => ⟨by have := h.1; omega, inc_wy hN l b (by have := h.2.1; omega) h.2.2⟩
theorem pick_seg {α : Type} (l : List α) (a b : Nat) (h : a ≤ b) (hb : b ≤ l.length) : pick l (some (a : Int)) (some (b : Int)) none = (l.take b).drop a := by
  rw [pick_plain]
  simp only [Option.elim]
  have h1 := clipAt_cast l.length a
  have h2 := clipAt_cast l.length b
  rw [show clipAt l.length (a : Int) = a by omega, show clipAt l.length (b : Int) = b by omega, List.drop_take]
noncomputable def toksOf (ks : List Nat) : List Tk := ks.map tkOf
theorem toksOf_len (ks : List Nat) : (toksOf ks).length = ks.length := by simp [toksOf]
noncomputable def tokS (p : Tk) : Str := mkS (tokT p)
theorem codes_toks (ks : List Nat) : ks.map codeS = (toksOf ks).map tokS := by
  unfold toksOf; rw [List.map_map]
  refine List.map_congr_left fun k _ => ?_
  show codeS k = mkS (tokT (tkOf k))
  rw [tokT_tkOf, codeS_mk]
theorem map_dropLast' {α β : Type} (f : α → β) (l : List α) : (l.map f).dropLast = l.dropLast.map f := by rw [List.map_dropLast]
/-- the last one of what is left -/
theorem lastD_drop {α : Type} (d : α) : ∀ (l : List α) (a : Nat), l.drop a ≠ [] → (l.drop a).getLastD d = l.getLastD d
  | [], a, h => by simp at h
  | x :: l, 0, h => rfl
  | x :: l, a + 1, h => by
    rw [List.drop_succ_cons] at h ⊢
    rw [lastD_drop d l a h, List.getLastD_cons]
    have : l ≠ [] := by intro q; rw [q] at h; simp at h
    match l, this with
    | y :: r, _ => rw [List.getLastD_cons, List.getLastD_cons]
theorem lastD_map {α β : Type} (f : α → β) (d : α) : ∀ l : List α, (l.map f).getLastD (f d) = f (l.getLastD d)
  | [] => rfl
  | x :: l => by rw [List.map_cons, List.getLastD_cons, List.getLastD_cons, lastD_map f x l]
theorem rowsR_toks (ks : List Nat) (hl : ks.length = 9) : ∀ (way : List Int) (a : Nat), Wy a way → onLast (fun r => if blankS ks != ⟨#[]⟩ && r != [] then r.dropLast ++ [blankS ks] else r) (cutsR (ks.map codeS) a way) = (rowsT (blankK (lastN ks)) (toksOf ks) a way).map fun r => r.map tokS
  | [], a, h => by
    have h9 : (a : Int) ≤ 9 := h
    rw [cutsR, onLast, rowsT, List.map_singleton]
    congr 1
    rw [pick_seg _ a _ (by simp; omega) (Nat.le_refl _), List.take_length, codes_toks, ← List.map_drop]
    generalize hts : (toksOf ks).drop a = ts
    have hbl : (blankS ks != (⟨#[]⟩ : Str)) = blankK (lastN ks) := by
      unfold blankS
      by_cases q : blankK (lastN ks) = true
      · rw [if_pos q, q]; rfl
      · rw [if_neg q]; simp at q; rw [q]; rfl
    rw [hbl]
    unfold patch
    by_cases q : blankK (lastN ks) = true
    · by_cases z : ts = []
      · subst z; simp
      · rw [if_pos (by simp [q, z]), if_pos ⟨q, z⟩, List.map_append, List.map_dropLast, List.map_singleton]
        congr 2
        unfold blankS
        rw [if_pos q]
        have : (ts.getLastD (0, false)).1 = lastN ks := by
          rw [← hts] at z ⊢
          rw [lastD_drop _ _ _ z]
          have hk : ks ≠ [] := by intro q; rw [q] at hl; simp at hl
          unfold toksOf lastN
          match ks, hk with
          | k :: ks, _ =>
            rw [List.map_cons, List.getLastD_cons, lastD_map, List.getLastD_cons]; rfl
        rw [this]; rfl
    · rw [if_neg (by simp [q]), if_neg (by simp [q])]
  | b :: l, a, h => by
    obtain ⟨h1, h2⟩ := h
    have h9 := Wy.le l b h2
    obtain ⟨m, rfl⟩ : ∃ m : Nat, b = (m : Int) := ⟨b.toNat, by omega⟩
    rw [cutsR, onLast_cons _ _ (cutsR_ne _ _ _), rowsR_toks ks hl l m h2, rowsT, List.map_cons, Int.toNat_natCast]
    congr 1
    rw [pick_seg _ a m (by omega) (by simp; omega), codes_toks, List.map_drop, List.map_take]
theorem row_text (r : List Tk) : Txt.join ⟨#[]⟩ (r.map tokS) = mkS (toksT r) := by
  have : r.map tokS = (r.map tokT).map mkS := by rw [List.map_map]; rfl
  rw [this, show (⟨#[]⟩ : Str) = mkS [] from rfl, txt_join, inter_nil, ← List.flatMap_def]; rfl
theorem letter_text (ks el : List Nat) (hl : ks.length = 9) (way : List Int) (h : Wy 0 way) : letter (ks.map codeS) way (blankS ks) (mkS el) = mkS (outT el (rowsT (blankK (lastN ks)) (toksOf ks) 0 way)) := by
  unfold letter
  rw [rowsOf_eq, show (0 : Int) = ((0 : Nat) : Int) from rfl, rowsR_toks ks hl way 0 h, List.map_map]
  have e : ((fun r => Txt.join ⟨#[]⟩ r) ∘ fun r => List.map tokS r) = mkS ∘ toksT := by funext r; exact row_text r
  rw [e, ← List.map_map, show (⟨#[61]⟩ : Str) = mkS [61] from rfl, mkS_append, txt_join]; rfl
theorem patch_ok (bl : Bool) {xs : List Tk} (h : ∀ p ∈ xs, TkG p) : ∀ p ∈ patch bl xs, TkG p := by
  unfold patch
  split
  · rename_i q
    intro p hp
    rcases List.mem_append.mp hp with hp | hp
    · exact h p (List.dropLast_subset _ hp)
    · rw [List.mem_singleton.mp hp]
      obtain ⟨_, z⟩ := q
      have : xs.getLastD (0, false) ∈ xs := by
        match xs, z with
        | x :: xs, _ => rw [List.getLastD_cons]; exact List.getLastD_mem_cons
      exact ⟨(h _ this).1, fun q => by cases q⟩
  · exact h
theorem patch_len (bl : Bool) (xs : List Tk) : (patch bl xs).length = xs.length := by
  unfold patch
  split
  · rename_i q
    have := List.length_pos_iff.mpr q.2
    simp; omega
  · rfl
theorem rowsT_ok (bl : Bool) {ts : List Tk} (h : ∀ p ∈ ts, TkG p) : ∀ (l : List Int) (a : Nat), ∀ r ∈ rowsT bl ts a l, r.length ≤ ts.length ∧ ∀ p ∈ r, TkG p
  | [], a, r, hr => by
    rw [List.mem_singleton.mp hr]
    exact ⟨by rw [patch_len]; simp, patch_ok bl fun p hp => h p (List.mem_of_mem_drop hp)⟩
  | b :: l, a, r, hr => by
    rcases List.mem_cons.mp hr with rfl | hr
    · exact ⟨by simp; omega, fun p hp => h p (List.mem_of_mem_take (List.mem_of_mem_drop hp))⟩
    · exact rowsT_ok bl h l _ r hr
theorem rowsT_len (bl : Bool) (ts : List Tk) : ∀ (l : List Int) (a : Nat), (rowsT bl ts a l).length = l.length + 1
  | [], _ => rfl
  | b :: l, a => by rw [rowsT, List.length_cons, rowsT_len bl ts l, List.length_cons]
theorem toksT_le : ∀ r : List Tk, (toksT r).length ≤ 3 * r.length
  | [] => by simp [toksT]
  | p :: r => by
    have := toksT_le r
    have h := tokT_len p
    rw [toksT_cons, List.length_append, List.length_cons, h]; split <;> omega
theorem toksOf_ok {ks : List Nat} (h : OctOK ks) : ∀ p ∈ toksOf ks, TkG p := fun p hp => by
  obtain ⟨k, hk, rfl⟩ := List.mem_map.mp hp
  exact tkOf_ok (h.ok k hk).1
section
variable {c : Cx} {n : Nat}
theorem letter_run (T : Tops c) (ks el : List Nat) (hks : OctOK ks) (hel : el.length ≤ 2) (way : List Int) (h : Wy 0 way) (hw : way.length ≤ 8) :
    Exs c (n + 8) (fS 28) (fun x => (fS 28).names.lookup x = some .cell) none (upds (fun _ => none) ["codes", "way", "blank", "eol"] [strsOf ks codeS, intsD way, .str (blankS ks), .str (mkS el)]) [] (fB 28) (.ret (.str (mkS (outT el (rowsT (blankK (lastN ks)) (toksOf ks) 0 way))))) := by
  have hl := hks.len
  have hrt := rowsR_toks ks hl way 0 h
  have hro : rowsOf (ks.map codeS) way (blankS ks) = (rowsT (blankK (lastN ks)) (toksOf ks) 0 way).map fun r => r.map tokS := by
    rw [rowsOf_eq]; exact hrt
  have hok := rowsT_ok (blankK (lastN ks)) (toksOf_ok hks) way 0
  rw [toksOf_len, hl] at hok
  have hrl := rowsT_len (blankK (lastN ks)) (toksOf ks) way 0
  rw [← letter_text ks el hl way h]
  refine x_letter T (ks.map codeS) way (blankS ks) (mkS el) (by simp; omega) (by omega) ?_ (by rw [mkS_len]; omega) ?_ ?_
  · intro x hx
    have : x ∈ ks.map codeS := by
      unfold lastCut at hx
      have hc : cuts (ks.map codeS) way = cutsR (ks.map codeS) 0 way := cuts_rec _ way 0
      rw [hc] at hx
      have : ∀ (way : List Int) (a : Int), ∀ r ∈ cutsR (ks.map codeS) a way, ∀ x ∈ r, x ∈ ks.map codeS := by
        have hp : ∀ a b, ∀ x ∈ pick (ks.map codeS) (some a) (some b) none, x ∈ ks.map codeS := fun a b x hx => by
          rw [pick_plain] at hx
          exact List.mem_of_mem_drop (List.mem_of_mem_take hx)
        intro way
        induction way with
        | nil => intro a r hr x hx; rw [List.mem_singleton.mp hr] at hx; exact hp _ _ x hx
        | cons b l ih =>
          intro a r hr x hx
          rcases List.mem_cons.mp hr with rfl | hr
          · exact hp _ _ x hx
          · exact ih b r hr x hx
      have hm : (cutsR (ks.map codeS) 0 way).getLastD [] ∈ cutsR (ks.map codeS) 0 way := by
        have hne := cutsR_ne (ks.map codeS) way 0
        generalize cutsR (ks.map codeS) 0 way = R at *
        match R, hne with
        | y :: r, _ => rw [List.getLastD_cons]; exact List.getLastD_mem_cons
      exact this way 0 _ hm x hx
    obtain ⟨k, hk, rfl⟩ := List.mem_map.mp this
    exact codeS_ok k (hks.ok k hk).1
  · rw [hro]
    intro r hr
    obtain ⟨t, ht, rfl⟩ := List.mem_map.mp hr
    refine joinOk 3 ?_ ?_
    · intro y hy
      obtain ⟨p, hp, rfl⟩ := List.mem_map.mp hy
      show (mkS (tokT p)).length ≤ 3
      rw [mkS_len, tokT_len]; split <;> omega
    · have := (hok t ht).1
      show (t.map tokS).length * 3 + (t.map tokS).length * 0 ≤ _
      rw [List.length_map]; omega
  · rw [hro]
    refine joinOk 27 ?_ ?_
    · intro y hy
      rw [List.map_map] at hy
      obtain ⟨t, ht, rfl⟩ := List.mem_map.mp hy
      show (Txt.join ⟨#[]⟩ (t.map tokS)).length ≤ 27
      rw [row_text, mkS_len]
      have := toksT_le t
      have := (hok t ht).1
      omega
    · rw [List.length_map, List.length_map, hrl, show (⟨#[61]⟩ : Str) ++ mkS el = mkS (61 :: el) from mkS_append [61] el, mkS_len, List.length_cons]
      have := Nat.mul_le_mul (show way.length + 1 ≤ 9 by omega) (show el.length + 1 ≤ 3 by omega)
      omega
end
end Qp
namespace Qp
open PySem PySem.Calls PyProof.Rows PySem.W
/-! the greedy way -/
inductive Gr (f : Int → Int) (w N : Int) (D : Int → Prop) : Int → List Int → Prop
  | stop (a : Int) : D a → Gr f w N D a []
  | step (a b : Int) (l : List Int) : ¬ D a → Rr f w N a b → (∀ b', Rr f w N a b' → b' ≤ b) → Gr f w N D b l → Gr f w N D a (b :: l)
section
variable {f : Int → Int} {w N : Int} {D : Int → Prop}
theorem Gr.ch {a : Int} {l : List Int} (g : Gr f w N D a l) : Ch f w N a l ∧ D (l.getLastD a) := by
  induction g with
  | stop a d => exact ⟨trivial, d⟩
  | step a b l _ r _ _ ih => exact ⟨⟨r, ih.1⟩, by rw [List.getLastD_cons]; exact ih.2⟩
theorem Gr.best (F : FD f D) {a : Int} {l : List Int} (g : Gr f w N D a l) : ∀ (u : List Int) (a' : Int), a' ≤ a → Ch f w N a' u → D (u.getLastD a') → l.length ≤ u.length ∧ ∀ i, i < l.length → u.getD i 0 ≤ l.getD i 0 := by
  induction g with
  | stop a d => intro u a' _ _ _; exact ⟨Nat.zero_le _, fun i hi => by simp at hi⟩
  | step a b l nd r mx _ ih =>
    intro u a' h c d
    match u, c, d with
    | [], _, d => exact absurd (F.stay _ _ h d) nd
    | z :: u, c, d =>
      have hz : z ≤ b := by
        rcases Int.lt_or_le a z with q | q
        · exact mx z (c.1.cross F c.1 h (Int.le_refl _) q)
        · have := r.lt; omega
      rw [List.getLastD_cons] at d
      obtain ⟨h1, h2⟩ := ih u z hz c.2 d
      refine ⟨by simp; omega, fun i hi => ?_⟩
      cases i with
      | zero => exact hz
      | succ i => exact h2 i (by simpa using hi)
theorem Gr.latest {W : List (List Int)} {K : Nat} (S : WS f w N D W K) (F : FD f D) {l : List Int} (g : Gr f w N D 0 l) : latestOf W K = l := by
  have hL := S.latest F
  obtain ⟨c, d⟩ := g.ch
  have hb := fun u (hu : u ∈ W) => g.best F u 0 (Int.le_refl _) ((S.mem u).mp hu).2.1 ((S.mem u).mp hu).2.2
  have hle := (hb _ hL).1
  rw [S.len _ hL] at hle
  have hge := S.min l c d
  have hlen : l.length = K := by omega
  have hmem : l ∈ W := (S.mem l).mpr ⟨hlen, c, d⟩
  refine ext_getD (S.len _ hL) hlen fun i hi => ?_
  have h1 := (hb _ hL).2 i (by omega)
  have h2 : l.getD i 0 ≤ (latestOf W K).getD i 0 := by
    unfold latestOf
    rw [map_range_getD _ _ _ hi]
    exact maxL_le _ _ (List.mem_map.mpr ⟨l, hmem, rfl⟩)
  omega
end
/-! what body_encode writes -/
theorem beGo_stop (line : Str) (w : Int) : ∀ (n : Nat) (st : Int), ¬ st ≤ line.length - 1 - w → beGo line w n st = ([], st)
  | 0, _, _ => rfl
  | n + 1, st, h => by rw [beGo, if_neg h]
theorem sizes_toks (ks : List Nat) : sizesOf ks = (toksOf ks).map fun p => ((tokT p).length : Int) := by
  unfold sizesOf toksOf
  rw [List.map_map]
  refine List.map_congr_left fun k _ => ?_
  show ((codeS k).length : Int) = ((tokT (tkOf k)).length : Int)
  rw [tokT_tkOf, codeS_mk, mkS_len]
theorem sum_toks : ∀ r : List Tk, (r.map fun p => ((tokT p).length : Int)).sum = (toksT r).length
  | [] => rfl
  | p :: r => by rw [List.map_cons, List.sum_cons, sum_toks r, toksT_cons, List.length_append]; omega
theorem lf_toks (ks : List Nat) (a : Nat) : lf (sizesOf ks) a = (toksT ((toksOf ks).drop a)).length := by
  unfold lf
  rw [sizes_toks, Int.toNat_natCast, ← List.map_drop, sum_toks]
theorem SZ.of {ks : List Nat} (h : OctOK ks) {w : Int} (h4 : 4 ≤ w) (h7 : w ≤ 7) : SZ (sizesOf ks) w (extraOf ks) where
  len := by unfold sizesOf; rw [List.length_map, h.len]
  bd := fun s hs => by
    rw [sizes_toks] at hs
    obtain ⟨p, _, rfl⟩ := List.mem_map.mp hs
    rw [tokT_len]; split <;> omega
  w4 := h4
  w7 := h7
  ex := by
    unfold extraOf
    by_cases q : blankK (lastN ks) = true
    · rw [if_pos q]
      refine .inr ⟨rfl, ?_⟩
      have hl := h.len
      obtain ⟨a, b, c, d, e, f, g, i, j, rfl⟩ : ∃ a b c d e f g i j, ks = [a, b, c, d, e, f, g, i, j] := by
        match ks, hl with
        | [a, b, c, d, e, f, g, i, j], _ => exact ⟨a, b, c, d, e, f, g, i, j, rfl⟩
      show ((codeS j).length : Int) = 1
      have hj : blankK j = true := q
      unfold blankK at hj
      simp only [Bool.or_eq_true, beq_iff_eq] at hj
      rcases hj with rfl | rfl <;> rfl
    · rw [if_neg q]; exact .inl rfl
theorem cut_end (pre z : List Nat) : cutS (mkS (pre ++ z)) (some (pre.length : Int)) none = mkS z := by
  unfold cutS
  rw [pick_plain, mkS_list]
  have h1 : clipAt (pre ++ z).length (pre.length : Int) = pre.length := by have := clipAt_cast (pre ++ z).length (pre.length : Int); simp only [List.length_append] at *; omega
  simp only [Option.elim, h1]
  rw [List.drop_left, List.take_of_length_le (by simp)]; rfl
theorem cut_last (pre z : List Nat) (k : Nat) : cutS (mkS (pre ++ (z ++ [k]))) (some (pre.length : Int)) (some (-1)) = mkS z := by
  unfold cutS
  rw [pick_plain, mkS_list]
  have h1 : clipAt (pre ++ (z ++ [k])).length (pre.length : Int) = pre.length := by have := clipAt_cast (pre ++ (z ++ [k])).length (pre.length : Int); simp only [List.length_append] at *; omega
  have h2 : clipAt (pre ++ (z ++ [k])).length (-1) = pre.length + z.length := by
    unfold clipAt
    simp only [List.length_append, List.length_singleton]
    split <;> omega
  simp only [Option.elim, h1, h2]
  rw [List.drop_left, Nat.add_sub_cancel_left, List.take_left]; rfl
/-- where the next row begins -/
theorem crossing (f : Int → Int) (w : Int) (a : Nat) : ∀ (n : Nat), f a - f ((a + 1 : Nat) : Int) < w → w ≤ f a - f ((a + 1 + n : Nat) : Int) → ∃ b : Nat, a < b ∧ b < a + 1 + n ∧ f a - f b < w ∧ w ≤ f a - f ((b + 1 : Nat) : Int)
  | 0, h1, h2 => by rw [Nat.add_zero] at h2; omega
  | n + 1, h1, h2 => by
    by_cases q : w ≤ f a - f ((a + 1 + n : Nat) : Int)
    · obtain ⟨b, x, y, z⟩ := crossing f w a n h1 q
      exact ⟨b, x, by omega, z⟩
    · exact ⟨a + 1 + n, by omega, by omega, by omega, by rw [show a + 1 + n + 1 = a + 1 + (n + 1) by omega]; exact h2⟩
theorem toks_split (ts : List Tk) (a b : Nat) (h : a ≤ b) : ts.drop a = (ts.take b).drop a ++ ts.drop b := by
  conv => lhs; rw [← List.take_append_drop b ts]
  by_cases q : b ≤ ts.length
  · rw [List.drop_append_of_le_length (by simp; omega)]
  · rw [List.drop_of_length_le (l := ts) (by omega : ts.length ≤ b), List.append_nil, List.append_nil]
structure EncOK (ks el : List Nat) (w : Int) (n a : Nat) (l : List Int) : Prop where
  gr : Gr (lf (sizesOf ks)) w (topN (sizesOf ks) (extraOf ks)) (Dn (sizesOf ks) w (extraOf ks)) a l
  fin : ((toksT (toksOf ks)).length : Int) - 1 - w < (beGo (mkS (toksT (toksOf ks))) w n (toksT ((toksOf ks).take a)).length).2
  rows : ∃ rows : List (List Nat), (beGo (mkS (toksT (toksOf ks))) w n (toksT ((toksOf ks).take a)).length).1 ++ [beLast (mkS (toksT (toksOf ks))) (mkS el) w (beGo (mkS (toksT (toksOf ks))) w n (toksT ((toksOf ks).take a)).length).2] = rows.map mkS ∧ rows.length ≤ n + 1 ∧ (∀ r ∈ rows, r.length ≤ 100) ∧ rows ≠ [] ∧
    inter el rows = outT el (rowsT (blankK (lastN ks)) (toksOf ks) a l)
theorem lastD_app {α : Type} (d : α) (y : List α) (h : y ≠ []) : ∀ x : List α, (x ++ y).getLastD d = y.getLastD d
  | [] => rfl
  | a :: x => by
    rw [List.cons_append, List.getLastD_cons, lastD_app a y h x]
    match y, h with
    | b :: y, _ => rw [List.getLastD_cons, List.getLastD_cons]
theorem toks_last {ks : List Nat} (h : ks.length = 9) : (toksOf ks).drop 8 = [tkOf (lastN ks)] ∧ (toksOf ks).drop 9 = [] := by
  match ks, h with
  | [a, b, c, d, e, f, g, i, j], _ => exact ⟨rfl, rfl⟩
theorem lastK_line {ks : List Nat} (h : OctOK ks) : blankK (lastK (mkS (toksT (toksOf ks)))) = blankK (lastN ks) ∧ (blankK (lastN ks) = true → lastK (mkS (toksT (toksOf ks))) = lastN ks) ∧ lastK (mkS (toksT (toksOf ks))) < 256 ∧ lastK (mkS (toksT (toksOf ks))) ≠ 10 ∧ lastK (mkS (toksT (toksOf ks))) ≠ 13 := by
  have e : lastK (mkS (toksT (toksOf ks))) = (tokT (tkOf (lastN ks))).getLastD 0 := by
    unfold lastK
    rw [mkS_list]
    conv => lhs; rw [← List.take_append_drop 8 (toksOf ks), (toks_last h.len).1, toksT_append]
    have hne : toksT [tkOf (lastN ks)] ≠ [] := by
      intro q
      have := congrArg List.length q
      rw [toksT_cons, List.length_append, tokT_len] at this
      simp only [List.length_nil] at this
      split at this <;> omega
    rw [lastD_app _ _ hne]
    show (tokT _ ++ []).getLastD 0 = _
    rw [List.append_nil]
  have hk : lastN ks < 256 := by
    have hl := h.len
    match ks, hl with
    | [a, b, c, d, e, f, g, i, j], _ => exact (h.ok j (by simp)).1
  rw [e]
  unfold tokT tkOf
  by_cases q : bareK (lastN ks) = true
  · rw [q]
    have := bare_range q
    simp only [Bool.not_true, Bool.false_eq_true, if_false]
    show blankK (lastN ks) = _ ∧ (_ → lastN ks = _) ∧ lastN ks < 256 ∧ lastN ks ≠ 10 ∧ lastN ks ≠ 13
    exact ⟨rfl, fun _ => rfl, hk, by omega, by omega⟩
  · have hb : blankK (lastN ks) = false := by
      simp only [Bool.not_eq_true] at q
      rw [Bool.eq_false_iff]
      intro z
      unfold blankK at z
      simp only [Bool.or_eq_true, beq_iff_eq] at z
      rcases z with z | z <;> (rw [z] at q; exact absurd q (by decide +kernel))
    have h2 := hexC_ok (lastN ks % 16) (by omega)
    simp only [Bool.not_eq_true] at q
    rw [q, hb]
    simp only [Bool.not_false, if_true]
    show blankK (hexC (lastN ks % 16)) = false ∧ (_ → hexC (lastN ks % 16) = _) ∧ hexC (lastN ks % 16) < 256 ∧ hexC (lastN ks % 16) ≠ 10 ∧ hexC (lastN ks % 16) ≠ 13
    refine ⟨?_, fun q => (by cases q), by omega, by omega, by omega⟩
    unfold blankK
    rw [Bool.or_eq_false_iff, beq_eq_false_iff_ne, beq_eq_false_iff_ne]; omega
theorem line_ne {ks : List Nat} (h : OctOK ks) : 9 ≤ (toksT (toksOf ks)).length ∧ (toksT (toksOf ks)).length ≤ 27 := by
  have h1 := toksT_le (toksOf ks)
  have hl := h.len
  rw [toksOf_len, hl] at h1
  refine ⟨?_, h1⟩
  have : ∀ r : List Tk, r.length ≤ (toksT r).length := by
    intro r
    induction r with
    | nil => simp
    | cons p r ih =>
      rw [toksT_cons, List.length_append, tokT_len, List.length_cons]
      split <;> omega
  have := this (toksOf ks)
  rw [toksOf_len, hl] at this
  exact this
theorem enc_stop {ks el : List Nat} (h : OctOK ks) (hel : el.length ≤ 2) {w : Int} (h4 : 4 ≤ w) (h7 : w ≤ 7) (n a : Nat) (ha : a ≤ 8) (hs : lf (sizesOf ks) a ≤ w) : ∃ l, EncOK ks el w n a l := by
  have Z := SZ.of h h4 h7
  have hN := Z.top
  obtain ⟨k1, k2, k3, _, _⟩ := lastK_line h
  obtain ⟨n1, n2⟩ := line_ne h
  obtain ⟨d8, d9⟩ := toks_last h.len
  have hla := lf_toks ks a
  have hl9 := lf_toks ks 9
  have hl8 := lf_toks ks 8
  have hL : toksT (toksOf ks) = toksT ((toksOf ks).take a) ++ toksT ((toksOf ks).drop a) := by rw [← toksT_append, List.take_append_drop]
  have hlen := congrArg List.length hL
  rw [List.length_append] at hlen
  have hgo := beGo_stop (mkS (toksT (toksOf ks))) w n (toksT ((toksOf ks).take a)).length (by rw [mkS_len]; omega)
  have hsp : (toksOf ks).drop a = ((toksOf ks).take 8).drop a ++ [tkOf (lastN ks)] := by rw [toks_split _ a 8 ha, d8]
  have hfin : ((toksT (toksOf ks)).length : Int) - 1 - w < (beGo (mkS (toksT (toksOf ks))) w n (toksT ((toksOf ks).take a)).length).2 := by
    rw [hgo]
    show _ < ((toksT ((toksOf ks).take a)).length : Int)
    omega
  by_cases hb : blankK (lastN ks) = true
  · have hx : extraOf ks = 2 := by unfold extraOf; rw [if_pos hb]
    rw [hx] at hN Z
    rw [if_pos rfl] at hN
    have htk : tkOf (lastN ks) = (lastN ks, false) := by
      have : bareK (lastN ks) = true := by
        unfold blankK at hb
        simp only [Bool.or_eq_true, beq_iff_eq] at hb
        rcases hb with q | q <;> rw [q] <;> rfl
      unfold tkOf; rw [this]; rfl
    rw [htk] at hsp d8
    rw [hb] at k1
    have hk := k2 hb
    generalize hys : ((toksOf ks).take 8).drop a = ys at *
    have hya : toksT ((toksOf ks).drop a) = toksT ys ++ [lastN ks] := by rw [hsp, toksT_append]; rfl
    have hyl := congrArg List.length hya
    rw [List.length_append, List.length_singleton] at hyl
    have hcut : cutS (mkS (toksT (toksOf ks))) (some ((toksT ((toksOf ks).take a)).length : Int)) (some (-1)) = mkS (toksT ys) := by
      rw [hL, hya]; exact cut_last _ _ _
    have h9z : lf (sizesOf ks) (9 : Int) = 0 := by
      have := hl9; rw [d9] at this; exact this
    have h8z : lf (sizesOf ks) (8 : Int) = 1 := by
      have := hl8; rw [d8] at this; exact this
    have hlast : beLast (mkS (toksT (toksOf ks))) (mkS el) w (toksT ((toksOf ks).take a)).length = mkS (toksT ys) ++ (if 3 ≤ w - (toksT ys).length then escS (lastN ks) else if w - (toksT ys).length == 2 then chS (lastN ks) ++ (eqS ++ mkS el) else (eqS ++ mkS el) ++ escS (lastN ks)) := by
      unfold beLast
      rw [if_pos (by rw [mkS_len, k1, Bool.and_true, bne_iff_ne]; omega), hcut, hk, mkS_len]
      rw [show ((toksT ((toksOf ks).take a)).length : Int) - (((toksT (toksOf ks)).length : Int) - 1 - w) = w - (toksT ys).length by omega]
    have hpt : patch true (ys ++ [(lastN ks, false)]) = ys ++ [(lastN ks, true)] := by
      unfold patch
      rw [if_pos ⟨rfl, by simp⟩, List.dropLast_concat, lastD_app _ _ (by simp)]; rfl
    by_cases r3 : 3 ≤ w - (toksT ys).length
    · refine ⟨[], .stop _ ?_, hfin, [toksT (ys ++ [(lastN ks, true)])], ?_, by simp, ?_, by simp, ?_⟩
      · unfold Dn; rw [hx]; omega
      · rw [hgo, hlast, if_pos r3, escS_mk, mkS_append, toksT_append]; rfl
      · intro r hr
        rw [List.mem_singleton.mp hr, toksT_append, List.length_append, show toksT [(lastN ks, true)] = [61, hexC (lastN ks / 16), hexC (lastN ks % 16)] from rfl]
        simp only [List.length_cons, List.length_nil]; omega
      · rw [hb, rowsT, hsp, hpt]; rfl
    · by_cases r2 : w - (toksT ys).length = 2
      · refine ⟨[9], .step _ 9 _ ?_ ⟨by omega, by rw [hx, hN]; omega, ?_⟩ ?_ (.stop _ ?_), hfin, [toksT ys ++ ([lastN ks] ++ ([61] ++ el))], ?_, by simp, ?_, by simp, ?_⟩
        · unfold Dn; rw [hx]; omega
        · rw [h9z]; omega
        · intro b' hb'
          have := hb'.top
          rw [hx, hN] at this; omega
        · unfold Dn; rw [hx, h9z]; omega
        · rw [hgo, hlast, if_neg r3, if_pos (by rw [r2]; rfl), chS_mk, show eqS = mkS [61] from rfl, mkS_append, mkS_append, mkS_append]; rfl
        · intro r hr
          rw [List.mem_singleton.mp hr]
          simp only [List.length_append, List.length_singleton]; omega
        · rw [hb, rowsT, rowsT]
          show inter el _ = inter (61 :: el) [toksT (((toksOf ks).take 9).drop a), toksT (patch true ((toksOf ks).drop 9))]
          rw [d9, List.take_of_length_le (by rw [toksOf_len, h.len]; omega), hya]
          show toksT ys ++ ([lastN ks] ++ ([61] ++ el)) = (toksT ys ++ [lastN ks]) ++ (61 :: el) ++ toksT (patch true [])
          simp [patch, toksT]
      · have hya1 : lf (sizesOf ks) a = w := by omega
        have ha7 : a ≠ 8 := by
          intro q
          rw [q] at hya1
          rw [show ((8 : Nat) : Int) = 8 from rfl, h8z] at hya1; omega
        refine ⟨[8], .step _ 8 _ ?_ ⟨by omega, by rw [hx, hN]; omega, ?_⟩ ?_ (.stop _ ?_), hfin, [toksT ys ++ (([61] ++ el) ++ [61, hexC (lastN ks / 16), hexC (lastN ks % 16)])], ?_, by simp, ?_, by simp, ?_⟩
        · unfold Dn; rw [hx]; omega
        · rw [h8z]; omega
        · intro b' hb'
          have h1 := hb'.top
          rw [hx, hN] at h1
          rcases Int.lt_or_le 8 b' with q | q
          · have : b' = 9 := by omega
            have h2 := hb'.fit
            rw [this, h9z] at h2; omega
          · exact q
        · unfold Dn; rw [hx, h8z]; omega
        · rw [hgo, hlast, if_neg r3, if_neg (by simpa using r2), escS_mk, show eqS = mkS [61] from rfl, mkS_append, mkS_append, mkS_append]; rfl
        · intro r hr
          rw [List.mem_singleton.mp hr]
          simp only [List.length_append, List.length_cons, List.length_nil]; omega
        · rw [hb, rowsT, rowsT]
          show inter el _ = inter (61 :: el) [toksT (((toksOf ks).take 8).drop a), toksT (patch true ((toksOf ks).drop 8))]
          rw [hys, d8, show [(lastN ks, false)] = [] ++ [(lastN ks, false)] from rfl, show patch true ([] ++ [(lastN ks, false)]) = [(lastN ks, true)] from rfl]
          show _ = toksT ys ++ (61 :: el) ++ toksT [(lastN ks, true)]
          rw [show toksT [(lastN ks, true)] = [61, hexC (lastN ks / 16), hexC (lastN ks % 16)] from rfl]
          simp [inter]
  · have hx : extraOf ks = 0 := by unfold extraOf; rw [if_neg hb]
    refine ⟨[], .stop _ (by unfold Dn; rw [hx]; omega), hfin, [toksT ((toksOf ks).drop a)], ?_, by simp, ?_, by simp, ?_⟩
    · rw [hgo]
      show [beLast _ _ _ _] = [mkS _]
      unfold beLast
      rw [if_neg (by rw [k1]; simp [hb])]
      congr 1
      conv => lhs; rw [hL]
      exact cut_end _ _
    · intro r hr
      rw [List.mem_singleton.mp hr]; omega
    · rw [rowsT]
      show _ = toksT (patch (blankK (lastN ks)) _)
      unfold patch
      rw [if_neg (by simp [hb])]; rfl
theorem enc_all {ks el : List Nat} (h : OctOK ks) (hel : el.length ≤ 2) {w : Int} (h4 : 4 ≤ w) (h7 : w ≤ 7) : ∀ (n a : Nat), a ≤ 8 → 8 - a ≤ n → ∃ l, EncOK ks el w n a l := by
  intro n
  have Z := SZ.of h h4 h7
  have hN := Z.top
  have F := Z.fd
  have hl9 := lf_toks ks 9
  obtain ⟨d8, d9⟩ := toks_last h.len
  rw [d9] at hl9
  have hl9 : lf (sizesOf ks) ((9 : Nat) : Int) = 0 := hl9
  have hstep : ∀ a : Nat, lf (sizesOf ks) a - lf (sizesOf ks) ((a + 1 : Nat) : Int) ≤ 3 := fun a => by
    rw [lf_toks, lf_toks, toks_split _ a (a + 1) (by omega), toksT_append, List.length_append]
    have := toksT_le (((toksOf ks).take (a + 1)).drop a)
    have e : (((toksOf ks).take (a + 1)).drop a).length ≤ 1 := by rw [List.length_drop, List.length_take]; omega
    omega
  induction n with
  | zero =>
    intro a ha hn
    have : a = 8 := by omega
    subst this
    exact enc_stop h hel h4 h7 0 8 ha (by have := hstep 8; rw [show ((8 + 1 : Nat) : Int) = ((9 : Nat) : Int) from rfl, hl9] at this; omega)
  | succ n ih =>
    intro a ha hn
    rcases Int.lt_or_le w (lf (sizesOf ks) a) with hgt | hle
    · have ha8 : a ≠ 8 := by
        intro q
        subst q
        have := hstep 8
        rw [show ((8 + 1 : Nat) : Int) = ((9 : Nat) : Int) from rfl, hl9] at this; omega
      obtain ⟨b, hb1, hb2, hb3, hb4⟩ := crossing (lf (sizesOf ks)) w a (8 - a) (by have := hstep a; omega) (by rw [show a + 1 + (8 - a) = 9 by omega, hl9]; omega)
      obtain ⟨l, g, hfin, rows, r1, r2, r3, r4, r5⟩ := ih b (by omega) (by omega)
      have hx0 : 0 ≤ extraOf ks := by unfold extraOf; split <;> omega
      have eL : toksT (toksOf ks) = toksT ((toksOf ks).take a) ++ (toksT (((toksOf ks).take b).drop a) ++ (tokT ((toksOf ks).getD b (0, false)) ++ toksT ((toksOf ks).drop (b + 1)))) := by
        have hbl : b < (toksOf ks).length := by rw [toksOf_len, h.len]; omega
        have e1 : (toksOf ks).drop b = (toksOf ks).getD b (0, false) :: (toksOf ks).drop (b + 1) := by
          rw [List.getD_eq_getElem?_getD, List.getElem?_eq_getElem hbl, Option.getD_some, List.getElem_cons_drop]
        rw [← toksT_cons, ← e1, ← toksT_append, ← toks_split _ a b (by omega), ← toksT_append, List.take_append_drop]
      have hlen := congrArg List.length eL
      have hla := lf_toks ks a
      have hlb := lf_toks ks b
      have hlb1 := lf_toks ks (b + 1)
      rw [toks_split _ a b (by omega), toksT_append, List.length_append] at hla
      have e1 : toksT ((toksOf ks).drop b) = tokT ((toksOf ks).getD b (0, false)) ++ toksT ((toksOf ks).drop (b + 1)) := by
        have hbl : b < (toksOf ks).length := by rw [toksOf_len, h.len]; omega
        rw [← toksT_cons]
        congr 1
        rw [List.getD_eq_getElem?_getD, List.getElem?_eq_getElem hbl, Option.getD_some, List.getElem_cons_drop]
      have e1l := congrArg List.length e1
      simp only [List.length_append] at hlen e1l
      have hturn := be_turn (toksT ((toksOf ks).take a)) (toksT ((toksOf ks).drop (b + 1))) (((toksOf ks).take b).drop a) ((toksOf ks).getD b (0, false)) w n (fun q hq => toksOf_ok h q (List.mem_of_mem_take (List.mem_of_mem_drop hq))) h4 (by omega) (by omega) (by rw [← eL]; omega)
      rw [← eL] at hturn
      have epre : (toksT ((toksOf ks).take a)).length + (toksT (((toksOf ks).take b).drop a)).length = (toksT ((toksOf ks).take b)).length := by
        rw [← List.length_append, ← toksT_append]
        congr 2
        have : ((toksOf ks).take b).take a = (toksOf ks).take a := by rw [List.take_take]; congr 1; omega
        rw [← this, List.take_append_drop]
      rw [epre] at hturn
      refine ⟨(b : Int) :: l, .step _ _ _ ?_ ⟨by omega, ?_, hb3⟩ ?_ g, ?_, (toksT (((toksOf ks).take b).drop a) ++ [61]) :: rows, ?_, by simp; omega, ?_, by simp, ?_⟩
      · unfold Dn; omega
      · rw [hN]; split <;> omega
      · intro b' hb'
        rcases Int.lt_or_le b b' with q | q
        · have := F.fall ((b + 1 : Nat) : Int) b' (by omega)
          have := hb'.fit
          omega
        · exact q
      · rw [hturn]; exact hfin
      · rw [hturn, List.map_cons, ← r1]; rfl
      · intro r hr
        rcases List.mem_cons.mp hr with rfl | hr
        · rw [List.length_append, List.length_singleton]; omega
        · exact r3 r hr
      · rw [inter_cons _ _ r4, r5, rowsT, Int.toNat_natCast]
        unfold outT
        obtain ⟨x, r, e⟩ := rowsT_ne (blankK (lastN ks)) (toksOf ks) l b
        rw [List.map_cons, inter_cons _ _ (by rw [e]; simp)]
        simp
    · exact enc_stop h hel h4 h7 (n + 1) a ha hle
end Qp
namespace Qp
open PySem PySem.Calls PyProof.Rows PySem.W PySem.StrLaws PySem.Builtin PySem.Builtin.Str
/-! splitlines -/
noncomputable def lrun (s : Str) (cur m : Nat) (st : LsSt) : LsSt := Id.run (forIn (m := Id) (List.range' cur m) st (lsBody s))
theorem lrun_zero (s : Str) (cur : Nat) (st : LsSt) : lrun s cur 0 st = st := rfl
theorem lrun_no (s : Str) (cur m : Nat) (st : LsSt) (h : (decide (st.snd ≤ cur) && Unicode.isLineBreak (s.cps.getD cur 0)) = false) : lrun s cur (m + 1) st = lrun s (cur + 1) m st := by
  unfold lrun
  rw [List.range'_succ, List.forIn_cons]
  conv => lhs; unfold lsBody
  simp only [h, Bool.false_eq_true, if_false]
  rfl
theorem lrun_yes (s : Str) (cur m : Nat) (st : LsSt) (h : (decide (st.snd ≤ cur) && Unicode.isLineBreak (s.cps.getD cur 0)) = true) : lrun s cur (m + 1) st = lrun s (cur + 1) m (st.fst.push (st.snd, cur, lsNext s cur), lsNext s cur) := by
  unfold lrun
  rw [List.range'_succ, List.forIn_cons]
  conv => lhs; unfold lsBody
  simp only [h, if_true]
  rfl
noncomputable def NoBr (l : List Nat) : Prop := ∀ x ∈ l, Unicode.isLineBreak x = false
theorem getD_cps (l : List Nat) (i : Nat) : (mkS l).cps.getD i 0 = l.getD i 0 := by
  show l.toArray.getD i 0 = l.getD i 0
  simp [Array.getD_eq_getD_getElem?, List.getD_eq_getElem?_getD]
theorem lrun_skip (s : Str) (k : Nat) : ∀ (m cur : Nat) (st : LsSt), (∀ i, i < m → Unicode.isLineBreak (s.cps.getD (cur + i) 0) = false) → lrun s cur (m + k) st = lrun s (cur + m) k st
  | 0, cur, st, _ => by simp
  | m + 1, cur, st, h => by
    rw [show m + 1 + k = (m + k) + 1 by omega, lrun_no _ _ _ _ (by have := h 0 (by omega); rw [Nat.add_zero] at this; rw [this, Bool.and_false]), lrun_skip s k m (cur + 1) st fun i hi => by have := h (i + 1) (by omega); rwa [show cur + 1 + i = cur + (i + 1) by omega]]
    congr 1; omega
noncomputable def textP (P : List (List Nat × List Nat)) (z : List Nat) : List Nat := P.flatMap (fun p => p.1 ++ p.2) ++ z
theorem textP_cons (p : List Nat × List Nat) (P : List (List Nat × List Nat)) (z : List Nat) : textP (p :: P) z = p.1 ++ (p.2 ++ textP P z) := by simp [textP]
noncomputable def NlOK (nl rest : List Nat) : Prop := nl = [10] ∨ nl = [13, 10] ∨ (nl = [13] ∧ rest = [])
noncomputable def PsOK : List (List Nat × List Nat) → List Nat → Prop
  | [], z => NoBr z
  | p :: P, z => NoBr p.1 ∧ NlOK p.2 (textP P z) ∧ PsOK P z
theorem br10 : Unicode.isLineBreak 10 = true := by decide +kernel
theorem br13 : Unicode.isLineBreak 13 = true := by decide +kernel
theorem sub_mid (pre c rest : List Nat) : strSub (mkS (pre ++ (c ++ rest))) pre.length (pre.length + c.length) = mkS c := by
  refine Str.ext' ?_
  show (pre ++ (c ++ rest)).toArray.extract pre.length (pre.length + c.length) = c.toArray
  rw [List.extract_toArray, List.extract_eq_take_drop (l := pre ++ (c ++ rest)), List.drop_left, Nat.add_sub_cancel_left, List.take_left]
theorem lrun_all : ∀ (P : List (List Nat × List Nat)) (pre z : List Nat) (arr : Array (Nat × Nat × Nat)), PsOK P z → ∃ arr' st, lrun (mkS (pre ++ textP P z)) pre.length (textP P z).length (arr, pre.length) = (arr', st) ∧ st + z.length = (pre ++ textP P z).length ∧
    arr'.toList.map (fun p => strSub (mkS (pre ++ textP P z)) p.1 p.2.1) = arr.toList.map (fun p => strSub (mkS (pre ++ textP P z)) p.1 p.2.1) ++ P.map fun p => mkS p.1
  | [], pre, z, arr, h => by
    refine ⟨arr, pre.length, ?_, by simp [textP], by simp⟩
    have := lrun_skip (mkS (pre ++ textP [] z)) 0 (textP [] z).length pre.length (arr, pre.length) fun i hi => by
      rw [getD_cps, getD_app]
      have hi : i < z.length := hi
      show Unicode.isLineBreak (z.getD i 0) = false
      rw [List.getD_eq_getElem?_getD, List.getElem?_eq_getElem hi]
      exact h _ (List.getElem_mem hi)
    rw [Nat.add_zero] at this
    rw [this, lrun_zero]
  | (c, nl) :: P, pre, z, arr, h => by
    obtain ⟨hc, hn, hP⟩ := h
    have hskip : ∀ k st, lrun (mkS (pre ++ textP ((c, nl) :: P) z)) pre.length (c.length + k) st = lrun (mkS (pre ++ textP ((c, nl) :: P) z)) (pre.length + c.length) k st := fun k st => lrun_skip _ k c.length pre.length st fun i hi => by
      rw [getD_cps, getD_app, textP_cons, getD_app0 _ _ _ hi, List.getD_eq_getElem?_getD, List.getElem?_eq_getElem hi]
      exact hc _ (List.getElem_mem hi)
    have hsub : strSub (mkS (pre ++ textP ((c, nl) :: P) z)) pre.length (pre.length + c.length) = mkS c := by
      rw [textP_cons]; exact sub_mid _ _ _
    have hat : ∀ i, (mkS (pre ++ textP ((c, nl) :: P) z)).cps.getD (pre.length + c.length + i) 0 = (nl ++ textP P z).getD i 0 := fun i => by
      rw [getD_cps, Nat.add_assoc, getD_app, textP_cons, getD_app]
    have hat? : ∀ i, (mkS (pre ++ textP ((c, nl) :: P) z)).cps[pre.length + c.length + i]? = (nl ++ textP P z)[i]? := fun i => by
      show (pre ++ textP ((c, nl) :: P) z).toArray[_]? = _
      rw [List.getElem?_toArray, textP_cons]
      show (pre ++ (c ++ (nl ++ textP P z)))[_]? = _
      rw [List.getElem?_append_right (by omega), List.getElem?_append_right (by omega)]
      congr 1; omega
    have hpre : pre ++ textP ((c, nl) :: P) z = (pre ++ (c ++ nl)) ++ textP P z := by rw [textP_cons]; simp
    have hlen : (textP ((c, nl) :: P) z).length = c.length + (nl.length + (textP P z).length) := by rw [textP_cons]; simp only [List.length_append]
    obtain ⟨arr', st, e1, e2, e3⟩ := lrun_all P (pre ++ (c ++ nl)) z (arr.push (pre.length, pre.length + c.length, pre.length + c.length + nl.length)) hP
    rw [← hpre] at e1 e2 e3
    refine ⟨arr', st, ?_, e2, ?_⟩
    · rw [← e1, hlen, hskip]
      have hl2 : (pre ++ (c ++ nl)).length = pre.length + c.length + nl.length := by simp only [List.length_append]; omega
      rw [hl2]
      have h0 := hat 0
      have h1 := hat? 1
      rw [Nat.add_zero] at h0
      rcases hn with rfl | rfl | ⟨rfl, hr⟩
      · have hN : lsNext (mkS (pre ++ textP ((c, [10]) :: P) z)) (pre.length + c.length) = pre.length + c.length + 1 := by
          unfold lsNext; rw [h0]; rfl
        rw [show ([10] : List Nat).length + (textP P z).length = (textP P z).length + 1 by simp; omega, lrun_yes _ _ _ _ (by rw [h0]; show (decide (pre.length ≤ _) && Unicode.isLineBreak 10) = true; rw [br10, decide_eq_true (by omega)]; rfl), hN]
        rfl
      · have hN : lsNext (mkS (pre ++ textP ((c, [13, 10]) :: P) z)) (pre.length + c.length) = pre.length + c.length + 2 := by
          unfold lsNext; rw [h0, h1]; rfl
        rw [show ([13, 10] : List Nat).length + (textP P z).length = ((textP P z).length + 1) + 1 by simp; omega, lrun_yes _ _ _ _ (by rw [h0]; show (decide (pre.length ≤ _) && Unicode.isLineBreak 13) = true; rw [br13, decide_eq_true (by omega)]; rfl), hN]
        rw [lrun_no _ _ _ _ (by show (decide (pre.length + c.length + 2 ≤ pre.length + c.length + 1) && _) = false; rw [decide_eq_false (by omega)]; rfl)]
        rfl
      · have hN : lsNext (mkS (pre ++ textP ((c, [13]) :: P) z)) (pre.length + c.length) = pre.length + c.length + 1 := by
          unfold lsNext; rw [h0, h1, hr]; rfl
        rw [show ([13] : List Nat).length + (textP P z).length = (textP P z).length + 1 by simp; omega, lrun_yes _ _ _ _ (by rw [h0]; show (decide (pre.length ≤ _) && Unicode.isLineBreak 13) = true; rw [br13, decide_eq_true (by omega)]; rfl), hN]
        rfl
    · rw [e3, Array.toList_push, List.map_append, List.map_singleton, hsub, List.map_cons, List.append_assoc]; rfl
theorem lines_of {P : List (List Nat × List Nat)} {z : List Nat} (h : PsOK P z) : linesOf (mkS (textP P z)) = (P.map (fun p => mkS p.1)) ++ if z = [] then [] else [mkS z] := by
  obtain ⟨arr', st, e1, e2, e3⟩ := lrun_all P [] z #[] h
  rw [List.nil_append] at e1 e2 e3
  have e : linesOf (mkS (textP P z)) = (lineSpans (mkS (textP P z))).map fun (p : Nat × Nat × Nat) => strSub (mkS (textP P z)) p.1 p.2.1 := by
    unfold linesOf lineCuts
    rw [List.map_map]
    apply List.map_congr_left
    intro ⟨i, j, k⟩ _
    rfl
  have hr : Id.run (forIn (m := Id) (List.range' 0 (mkS (textP P z)).length) ((#[], 0) : LsSt) (lsBody (mkS (textP P z)))) = (arr', st) := by rw [mkS_len]; exact e1
  rw [e, ls_eq, hr]
  unfold lsEnd
  rw [mkS_len]
  by_cases hz : z = []
  · subst hz
    rw [if_neg (by show ¬ st < _; simp at e2; omega), if_pos rfl, e3]; simp
  · have := List.length_pos_iff.mpr hz
    rw [if_pos (by show st < _; omega), if_neg hz]
    show (arr'.push (st, _, _)).toList.map _ = _
    rw [Array.toList_push, List.map_append, e3, List.map_singleton]
    have hst : st = (P.flatMap fun p => p.1 ++ p.2).length := by
      have : (textP P z).length = (P.flatMap fun p => p.1 ++ p.2).length + z.length := by unfold textP; rw [List.length_append]
      omega
    have : strSub (mkS (textP P z)) st (textP P z).length = mkS z := by
      have := sub_mid (P.flatMap fun p => p.1 ++ p.2) z []
      rw [List.append_nil, ← hst] at this
      rw [← e2]; exact this
    show _ ++ [strSub (mkS (textP P z)) st (textP P z).length] = _
    rw [this]; rfl
theorem cuts_few (x : Str) (h : x.length ≤ 10000) : (lineCuts x).length ≤ sizeLine := by
  have hw := ls_weight x
  have : ∀ l : List (Nat × Nat × Nat), l.length ≤ lsum l := by
    intro l
    induction l with
    | nil => simp
    | cons p r ih => rw [lsum, List.length_cons]; omega
  have h2 := this (lineSpans x)
  have h3 : (lineCuts x).length = (lineSpans x).length := by unfold lineCuts; rw [List.length_map]
  have hsz : sizeLine = 16777216 := sizeLine_eq
  have := hw.1
  omega
theorem nobr_range : ∀ x, x < 127 → (x = 9 ∨ 32 ≤ x) → Unicode.isLineBreak x = false := by decide +kernel
theorem toksT_nobr {l : List Tk} (h : ∀ p ∈ l, TkG p) : NoBr (toksT l) := fun x hx => by
  have := toksT_ch h x hx
  exact nobr_range x (by omega) (by omega)
end Qp
namespace Qp
open PySem PySem.Calls PyProof.Rows PySem.W
/-! body_encode of a line and its end -/
theorem enc_map : ∀ k, k < 256 → (mapEnc.getD k ⟨#[]⟩).cps.toList = if k = 10 ∨ k = 13 then [k] else codeL k := by decide +kernel
theorem encT_mk {ks en : List Nat} (h : OctOK ks) (he : EndOK en) : encT (mkS (ks ++ en)) = mkS (toksT (toksOf ks) ++ en) := by
  unfold encT
  rw [mkS_list, trans_append]
  have h1 : trans mapEnc ks = toksT (toksOf ks) := by
    unfold trans toksT toksOf
    rw [List.flatMap_map]
    have := h.ok
    clear h he
    induction ks with
    | nil => rfl
    | cons k ks ih =>
      rw [List.flatMap_cons, List.flatMap_cons, ih fun x hx => this x (List.mem_cons_of_mem _ hx)]
      have hk := this k List.mem_cons_self
      rw [enc_map k hk.1, if_neg (by omega), tokT_tkOf]
  have h2 : trans mapEnc en = en := by
    rcases he with rfl | rfl | rfl | rfl <;> decide +kernel
  rw [h1, h2]; rfl
theorem end_lines {L en : List Nat} (hL : NoBr L) (hne : L ≠ []) (he : EndOK en) : linesOf (mkS (L ++ en)) = [mkS L] := by
  rcases he with rfl | rfl | rfl | rfl
  · have := lines_of (P := []) (z := L) hL
    rw [if_neg hne] at this
    rw [List.append_nil]; exact this
  · have := lines_of (P := [(L, [10])]) (z := []) ⟨hL, .inl rfl, fun x hx => (by cases hx)⟩
    rw [show textP [(L, [10])] [] = L ++ [10] by simp [textP]] at this
    rw [this]; rfl
  · have := lines_of (P := [(L, [13])]) (z := []) ⟨hL, .inr (.inr ⟨rfl, rfl⟩), fun x hx => (by cases hx)⟩
    rw [show textP [(L, [13])] [] = L ++ [13] by simp [textP]] at this
    rw [this]; rfl
  · have := lines_of (P := [(L, [13, 10])]) (z := []) ⟨hL, .inr (.inl rfl), fun x hx => (by cases hx)⟩
    rw [show textP [(L, [13, 10])] [] = L ++ [13, 10] by simp [textP]] at this
    rw [this]; rfl
section
variable {c : Cx} {n : Nat}
theorem be_gen (T : Tops c) (B : Tabs c) (CR : Gs c "CRLF" ⟨#[13, 10]⟩) (qv : Value) (Q : GFn c "quote" qv) (fq : ∀ k, k < 256 → Fn c n qv [.str (chS k)] (.str (escS k))) {ks en el : List Nat} (h : OctOK ks) (hen : EndOK en) (hel : el.length ≤ 2) (w : Int) (h4 : 4 ≤ w) (hw : w ≤ 1000) (f : Nat) (hf : f ≤ 1000) (rows : List (List Nat))
    (hrows : beRows (mkS (toksT (toksOf ks))) (mkS el) w f = rows.map mkS) (hfin : ((toksT (toksOf ks)).length : Int) - 1 - w < (beGo (mkS (toksT (toksOf ks))) w f 0).2) (hlen : rows.length ≤ 20) (hB : ∀ r ∈ rows, r.length ≤ 100) (hne : rows ≠ []) :
    Exs c n (fS 20) (Cells 20) none (upds (fun _ => none) ["body", "maxlinelen", "eol"] [.str (mkS (ks ++ en)), .int w, .str (mkS el)]) [] (fB 20) (.ret (.str (mkS (inter el rows ++ tailL en el)))) := by
  obtain ⟨k1, k2, k3, k4, k5⟩ := lastK_line h
  obtain ⟨n1, n2⟩ := line_ne h
  have hkl := h.len
  have hne' : toksT (toksOf ks) ≠ [] := by intro q; rw [q] at n1; simp at n1
  have henl : en.length ≤ 2 := by rcases hen with rfl | rfl | rfl | rfl <;> simp
  have hE := encT_mk h hen
  have hlast : (lastK (encT (mkS (ks ++ en))) == 13 || lastK (encT (mkS (ks ++ en))) == 10) = !(en == []) := by
    rw [hE]
    rcases hen with rfl | rfl | rfl | rfl
    · rw [List.append_nil]
      have a : (lastK (mkS (toksT (toksOf ks))) == 13) = false := beq_eq_false_iff_ne.mpr k5
      have b : (lastK (mkS (toksT (toksOf ks))) == 10) = false := beq_eq_false_iff_ne.mpr k4
      rw [a, b]; rfl
    all_goals
      unfold lastK
      rw [mkS_list, lastD_app _ _ (by simp)]
      rfl
  have hout : beRows (mkS (toksT (toksOf ks))) (mkS el) w f ++ (if lastK (encT (mkS (ks ++ en))) == 13 || lastK (encT (mkS (ks ++ en))) == 10 then [⟨#[]⟩] else []) = (rows ++ if en = [] then [] else [[]]).map mkS := by
    rw [hlast, hrows, List.map_append]
    congr 1
    by_cases q : en = []
    · subst q; rfl
    · rw [if_neg q, if_pos (by simpa using q)]; rfl
  have hfinal : beOut (encT (mkS (ks ++ en))) (mkS (toksT (toksOf ks))) (mkS el) w f = mkS (inter el rows ++ tailL en el) := by
    unfold beOut
    rw [hout, txt_join]
    congr 1
    unfold tailL
    by_cases q : en = []
    · rw [if_pos q, if_pos q, List.append_nil, List.append_nil]
    · rw [if_neg q, if_neg q, inter_snoc _ _ hne]
  rw [← hfinal]
  refine x_body_encode T B CR qv Q (mkS (ks ++ en)) (mkS (toksT (toksOf ks))) (mkS el) w f h4 hw ?_ ?_ ?_ ?_ hf ?_ ?_ ?_ ?_ (fun q => fq _ q) k3 ?_ ?_
  · rw [mkS_len, List.length_append]; omega
  · rw [mkS_len, List.length_append]; omega
  · intro k hk
    rw [mkS_list] at hk
    rcases List.mem_append.mp hk with hk | hk
    · exact (h.ok k hk).1
    · rcases hen with rfl | rfl | rfl | rfl <;> simp at hk <;> omega
  · rw [mkS_len]; omega
  · rw [hE]; exact end_lines (toksT_nobr (toksOf_ok h)) hne' hen
  · rw [hE]; exact cuts_few _ (by rw [mkS_len, List.length_append]; omega)
  · rw [mkS_len]; omega
  · rw [hE, mkS_len, List.length_append]; omega
  · rw [mkS_len]; exact hfin
  · rw [hout]
    refine joinOk 100 ?_ ?_
    · intro y hy
      obtain ⟨r, hr, rfl⟩ := List.mem_map.mp hy
      rw [mkS_len]
      rcases List.mem_append.mp hr with hr | hr
      · exact hB r hr
      · split at hr
        · cases hr
        · rw [List.mem_singleton.mp hr]; simp
    · rw [List.length_map, List.length_append, mkS_len]
      have : (if en = [] then [] else [[]] : List (List Nat)).length ≤ 1 := by split <;> simp
      have := Nat.mul_le_mul (show rows.length + (if en = [] then [] else [[]] : List (List Nat)).length ≤ 21 by omega) hel
      omega
/-- the law's line: the greedy rows -/
theorem be_late (T : Tops c) (B : Tabs c) (CR : Gs c "CRLF" ⟨#[13, 10]⟩) (qv : Value) (Q : GFn c "quote" qv) (fq : ∀ k, k < 256 → Fn c n qv [.str (chS k)] (.str (escS k))) {ks en el : List Nat} (h : OctOK ks) (hen : EndOK en) (hel : el.length ≤ 2) (w : Int) (h4 : 4 ≤ w) (h7 : w ≤ 7) :
    ∃ l, Gr (lf (sizesOf ks)) w (topN (sizesOf ks) (extraOf ks)) (Dn (sizesOf ks) w (extraOf ks)) 0 l ∧
      Exs c n (fS 20) (Cells 20) none (upds (fun _ => none) ["body", "maxlinelen", "eol"] [.str (mkS (ks ++ en)), .int w, .str (mkS el)]) [] (fB 20) (.ret (.str (mkS (outT el (rowsT (blankK (lastN ks)) (toksOf ks) 0 l) ++ tailL en el)))) := by
  obtain ⟨l, g, hfin, rows, r1, r2, r3, r4, r5⟩ := enc_all h hel h4 h7 8 0 (by omega) (by omega)
  refine ⟨l, g, ?_⟩
  rw [← r5]
  exact be_gen T B CR qv Q fq h hen hel w h4 (by omega) 8 (by omega) rows r1 hfin (by omega) r3 r4
theorem be_whole (T : Tops c) (B : Tabs c) (CR : Gs c "CRLF" ⟨#[13, 10]⟩) (qv : Value) (Q : GFn c "quote" qv) (fq : ∀ k, k < 256 → Fn c n qv [.str (chS k)] (.str (escS k))) {ks : List Nat} (h : OctOK ks) :
    Exs c n (fS 20) (Cells 20) none (upds (fun _ => none) ["body", "maxlinelen", "eol"] [.str (mkS (ks ++ [10])), .int 76, .str (mkS [10])]) [] (fB 20) (.ret (.str (mkS (outT [10] (rowsT (blankK (lastN ks)) (toksOf ks) 0 []) ++ [10])))) := by
  obtain ⟨k1, k2, k3, _, _⟩ := lastK_line h
  obtain ⟨n1, n2⟩ := line_ne h
  obtain ⟨d8, d9⟩ := toks_last h.len
  have hpl : (toksT (patch (blankK (lastN ks)) (toksOf ks))).length ≤ 100 := by
    have := toksT_le (patch (blankK (lastN ks)) (toksOf ks))
    rw [patch_len, toksOf_len, h.len] at this; omega
  have := be_gen T B CR qv Q fq h (en := [10]) (el := [10]) (.inr (.inl rfl)) (by simp) 76 (by omega) (by omega) 0 (by omega) [toksT (patch (blankK (lastN ks)) (toksOf ks))] ?_ ?_ (by simp) ?_ (by simp)
  · exact this
  · show [beLast _ _ _ 0] = [mkS _]
    congr 1
    unfold beLast patch
    rw [k1, mkS_len]
    by_cases hb : blankK (lastN ks) = true
    · have htk : tkOf (lastN ks) = (lastN ks, false) := by
        have : bareK (lastN ks) = true := by
          unfold blankK at hb
          simp only [Bool.or_eq_true, beq_iff_eq] at hb
          rcases hb with q | q <;> rw [q] <;> rfl
        unfold tkOf; rw [this]; rfl
      have hsp : toksOf ks = (toksOf ks).take 8 ++ [(lastN ks, false)] := by rw [← htk, ← d8, List.take_append_drop]
      rw [if_pos (by rw [hb, Bool.and_true, bne_iff_ne]; omega), if_pos (by omega), k2 hb, if_pos ⟨hb, by intro q; rw [q] at n1; simp [toksT] at n1⟩]
      have hc : cutS (mkS (toksT (toksOf ks))) (some 0) (some (-1)) = mkS (toksT ((toksOf ks).take 8)) := by
        have := cut_last [] (toksT ((toksOf ks).take 8)) (lastN ks)
        rw [List.nil_append] at this
        conv => lhs; rw [hsp, toksT_append]
        exact this
      rw [hc, escS_mk, mkS_append]
      conv => rhs; rw [hsp, List.dropLast_concat, lastD_app _ _ (by simp), toksT_append]
      rfl
    · rw [if_neg (by simp [hb]), if_neg (by simp [hb])]
      exact cut_end [] _
  · show _ < (0 : Int)
    omega
  · intro r hr
    rw [List.mem_singleton.mp hr]; exact hpl
end
end Qp
namespace Qp
open PySem PySem.Calls PyProof.Rows PySem.W PySem.StrLaws PySem.Builtin PySem.Builtin.Str
/-! rstrip, endswith, replace -/
theorem takeWhile_app (p : Nat → Bool) : ∀ (a b : List Nat), (∀ x ∈ a, p x = true) → (a ++ b).takeWhile p = a ++ b.takeWhile p
  | [], _, _ => rfl
  | x :: a, b, h => by
    rw [List.cons_append, List.takeWhile_cons, if_pos (h x List.mem_cons_self), takeWhile_app p a b fun y hy => h y (List.mem_cons_of_mem _ hy)]; rfl
theorem rstrip_mk (a sp : List Nat) (hsp : ∀ x ∈ sp, Unicode.isSpace x = true) (ha : a = [] ∨ ∃ a' k, a = a' ++ [k] ∧ Unicode.isSpace k = false) : Txt.rstrip (mkS (a ++ sp)) = mkS a := by
  unfold Txt.rstrip
  rw [PyProof.Rows.stripBy_eq]
  show strSub (mkS (a ++ sp)) 0 (stripHi _ true (mkS (a ++ sp)) 0) = _
  have h : ((mkS (a ++ sp)).cps.toList.drop 0).reverse.takeWhile Unicode.isSpace = sp.reverse := by
    rw [mkS_list, List.drop_zero, List.reverse_append, takeWhile_app _ _ _ fun x hx => hsp x (List.mem_reverse.mp hx)]
    rcases ha with rfl | ⟨a', k, rfl, hk⟩
    · simp
    · rw [List.reverse_append]
      show sp.reverse ++ List.takeWhile _ (k :: a'.reverse) = _
      rw [List.takeWhile_cons, if_neg (by rw [hk]; exact Bool.false_ne_true), List.append_nil]
  have e : stripHi Unicode.isSpace true (mkS (a ++ sp)) 0 = a.length := by
    show (mkS (a ++ sp)).length - _ = _
    rw [h, mkS_len, List.length_append, List.length_reverse]; omega
  rw [e]
  have := sub_mid [] a sp
  simpa using this
theorem subAt_mk (pre y rest : List Nat) : subAt (mkS (pre ++ (y ++ rest))) (mkS y) pre.length = true := by
  rw [subAt_eq, mkS_list, mkS_list, mkS_len, List.drop_left, List.take_left, beq_iff_eq]
theorem ends_mk (a b : List Nat) : Txt.endswith (mkS (a ++ b)) (mkS b) = true := by
  unfold Txt.endswith
  rw [mkS_len, mkS_len, List.length_append, Nat.add_sub_cancel, decide_eq_true (by omega), Bool.true_and]
  have := subAt_mk a b []
  rwa [List.append_nil] at this
noncomputable def Free (l : List Nat) : Prop := 10 ∉ l ∧ 13 ∉ l
theorem at_first {L el : List Nat} {k : Nat} (hel : EolOK el) (h : StrLaws.At (mkS L) (mkS el) (mkS L).length k) : k < L.length ∧ (L.getD k 0 = 10 ∨ L.getD k 0 = 13) := by
  obtain ⟨h1, h2⟩ := h
  rw [subAt_eq, mkS_list, mkS_list, mkS_len, beq_iff_eq] at h2
  rw [mkS_len, mkS_len] at h1
  have hl : 1 ≤ el.length := by rcases hel with rfl | rfl <;> simp
  have hk : k < L.length := by omega
  refine ⟨hk, ?_⟩
  have e : L.drop k = L.getD k 0 :: L.drop (k + 1) := by rw [List.getD_eq_getElem?_getD, List.getElem?_eq_getElem hk, Option.getD_some, List.getElem_cons_drop]
  rw [e] at h2
  rcases hel with rfl | rfl
  · simp only [List.length_singleton, List.take_succ_cons] at h2
    exact .inl (List.cons.inj h2).1
  · simp only [List.length_cons, List.take_succ_cons] at h2
    exact .inr (List.cons.inj h2).1
theorem at_mk (pre el rest : List Nat) : StrLaws.At (mkS (pre ++ (el ++ rest))) (mkS el) (mkS (pre ++ (el ++ rest))).length pre.length :=
  ⟨by rw [mkS_len, mkS_len]; simp only [List.length_append]; omega, subAt_mk _ _ _⟩
theorem parts_mk {el : List Nat} (hel : EolOK el) : ∀ (cs : List (List Nat)) (pre : List Nat) (cuts : List Nat) (f : Nat), cs ≠ [] → (∀ c ∈ cs, Free c) → ChainG (mkS (pre ++ inter el cs)) (mkS el) (mkS (pre ++ inter el cs)).length pre.length cuts f →
    (∀ k, f ≤ k → ¬ StrLaws.At (mkS (pre ++ inter el cs)) (mkS el) (mkS (pre ++ inter el cs)).length k) → partsFrom (mkS (pre ++ inter el cs)) (mkS el).length pre.length cuts = cs.map mkS
  | [z], pre, cuts, f, _, hfr, hc, hn => by
    have hz := hfr z (by simp)
    have hno : ∀ k, pre.length ≤ k → ¬ StrLaws.At (mkS (pre ++ inter el [z])) (mkS el) (mkS (pre ++ inter el [z])).length k := by
      intro k hk hA
      obtain ⟨h1, h2⟩ := at_first hel hA
      obtain ⟨j, rfl⟩ : ∃ j, k = pre.length + j := ⟨k - pre.length, by omega⟩
      rw [getD_app] at h2
      have hj : j < z.length := by rw [List.length_append] at h1; have : (inter el [z]).length = z.length := rfl; omega
      have hm : z.getD j 0 ∈ z := by rw [List.getD_eq_getElem?_getD, List.getElem?_eq_getElem hj]; exact List.getElem_mem hj
      have h2 : z.getD j 0 = 10 ∨ z.getD j 0 = 13 := h2
      rcases h2 with h2 | h2 <;> rw [h2] at hm
      · exact hz.1 hm
      · exact hz.2 hm
    match cuts, hc with
    | [], _ =>
      show [strSub (mkS (pre ++ z)) pre.length (mkS (pre ++ z)).length] = [mkS z]
      have := sub_mid pre z []
      rw [List.append_nil] at this
      rw [mkS_len, List.length_append, this]
    | c :: r, hc => exact absurd hc.2.1 (hno c hc.1)
  | c0 :: y :: r, pre, cuts, f, _, hfr, hc, hn => by
    have h0 := hfr c0 (by simp)
    have ei : inter el (c0 :: y :: r) = c0 ++ (el ++ inter el (y :: r)) := by rw [inter_cons _ _ (by simp), List.append_assoc]
    have hat : StrLaws.At (mkS (pre ++ inter el (c0 :: y :: r))) (mkS el) (mkS (pre ++ inter el (c0 :: y :: r))).length (pre.length + c0.length) := by
      rw [ei]
      have := at_mk (pre ++ c0) el (inter el (y :: r))
      rwa [List.append_assoc, List.length_append] at this
    have hno : ∀ k, pre.length ≤ k → k < pre.length + c0.length → ¬ StrLaws.At (mkS (pre ++ inter el (c0 :: y :: r))) (mkS el) (mkS (pre ++ inter el (c0 :: y :: r))).length k := by
      intro k hk hk2 hA
      obtain ⟨_, h2⟩ := at_first hel hA
      obtain ⟨j, rfl⟩ : ∃ j, k = pre.length + j := ⟨k - pre.length, by omega⟩
      have hj : j < c0.length := by omega
      rw [getD_app, ei, getD_app0 _ _ _ hj] at h2
      have hm : c0.getD j 0 ∈ c0 := by rw [List.getD_eq_getElem?_getD, List.getElem?_eq_getElem hj]; exact List.getElem_mem hj
      rcases h2 with h2 | h2 <;> rw [h2] at hm
      · exact h0.1 hm
      · exact h0.2 hm
    match cuts, hc with
    | [], hc =>
      have hc : f = pre.length := hc
      exact absurd hat (hn _ (by omega))
    | c :: q, hc =>
      obtain ⟨c1, c2, c3, c4⟩ := hc
      have hcc : c = pre.length + c0.length := by
        rcases Nat.lt_trichotomy c (pre.length + c0.length) with z | z | z
        · exact absurd c2 (hno c c1 z)
        · exact z
        · exact absurd hat (c3 _ (by omega) z)
      subst hcc
      have epre : pre ++ inter el (c0 :: y :: r) = (pre ++ c0 ++ el) ++ inter el (y :: r) := by rw [ei]; simp
      have elen : pre.length + c0.length + (mkS el).length = (pre ++ c0 ++ el).length := by rw [mkS_len]; simp only [List.length_append]
      rw [elen] at c4
      show strSub (mkS (pre ++ inter el (c0 :: y :: r))) pre.length (pre.length + c0.length) :: partsFrom (mkS (pre ++ inter el (c0 :: y :: r))) (mkS el).length (pre.length + c0.length + (mkS el).length) q = mkS c0 :: _
      rw [elen]
      congr 1
      · rw [ei]; exact sub_mid _ _ _
      · rw [epre] at c4 hn ⊢
        exact parts_mk hel (y :: r) _ q f (by simp) (fun c hc => hfr c (List.mem_cons_of_mem _ hc)) c4 hn
theorem replace_mk {el zl : List Nat} (hel : EolOK el) (hzl : zl ≠ []) (cs : List (List Nat)) (hne : cs ≠ []) (hfr : ∀ c ∈ cs, Free c) : Txt.replace (mkS (inter el cs)) (mkS el) (mkS zl) = mkS (inter zl cs) := by
  have hl : 1 ≤ el.length := by rcases hel with rfl | rfl <;> simp
  obtain ⟨f, hG, hn⟩ := occ_tight (mkS (inter el cs)) (mkS el) (by rw [mkS_len]; exact hl)
  have hp := parts_mk hel cs [] _ f hne hfr (by rw [List.nil_append]; exact hG) (by rw [List.nil_append]; exact hn)
  rw [List.nil_append] at hp
  unfold Txt.replace
  by_cases ho : (occurrences (mkS (inter el cs)) (mkS el) 0 (mkS (inter el cs)).length ((mkS (inter el cs)).length + 1)).isEmpty = true
  · rw [if_pos (by rw [ho]; rfl)]
    rw [List.isEmpty_iff.mp ho] at hp
    match cs, hne, hp with
    | [z], _, _ => rfl
    | c :: y :: r, _, hp =>
      have := congrArg List.length hp
      simp [partsFrom] at this
  · rw [if_neg (by
      rw [Bool.or_eq_true, not_or]
      refine ⟨ho, ?_⟩
      rw [mkS_len, Bool.and_eq_true, beq_iff_eq]; omega), glued_eq_join, partsBetween_eq]
    show Str.join (mkS zl) (partsFrom _ _ ([] : List Nat).length _) = _
    rw [hp, join_mk]
end Qp
namespace Qp
open PySem PySem.Calls PyProof.Rows PySem.W
/-! decode of a letter -/
theorem inter_text (sp el : List Nat) (z : List Nat) : ∀ ps : List (List Nat), inter (sp ++ el) (ps ++ [z]) = textP (ps.map fun c => (c ++ sp, el)) z
  | [] => by simp [inter, textP]
  | p :: ps => by
    have ih := inter_text sp el z ps
    rw [List.cons_append, inter_cons _ _ (by simp), ih, List.map_cons, textP_cons]; simp
theorem inter_eq (el z : List Nat) : ∀ ps : List (List Nat), inter (61 :: el) (ps ++ [z]) = inter el (ps.map (fun c => c ++ [61]) ++ [z])
  | [] => rfl
  | p :: ps => by
    have ih := inter_eq el z ps
    rw [List.cons_append, List.map_cons, List.cons_append, inter_cons _ _ (by simp), inter_cons _ _ (by simp), ih]; simp
theorem cut_tail (a b : List Nat) (hb : 1 ≤ b.length) : cutS (mkS (a ++ b)) none (some (-(b.length : Int))) = mkS a := by
  unfold cutS
  rw [pick_plain, mkS_list]
  have h2 : clipAt (a ++ b).length (-(b.length : Int)) = a.length := by
    unfold clipAt
    simp only [List.length_append]
    split <;> omega
  simp only [Option.elim, h2]
  rw [List.drop_zero, Nat.sub_zero, List.take_left]; rfl
/-- a last row that rstrip leaves -/
noncomputable def Solid (l : List Nat) : Prop := l = [] ∨ ∃ a k, l = a ++ [k] ∧ 33 ≤ k ∧ k < 127
theorem nospace : ∀ k, k < 127 → 33 ≤ k → Unicode.isSpace k = false := by decide +kernel
theorem Solid.ns {l : List Nat} (h : Solid l) : l = [] ∨ ∃ a k, l = a ++ [k] ∧ Unicode.isSpace k = false := by
  rcases h with h | ⟨a, k, e, h1, h2⟩
  · exact .inl h
  · exact .inr ⟨a, k, e, nospace k h2 h1⟩
structure RowsG (init : List (List Tk)) (last : List Tk) : Prop where
  few : init.length ≤ 8
  ok : ∀ r ∈ init, r.length ≤ 9 ∧ ∀ p ∈ r, TkG p
  okL : last.length ≤ 9 ∧ ∀ p ∈ last, TkG p
  solid : Solid (toksT last)
structure SpOK (sp : List Nat) : Prop where
  space : ∀ x ∈ sp, Unicode.isSpace x = true
  nb : NoBr sp
  len : sp.length ≤ 2
noncomputable def softLn (sp : List Nat) (r : List Tk) : Ln := ⟨mkS (toksT r ++ [61] ++ sp), r, true⟩
noncomputable def hardLn (sp : List Nat) (r : List Tk) : Ln := ⟨mkS (toksT r ++ sp), r, false⟩
theorem soft_ok {sp : List Nat} (hsp : SpOK sp) {r : List Tk} (h : r.length ≤ 9 ∧ ∀ p ∈ r, TkG p) : LnOK (softLn sp r) where
  strip := rstrip_mk _ sp hsp.space (.inr ⟨toksT r, 61, rfl, nospace 61 (by omega) (by omega)⟩)
  ok := fun p hp => (h.2 p hp).ok
  raw := by
    have := toksT_le r; have := h.1; have := hsp.len
    show (mkS (toksT r ++ [61] ++ sp)).length ≤ _
    rw [mkS_len]; simp only [List.length_append, List.length_singleton]; omega
  few := by have := h.1; show r.length ≤ _; omega
  txt := by
    have := toksT_le r; have := h.1
    show (toksT r ++ [61]).length ≤ _
    simp only [List.length_append, List.length_singleton]; omega
theorem hard_ok {sp : List Nat} (hsp : SpOK sp) {r : List Tk} (h : r.length ≤ 9 ∧ ∀ p ∈ r, TkG p) (hs : Solid (toksT r)) : LnOK (hardLn sp r) where
  strip := by
    show Txt.rstrip (mkS (toksT r ++ sp)) = mkS (toksT r ++ [])
    rw [List.append_nil]
    exact rstrip_mk _ sp hsp.space hs.ns
  ok := fun p hp => (h.2 p hp).ok
  raw := by
    have := toksT_le r; have := h.1; have := hsp.len
    show (mkS (toksT r ++ sp)).length ≤ _
    rw [mkS_len]; simp only [List.length_append]; omega
  few := by have := h.1; show r.length ≤ _; omega
  txt := by
    have := toksT_le r; have := h.1
    show (toksT r ++ []).length ≤ _
    rw [List.append_nil]; omega
theorem nobr_app {a b : List Nat} (h : NoBr a) (k : NoBr b) : NoBr (a ++ b) := fun x hx => by
  rcases List.mem_append.mp hx with hx | hx
  · exact h x hx
  · exact k x hx
theorem nobr61 : NoBr [61] := fun x hx => by rw [List.mem_singleton.mp hx]; decide +kernel
theorem el_nl {el : List Nat} (h : EolOK el) (r : List Nat) : NlOK el r := by
  rcases h with rfl | rfl
  · exact .inl rfl
  · exact .inr (.inl rfl)
theorem psOK_all {el z : List Nat} (h : EolOK el) (hz : NoBr z) : ∀ ps : List (List Nat), (∀ c ∈ ps, NoBr c) → PsOK (ps.map fun c => (c, el)) z
  | [], _ => hz
  | c :: ps, hc => ⟨hc c List.mem_cons_self, el_nl h _, psOK_all h hz ps fun x hx => hc x (List.mem_cons_of_mem _ hx)⟩
noncomputable def octs (init : List (List Tk)) (last : List Tk) : List Nat := (init.flatMap fun r => r.map (·.1)) ++ last.map (·.1)
theorem read_soft (eol sp : List Nat) : ∀ init : List (List Tk), readAll eol (init.map (softLn sp)) = init.flatMap fun r => r.map (·.1)
  | [] => rfl
  | r :: init => by
    have ih := read_soft eol sp init
    unfold readAll at *
    rw [List.map_cons, List.flatMap_cons, ih, List.flatMap_cons]
    show (r.map (·.1) ++ []) ++ _ = _
    rw [List.append_nil]
theorem textP_len (el : List Nat) (B : Nat) (z : List Nat) (hz : z.length ≤ B) (hel : el.length ≤ 2) : ∀ ps : List (List Nat), (∀ c ∈ ps, c.length ≤ B) → (textP (ps.map fun c => (c, el)) z).length ≤ (ps.length + 1) * (B + 2)
  | [], _ => by simp [textP]; omega
  | c :: ps, h => by
    have ih := textP_len el B z hz hel ps fun x hx => h x (List.mem_cons_of_mem _ hx)
    have := h c List.mem_cons_self
    rw [List.map_cons, textP_cons, List.length_append, List.length_append, List.length_cons, Nat.succ_mul (ps.length + 1)]
    show c.length + (el.length + _) ≤ _
    omega
theorem flat_le : ∀ init : List (List Tk), (∀ r ∈ init, r.length ≤ 9) → (init.flatMap fun r => r.map (·.1)).length ≤ 9 * init.length
  | [], _ => by simp
  | r :: init, h => by
    have := flat_le init fun x hx => h x (List.mem_cons_of_mem _ hx)
    have := h r List.mem_cons_self
    rw [List.flatMap_cons, List.length_append, List.length_map, List.length_cons]; omega
section
variable {c : Cx} {n : Nat}
noncomputable def psT (sp : List Nat) (init : List (List Tk)) (last : List Tk) : List (List Nat) := init.map (fun r => toksT r ++ [61] ++ sp) ++ [toksT last ++ sp]
noncomputable def psN (sp : List Nat) (init : List (List Tk)) : List (List Nat) := init.map (fun r => toksT r ++ [61] ++ sp)
theorem dec_tail (T : Tops c) (HX : Gs c "hexdigits" hexD) (uv : Value) (U : GFn c "unquote" uv) (fu : ∀ k, k < 256 → Fn c n uv [.str (escS k)] (.str (chS k))) {init : List (List Tk)} {last : List Tk} (G : RowsG init last) {el sp eolD : List Nat} (hel : EolOK el) (hsp : SpOK sp) (he : eolD.length ≤ 2) :
    Exs c n (fS 21) (Cells 21) none (upds (fun _ => none) ["encoded", "eol"] [.str (mkS (textP ((psT sp init last).map fun c => (c, el)) [])), .str (mkS eolD)]) [] (fB 21) (.ret (.str (mkS (octs init last ++ eolD)))) := by
  have hell : el.length ≤ 2 := by rcases hel with rfl | rfl <;> simp
  have hel1 : 1 ≤ el.length := by rcases hel with rfl | rfl <;> simp
  have hfl := flat_le init fun r hr => (G.ok r hr).1
  have hlast : lastK (mkS (textP ((psT sp init last).map fun c => (c, el)) [])) = 10 := by
    unfold lastK psT
    rw [mkS_list]
    unfold textP
    rw [List.map_append, List.flatMap_append, List.append_nil]
    show (_ ++ ((toksT last ++ sp ++ el) ++ [])).getLastD 0 = 10
    rw [List.append_nil, lastD_app _ _ (by intro q; have := congrArg List.length q; simp only [List.length_append, List.length_nil] at this; omega), lastD_app _ _ (by intro q; rw [q] at hel1; simp at hel1)]
    rcases hel with rfl | rfl <;> rfl
  have hps : ∀ x ∈ psT sp init last, NoBr x ∧ x.length ≤ 30 := by
    intro x hx
    unfold psT at hx
    have := hsp.len
    rcases List.mem_append.mp hx with hx | hx
    · obtain ⟨r, hr, rfl⟩ := List.mem_map.mp hx
      have := toksT_le r; have := (G.ok r hr).1
      exact ⟨nobr_app (nobr_app (toksT_nobr (G.ok r hr).2) nobr61) hsp.nb, by simp only [List.length_append, List.length_singleton]; omega⟩
    · rw [List.mem_singleton.mp hx]
      have := toksT_le last; have := G.okL.1
      exact ⟨nobr_app (toksT_nobr G.okL.2) hsp.nb, by simp only [List.length_append]; omega⟩
  have hlen := textP_len el 30 [] (by simp) hell (psT sp init last) fun x hx => (hps x hx).2
  have hpl : (psT sp init last).length ≤ 9 := by unfold psT; rw [List.length_append, List.length_map]; have := G.few; simp; omega
  have hlen2 : (textP ((psT sp init last).map fun c => (c, el)) []).length ≤ 10000 := Nat.le_trans hlen (by have := Nat.mul_le_mul_right 32 (show (psT sp init last).length + 1 ≤ 10 by omega); omega)
  have hrd : readAll eolD (init.map (softLn sp) ++ [hardLn sp last]) = octs init last ++ eolD := by
    unfold readAll
    rw [List.flatMap_append]
    have := read_soft eolD sp init
    unfold readAll at this
    rw [this]
    show _ ++ ((last.map (·.1) ++ eolD) ++ []) = _
    unfold octs
    rw [List.append_nil, List.append_assoc]
  have hout : decOut (mkS (textP ((psT sp init last).map fun c => (c, el)) [])) eolD (readAll eolD (init.map (softLn sp) ++ [hardLn sp last])) = mkS (octs init last ++ eolD) := by
    unfold decOut
    rw [hlast, hrd]; rfl
  rw [← hout]
  refine x_decode T HX uv U fu (mkS (textP ((psT sp init last).map fun c => (c, el)) [])) eolD (by omega) (init.map (softLn sp) ++ [hardLn sp last]) ?_ ?_ ?_ ?_ ?_ ?_
  · rw [mkS_len]
    intro q
    have hz := List.length_eq_zero_iff.mp q
    rw [hz] at hlast
    have : (0 : Nat) = 10 := hlast
    omega
  · rw [mkS_len]; exact hlen2
  · exact cuts_few _ (by rw [mkS_len]; exact hlen2)
  · rw [lines_of (psOK_all hel (fun x hx => by cases hx) _ fun x hx => (hps x hx).1), if_pos rfl, List.append_nil, List.map_map, List.map_append, List.map_map]
    unfold psT
    rw [List.map_append, List.map_map]; rfl
  · intro l hl
    rcases List.mem_append.mp hl with hl | hl
    · obtain ⟨r, hr, rfl⟩ := List.mem_map.mp hl
      exact soft_ok hsp (G.ok r hr)
    · rw [List.mem_singleton.mp hl]; exact hard_ok hsp G.okL G.solid
  · rw [hrd]
    unfold octs
    have := G.okL.1; have := G.few
    simp only [List.length_append, List.length_map]; omega
theorem dec_none (T : Tops c) (HX : Gs c "hexdigits" hexD) (uv : Value) (U : GFn c "unquote" uv) (fu : ∀ k, k < 256 → Fn c n uv [.str (escS k)] (.str (chS k))) {init : List (List Tk)} {last : List Tk} (G : RowsG init last) {el sp eolD : List Nat} (hel : EolOK el) (hsp : SpOK sp) (he : eolD.length ≤ 2) (he1 : 1 ≤ eolD.length) (hne : init ≠ [] ∨ last ≠ []) :
    Exs c n (fS 21) (Cells 21) none (upds (fun _ => none) ["encoded", "eol"] [.str (mkS (textP ((psN sp init).map fun c => (c, el)) (toksT last))), .str (mkS eolD)]) [] (fB 21) (.ret (.str (mkS (octs init last)))) := by
  have hell : el.length ≤ 2 := by rcases hel with rfl | rfl <;> simp
  have hel1 : 1 ≤ el.length := by rcases hel with rfl | rfl <;> simp
  have hfl := flat_le init fun r hr => (G.ok r hr).1
  have htl := toksT_le last
  have hokL := G.okL.1
  have hfew := G.few
  have hps : ∀ x ∈ psN sp init, NoBr x ∧ x.length ≤ 30 := by
    intro x hx
    unfold psN at hx
    have := hsp.len
    obtain ⟨r, hr, rfl⟩ := List.mem_map.mp hx
    have := toksT_le r; have := (G.ok r hr).1
    exact ⟨nobr_app (nobr_app (toksT_nobr (G.ok r hr).2) nobr61) hsp.nb, by simp only [List.length_append, List.length_singleton]; omega⟩
  have hlen := textP_len el 30 (toksT last) (by omega) hell (psN sp init) fun x hx => (hps x hx).2
  have hpl : (psN sp init).length ≤ 8 := by unfold psN; rw [List.length_map]; exact hfew
  have hlen2 : (textP ((psN sp init).map fun c => (c, el)) (toksT last)).length ≤ 10000 := Nat.le_trans hlen (by have := Nat.mul_le_mul_right 32 (show (psN sp init).length + 1 ≤ 9 by omega); omega)
  have hraw : ∀ ls : List Ln, linesOf (mkS (textP ((psN sp init).map fun c => (c, el)) (toksT last))) = (init.map (softLn sp)).map (·.raw) ++ if toksT last = [] then [] else [mkS (toksT last)] := fun _ => by
    rw [lines_of (psOK_all hel (toksT_nobr G.okL.2) _ fun x hx => (hps x hx).1), List.map_map, List.map_map]
    unfold psN
    rw [List.map_map]; rfl
  have hln0 : (toksT last = []) → last = [] := fun q => by
    match last, q with
    | [], _ => rfl
    | p :: r, q =>
      have := congrArg List.length q
      rw [toksT_cons, List.length_append, tokT_len] at this
      simp only [List.length_nil] at this
      split at this <;> omega
  by_cases hl : toksT last = []
  · have hl' := hln0 hl
    have hi : init ≠ [] := hne.elim id fun h => absurd hl' h
    have hlast : lastK (mkS (textP ((psN sp init).map fun c => (c, el)) (toksT last))) = 10 := by
      unfold lastK
      rw [mkS_list, hl]
      unfold textP psN
      rw [List.append_nil, ← List.dropLast_concat_getLast hi, List.map_append, List.map_append, List.flatMap_append]
      show (_ ++ ((_ ++ el) ++ [])).getLastD 0 = 10
      have hnn : el ≠ [] := by intro q; rw [q] at hel1; simp at hel1
      rw [List.append_nil, lastD_app _ _ (by intro q; exact hnn (List.append_eq_nil_iff.mp q).2), lastD_app _ _ hnn]
      rcases hel with rfl | rfl <;> rfl
    have hrd : readAll eolD (init.map (softLn sp)) = octs init last := by
      rw [read_soft]; unfold octs; rw [hl']; simp
    have hout : decOut (mkS (textP ((psN sp init).map fun c => (c, el)) (toksT last))) eolD (readAll eolD (init.map (softLn sp))) = mkS (octs init last) := by
      unfold decOut
      rw [hlast, hrd]; rfl
    rw [← hout]
    refine x_decode T HX uv U fu _ eolD (by omega) (init.map (softLn sp)) ?_ ?_ ?_ ?_ ?_ ?_
    · rw [mkS_len]
      intro q
      have hz := List.length_eq_zero_iff.mp q
      rw [hz] at hlast
      have : (0 : Nat) = 10 := hlast
      omega
    · rw [mkS_len]; exact hlen2
    · exact cuts_few _ (by rw [mkS_len]; exact hlen2)
    · rw [hraw [], if_pos hl, List.append_nil]
    · intro l hl
      obtain ⟨r, hr, rfl⟩ := List.mem_map.mp hl
      exact soft_ok hsp (G.ok r hr)
    · rw [hrd]
      unfold octs
      simp only [List.length_append, List.length_map]; omega
  · obtain ⟨a, k, ek, k1, k2⟩ : ∃ a k, toksT last = a ++ [k] ∧ 33 ≤ k ∧ k < 127 := by
      rcases G.solid with h | h
      · exact absurd h hl
      · exact h
    have hlast : lastK (mkS (textP ((psN sp init).map fun c => (c, el)) (toksT last))) = k := by
      unfold lastK
      rw [mkS_list]
      unfold textP
      rw [lastD_app _ _ hl, ek, lastD_app _ _ (by simp)]; rfl
    have hsp0 : SpOK [] := ⟨fun x hx => (by cases hx), fun x hx => (by cases hx), by simp⟩
    have hrd : readAll eolD (init.map (softLn sp) ++ [hardLn [] last]) = octs init last ++ eolD := by
      unfold readAll
      rw [List.flatMap_append]
      have := read_soft eolD sp init
      unfold readAll at this
      rw [this]
      show _ ++ ((last.map (·.1) ++ eolD) ++ []) = _
      unfold octs
      rw [List.append_nil, List.append_assoc]
    have hout : decOut (mkS (textP ((psN sp init).map fun c => (c, el)) (toksT last))) eolD (readAll eolD (init.map (softLn sp) ++ [hardLn [] last])) = mkS (octs init last) := by
      unfold decOut
      rw [hlast, hrd, ends_mk, cut_tail _ _ he1]
      have a1 : (k == 13) = false := beq_eq_false_iff_ne.mpr (by omega)
      have a2 : (k == 10) = false := beq_eq_false_iff_ne.mpr (by omega)
      rw [a1, a2]; rfl
    rw [← hout]
    refine x_decode T HX uv U fu _ eolD (by omega) (init.map (softLn sp) ++ [hardLn [] last]) ?_ ?_ ?_ ?_ ?_ ?_
    · rw [mkS_len]
      intro q
      have hz := List.length_eq_zero_iff.mp q
      rw [hz] at hlast
      have : (0 : Nat) = k := hlast
      omega
    · rw [mkS_len]; exact hlen2
    · exact cuts_few _ (by rw [mkS_len]; exact hlen2)
    · rw [hraw [], if_neg hl, List.map_append]
      show _ ++ [mkS (toksT last)] = _ ++ [mkS (toksT last ++ [])]
      rw [List.append_nil]
    · intro l hl
      rcases List.mem_append.mp hl with hl | hl
      · obtain ⟨r, hr, rfl⟩ := List.mem_map.mp hl
        exact soft_ok hsp (G.ok r hr)
      · rw [List.mem_singleton.mp hl]; exact hard_ok hsp0 G.okL G.solid
    · rw [hrd]
      unfold octs
      simp only [List.length_append, List.length_map]; omega
end
end Qp
namespace Qp
open PySem PySem.Calls PyProof.Rows PySem.W
noncomputable abbrev pg : Program := PySem.Challenge.pw_rs0126_01
noncomputable def stA : Stmt → Arguments
  | .FunctionDef _ a _ _ _ _ _ _ _ _ => a
  | _ => default
noncomputable def fA (i : Nat) : Arguments := stA (top i)
noncomputable def itE (k : Nat) : Value := .str (escS k) (197 + 4 * k)
noncomputable def itC (k t : Nat) : Value := .str (chS k) t
noncomputable def deS (P : Params) (x : Str) (t : Nat) (v : Value) : DictEntry := ⟨PyData.keyHash P x, .str x t, v⟩
noncomputable def gObj (_P : Params) (l : List DictEntry) (n : Nat) : Obj := Obj.mk (Value.type "dict") none (Data.dict l.toArray n) #[]
noncomputable def hb11_0 (P : Params) : Obj := Obj.mk (Value.type "tuple") none (Data.seq #[]) #[]
noncomputable def hb12_0 (P : Params) : Obj := Obj.mk Value.none none (Data.fields #[]) #[]
noncomputable def hb13_0 (P : Params) : Obj := Obj.mk (Value.type "code") none (Data.fields #[Value.str (Str.ofString "<module>") 182, Value.str (Str.ofString "<module>") 183, Value.str (Str.ofString "/claim/cut.py") 184, Value.int 1 0, Value.int 0 0, Value.int 0 0, Value.int 0 0, Value.int 0 0, Value.ref 11, Value.bool false, Value.int 181 0, Value.ref 12, Value.none, Value.none, Value.none, Value.none, Value.int 185 0, Value.int 1 0, Value.str (Str.ofString "/claim/cut.py") 186]) #[]
noncomputable def hb14_0 (P : Params) : Obj := Obj.mk (Value.type "frame") none Data.plain #[some (Value.ref 13), some (Value.ref 3), some (Value.ref 3), none, some (Value.str (Str.ofString "__main__") 164), none, some (Value.ref 0)]
noncomputable def T0 (P : Params) (os : OsState) : SharedT := ⟨BT.node (boot_o_0 P) (BT.node (boot_o_1 P) (BT.node (boot_o_3 P) (BT.node (boot_o_7 P) BT.nil BT.nil) (BT.node (hb11_0 P) BT.nil BT.nil)) (BT.node (boot_o_5 P) (BT.node (boot_o_9 P) BT.nil BT.nil) (BT.node (hb13_0 P) BT.nil BT.nil))) (BT.node (boot_o_2 P) (BT.node (boot_o_4 P) (BT.node (boot_o_8 P) BT.nil BT.nil) (BT.node (hb12_0 P) BT.nil BT.nil)) (BT.node (boot_o_6 P) (BT.node (boot_o_10 P) BT.nil BT.nil) (BT.node (hb14_0 P) BT.nil BT.nil))), 15, {}, Array.mk [], boot_drawn, 187, os⟩
noncomputable def ge0 (P : Params) : DictEntry := deS P (Str.ofString "__name__") 165 (Value.str (Str.ofString "__main__") 164)
noncomputable def ge1 (P : Params) : DictEntry := deS P (Str.ofString "__doc__") 166 Value.none
noncomputable def ge2 (P : Params) : DictEntry := deS P (Str.ofString "__package__") 167 Value.none
noncomputable def ge3 (P : Params) : DictEntry := deS P (Str.ofString "__loader__") 168 (Value.builtin "__main__.__loader__#opaque")
noncomputable def ge4 (P : Params) : DictEntry := deS P (Str.ofString "__spec__") 169 Value.none
noncomputable def ge5 (P : Params) : DictEntry := deS P (Str.ofString "__annotations__") 170 (Value.ref 6)
noncomputable def ge6 (P : Params) : DictEntry := deS P (Str.ofString "__builtins__") 171 (Value.ref 4)
noncomputable def ge7 (P : Params) : DictEntry := deS P (Str.ofString "__file__") 173 (Value.str (Str.ofString "/claim/cut.py") 172)
noncomputable def ge8 (P : Params) : DictEntry := deS P (Str.ofString "__cached__") 174 Value.none
noncomputable def ge9 (P : Params) : DictEntry := deS P (Str.ofString "CRLF") 188 (Value.str (Str.ofString "\x0d\n") 187)
noncomputable def ge10 (P : Params) : DictEntry := deS P (Str.ofString "NL") 190 (Value.str (Str.ofString "\n") 189)
noncomputable def hb3_0 (P : Params) : Obj := gObj P [ge0 P, ge1 P, ge2 P, ge3 P, ge4 P, ge5 P, ge6 P, ge7 P, ge8 P, ge9 P, ge10 P] 11
noncomputable def T2 (P : Params) (os : OsState) : SharedT := ⟨BT.node (boot_o_0 P) (BT.node (boot_o_1 P) (BT.node (hb3_0 P) (BT.node (boot_o_7 P) BT.nil BT.nil) (BT.node (hb11_0 P) BT.nil BT.nil)) (BT.node (boot_o_5 P) (BT.node (boot_o_9 P) BT.nil BT.nil) (BT.node (hb13_0 P) BT.nil BT.nil))) (BT.node (boot_o_2 P) (BT.node (boot_o_4 P) (BT.node (boot_o_8 P) BT.nil BT.nil) (BT.node (hb12_0 P) BT.nil BT.nil)) (BT.node (boot_o_6 P) (BT.node (boot_o_10 P) BT.nil BT.nil) (BT.node (hb14_0 P) BT.nil BT.nil))), 15, {}, Array.mk [], boot_drawn, 191, os⟩
noncomputable def hb15_0 (P : Params) : Obj := Obj.mk (Value.type "range") none (Data.fields #[Value.int 0 192, Value.int 256 191, Value.int 1 193]) #[]
noncomputable def cIt (i : Nat) : Obj := Obj.mk (Value.type "range_iterator") none (Data.fields #[Value.int (i : Int) 0, Value.int ((256 - i : Nat) : Int) 0, Value.int 1 0]) #[]
noncomputable def cLs (i : Nat) : Obj := Obj.mk (Value.type "list") none (Data.seq (List.toArray ((List.range i).map itE)) i) #[]
noncomputable def cDc (P : Params) (i : Nat) : Obj := Obj.mk (Value.type "dict") none (Data.dict #[deS P (Str.ofString "c") 195 (Value.int ((i - 1 : Nat) : Int) (190 + 4 * i))] 1) #[]
noncomputable def TC (i : Nat) (P : Params) (os : OsState) : SharedT := ⟨BT.node (boot_o_0 P) (BT.node (boot_o_1 P) (BT.node (hb3_0 P) (BT.node (boot_o_7 P) (BT.node (hb15_0 P) BT.nil BT.nil) (BT.nil)) (BT.node (hb11_0 P) BT.nil BT.nil)) (BT.node (boot_o_5 P) (BT.node (boot_o_9 P) (BT.node (cLs i) BT.nil BT.nil) (BT.nil)) (BT.node (hb13_0 P) BT.nil BT.nil))) (BT.node (boot_o_2 P) (BT.node (boot_o_4 P) (BT.node (boot_o_8 P) (BT.node (cIt i) BT.nil BT.nil) (BT.nil)) (BT.node (hb12_0 P) BT.nil BT.nil)) (BT.node (boot_o_6 P) (BT.node (boot_o_10 P) (BT.node (cDc P i) BT.nil BT.nil) (BT.nil)) (BT.node (hb14_0 P) BT.nil BT.nil))), 19, {}, Array.mk [], boot_drawn, 194 + 4 * i, os⟩
noncomputable def ge11 (P : Params) : DictEntry := deS P (Str.ofString "__name__") 165 (Value.str (Str.ofString "cpy313.email.quoprimime") 1234)
noncomputable def ge12 (P : Params) : DictEntry := deS P (Str.ofString "_QUOPRI_MAP") 1218 (Value.ref 17)
noncomputable def ge13 (P : Params) : DictEntry := deS P (Str.ofString "_QUOPRI_HEADER_MAP") 1219 (Value.ref 22)
noncomputable def ge14 (P : Params) : DictEntry := deS P (Str.ofString "_QUOPRI_BODY_MAP") 1220 (Value.ref 24)
noncomputable def ge15 (P : Params) : DictEntry := deS P (Str.ofString "ascii_lowercase") 1222 (Value.str (Str.ofString "abcdefghijklmnopqrstuvwxyz") 1221)
noncomputable def ge16 (P : Params) : DictEntry := deS P (Str.ofString "ascii_uppercase") 1224 (Value.str (Str.ofString "ABCDEFGHIJKLMNOPQRSTUVWXYZ") 1223)
noncomputable def ge17 (P : Params) : DictEntry := deS P (Str.ofString "ascii_letters") 1226 (Value.str (Str.ofString "abcdefghijklmnopqrstuvwxyzABCDEFGHIJKLMNOPQRSTUVWXYZ") 1225)
noncomputable def ge18 (P : Params) : DictEntry := deS P (Str.ofString "digits") 1228 (Value.str (Str.ofString "0123456789") 1227)
noncomputable def ge19 (P : Params) : DictEntry := deS P (Str.ofString "hexdigits") 1233 (Value.str (Str.ofString "0123456789abcdefABCDEF") 1232)
noncomputable def hb3_1 (P : Params) : Obj := gObj P [ge11 P, ge1 P, ge2 P, ge3 P, ge4 P, ge5 P, ge6 P, ge7 P, ge8 P, ge9 P, ge10 P, ge12 P, ge13 P, ge14 P, ge15 P, ge16 P, ge17 P, ge18 P, ge19 P] 19
noncomputable def hb16_0 (P : Params) : Obj := Obj.mk (Value.type "range_iterator") none (Data.fields #[Value.int 256 0, Value.int 0 0, Value.int 1 0]) #[]
noncomputable def hb17_0 (P : Params) : Obj := Obj.mk (Value.type "list") none (Data.seq (List.toArray ((List.range 256).map itE)) 256) #[]
noncomputable def hb18_0 (P : Params) : Obj := Obj.mk (Value.type "dict") none (Data.dict #[] 2) #[]
noncomputable def hb19_0 (P : Params) : Obj := Obj.mk (Value.type "tuple") none (Data.seq #[]) #[]
noncomputable def hb20_0 (P : Params) : Obj := Obj.mk (Value.type "StopIteration") none (Data.fields #[Value.ref 19, Value.none, Value.none, Value.none, Value.bool false, Value.none]) #[]
noncomputable def hb21_0 (P : Params) : Obj := Obj.mk (Value.type "slice") none (Data.fields #[Value.none, Value.none, Value.none]) #[]
noncomputable def hb22_0 (P : Params) : Obj := Obj.mk (Value.type "list") none (Data.seq (List.toArray ((List.range 256).map itE)) 0) #[]
noncomputable def hb23_0 (P : Params) : Obj := Obj.mk (Value.type "slice") none (Data.fields #[Value.none, Value.none, Value.none]) #[]
noncomputable def hb24_0 (P : Params) : Obj := Obj.mk (Value.type "list") none (Data.seq (List.toArray ((List.range 256).map itE)) 0) #[]
noncomputable def T11 (P : Params) (os : OsState) : SharedT := ⟨BT.node (boot_o_0 P) (BT.node (boot_o_1 P) (BT.node (hb3_1 P) (BT.node (boot_o_7 P) (BT.node (hb15_0 P) BT.nil BT.nil) (BT.node (hb23_0 P) BT.nil BT.nil)) (BT.node (hb11_0 P) (BT.node (hb19_0 P) BT.nil BT.nil) (BT.nil))) (BT.node (boot_o_5 P) (BT.node (boot_o_9 P) (BT.node (hb17_0 P) BT.nil BT.nil) (BT.nil)) (BT.node (hb13_0 P) (BT.node (hb21_0 P) BT.nil BT.nil) (BT.nil)))) (BT.node (boot_o_2 P) (BT.node (boot_o_4 P) (BT.node (boot_o_8 P) (BT.node (hb16_0 P) BT.nil BT.nil) (BT.node (hb24_0 P) BT.nil BT.nil)) (BT.node (hb12_0 P) (BT.node (hb20_0 P) BT.nil BT.nil) (BT.nil))) (BT.node (boot_o_6 P) (BT.node (boot_o_10 P) (BT.node (hb18_0 P) BT.nil BT.nil) (BT.nil)) (BT.node (hb14_0 P) (BT.node (hb22_0 P) BT.nil BT.nil) (BT.nil)))), 25, {}, Array.mk [], boot_drawn, 1236, os⟩
noncomputable def ge20 (P : Params) : DictEntry := deS P (Str.ofString "c") 1244 (Value.int 45 1243)
noncomputable def hb3_2 (P : Params) : Obj := gObj P [ge11 P, ge1 P, ge2 P, ge3 P, ge4 P, ge5 P, ge6 P, ge7 P, ge8 P, ge9 P, ge10 P, ge12 P, ge13 P, ge14 P, ge15 P, ge16 P, ge17 P, ge18 P, ge19 P, ge20 P] 20
noncomputable def hb22_1 (P : Params) : Obj := Obj.mk (Value.type "list") none (Data.seq (List.toArray [itE 0, itE 1, itE 2, itE 3, itE 4, itE 5, itE 6, itE 7, itE 8, itE 9, itE 10, itE 11, itE 12, itE 13, itE 14, itE 15, itE 16, itE 17, itE 18, itE 19, itE 20, itE 21, itE 22, itE 23, itE 24, itE 25, itE 26, itE 27, itE 28, itE 29, itE 30, itE 31, itE 32, itE 33, itE 34, itE 35, itE 36, itE 37, itE 38, itE 39, itE 40, itE 41, itE 42, itE 43, itE 44, itC 45 1245, itE 46, itE 47, itE 48, itE 49, itE 50, itE 51, itE 52, itE 53, itE 54, itE 55, itE 56, itE 57, itE 58, itE 59, itE 60, itE 61, itE 62, itE 63, itE 64, itE 65, itE 66, itE 67, itE 68, itE 69, itE 70, itE 71, itE 72, itE 73, itE 74, itE 75, itE 76, itE 77, itE 78, itE 79, itE 80, itE 81, itE 82, itE 83, itE 84, itE 85, itE 86, itE 87, itE 88, itE 89, itE 90, itE 91, itE 92, itE 93, itE 94, itE 95, itE 96, itE 97, itE 98, itE 99, itE 100, itE 101, itE 102, itE 103, itE 104, itE 105, itE 106, itE 107, itE 108, itE 109, itE 110, itE 111, itE 112, itE 113, itE 114, itE 115, itE 116, itE 117, itE 118, itE 119, itE 120, itE 121, itE 122, itE 123, itE 124, itE 125, itE 126, itE 127, itE 128, itE 129, itE 130, itE 131, itE 132, itE 133, itE 134, itE 135, itE 136, itE 137, itE 138, itE 139, itE 140, itE 141, itE 142, itE 143, itE 144, itE 145, itE 146, itE 147, itE 148, itE 149, itE 150, itE 151, itE 152, itE 153, itE 154, itE 155, itE 156, itE 157, itE 158, itE 159, itE 160, itE 161, itE 162, itE 163, itE 164, itE 165, itE 166, itE 167, itE 168, itE 169, itE 170, itE 171, itE 172, itE 173, itE 174, itE 175, itE 176, itE 177, itE 178, itE 179, itE 180, itE 181, itE 182, itE 183, itE 184, itE 185, itE 186, itE 187, itE 188, itE 189, itE 190, itE 191, itE 192, itE 193, itE 194, itE 195, itE 196, itE 197, itE 198, itE 199, itE 200, itE 201, itE 202, itE 203, itE 204, itE 205, itE 206, itE 207, itE 208, itE 209, itE 210, itE 211, itE 212, itE 213, itE 214, itE 215, itE 216, itE 217, itE 218, itE 219, itE 220, itE 221, itE 222, itE 223, itE 224, itE 225, itE 226, itE 227, itE 228, itE 229, itE 230, itE 231, itE 232, itE 233, itE 234, itE 235, itE 236, itE 237, itE 238, itE 239, itE 240, itE 241, itE 242, itE 243, itE 244, itE 245, itE 246, itE 247, itE 248, itE 249, itE 250, itE 251, itE 252, itE 253, itE 254, itE 255]) 0) #[]
noncomputable def hb25_0 (P : Params) : Obj := Obj.mk (Value.type "bytes_iterator") none (Data.fields #[Value.bytes #[45, 33, 42, 43, 47, 97, 98, 99, 100, 101, 102, 103, 104, 105, 106, 107, 108, 109, 110, 111, 112, 113, 114, 115, 116, 117, 118, 119, 120, 121, 122, 65, 66, 67, 68, 69, 70, 71, 72, 73, 74, 75, 76, 77, 78, 79, 80, 81, 82, 83, 84, 85, 86, 87, 88, 89, 90, 48, 49, 50, 51, 52, 53, 54, 55, 56, 57] 1242, Value.int 1 0]) #[]
noncomputable def A1 (P : Params) (os : OsState) : SharedT := ⟨BT.node (boot_o_0 P) (BT.node (boot_o_1 P) (BT.node (hb3_2 P) (BT.node (boot_o_7 P) (BT.node (hb15_0 P) BT.nil BT.nil) (BT.node (hb23_0 P) BT.nil BT.nil)) (BT.node (hb11_0 P) (BT.node (hb19_0 P) BT.nil BT.nil) (BT.nil))) (BT.node (boot_o_5 P) (BT.node (boot_o_9 P) (BT.node (hb17_0 P) BT.nil BT.nil) (BT.node (hb25_0 P) BT.nil BT.nil)) (BT.node (hb13_0 P) (BT.node (hb21_0 P) BT.nil BT.nil) (BT.nil)))) (BT.node (boot_o_2 P) (BT.node (boot_o_4 P) (BT.node (boot_o_8 P) (BT.node (hb16_0 P) BT.nil BT.nil) (BT.node (hb24_0 P) BT.nil BT.nil)) (BT.node (hb12_0 P) (BT.node (hb20_0 P) BT.nil BT.nil) (BT.nil))) (BT.node (boot_o_6 P) (BT.node (boot_o_10 P) (BT.node (hb18_0 P) BT.nil BT.nil) (BT.nil)) (BT.node (hb14_0 P) (BT.node (hb22_1 P) BT.nil BT.nil) (BT.nil)))), 26, {}, Array.mk [], boot_drawn, 1246, os⟩
noncomputable def ge21 (P : Params) : DictEntry := deS P (Str.ofString "c") 1244 (Value.int 114 1309)
noncomputable def hb3_3 (P : Params) : Obj := gObj P [ge11 P, ge1 P, ge2 P, ge3 P, ge4 P, ge5 P, ge6 P, ge7 P, ge8 P, ge9 P, ge10 P, ge12 P, ge13 P, ge14 P, ge15 P, ge16 P, ge17 P, ge18 P, ge19 P, ge21 P] 20
noncomputable def hb22_2 (P : Params) : Obj := Obj.mk (Value.type "list") none (Data.seq (List.toArray [itE 0, itE 1, itE 2, itE 3, itE 4, itE 5, itE 6, itE 7, itE 8, itE 9, itE 10, itE 11, itE 12, itE 13, itE 14, itE 15, itE 16, itE 17, itE 18, itE 19, itE 20, itE 21, itE 22, itE 23, itE 24, itE 25, itE 26, itE 27, itE 28, itE 29, itE 30, itE 31, itE 32, itC 33 1248, itE 34, itE 35, itE 36, itE 37, itE 38, itE 39, itE 40, itE 41, itC 42 1251, itC 43 1254, itE 44, itC 45 1245, itE 46, itC 47 1257, itE 48, itE 49, itE 50, itE 51, itE 52, itE 53, itE 54, itE 55, itE 56, itE 57, itE 58, itE 59, itE 60, itE 61, itE 62, itE 63, itE 64, itE 65, itE 66, itE 67, itE 68, itE 69, itE 70, itE 71, itE 72, itE 73, itE 74, itE 75, itE 76, itE 77, itE 78, itE 79, itE 80, itE 81, itE 82, itE 83, itE 84, itE 85, itE 86, itE 87, itE 88, itE 89, itE 90, itE 91, itE 92, itE 93, itE 94, itE 95, itE 96, itC 97 1260, itC 98 1263, itC 99 1266, itC 100 1269, itC 101 1272, itC 102 1275, itC 103 1278, itC 104 1281, itC 105 1284, itC 106 1287, itC 107 1290, itC 108 1293, itC 109 1296, itC 110 1299, itC 111 1302, itC 112 1305, itC 113 1308, itC 114 1311, itE 115, itE 116, itE 117, itE 118, itE 119, itE 120, itE 121, itE 122, itE 123, itE 124, itE 125, itE 126, itE 127, itE 128, itE 129, itE 130, itE 131, itE 132, itE 133, itE 134, itE 135, itE 136, itE 137, itE 138, itE 139, itE 140, itE 141, itE 142, itE 143, itE 144, itE 145, itE 146, itE 147, itE 148, itE 149, itE 150, itE 151, itE 152, itE 153, itE 154, itE 155, itE 156, itE 157, itE 158, itE 159, itE 160, itE 161, itE 162, itE 163, itE 164, itE 165, itE 166, itE 167, itE 168, itE 169, itE 170, itE 171, itE 172, itE 173, itE 174, itE 175, itE 176, itE 177, itE 178, itE 179, itE 180, itE 181, itE 182, itE 183, itE 184, itE 185, itE 186, itE 187, itE 188, itE 189, itE 190, itE 191, itE 192, itE 193, itE 194, itE 195, itE 196, itE 197, itE 198, itE 199, itE 200, itE 201, itE 202, itE 203, itE 204, itE 205, itE 206, itE 207, itE 208, itE 209, itE 210, itE 211, itE 212, itE 213, itE 214, itE 215, itE 216, itE 217, itE 218, itE 219, itE 220, itE 221, itE 222, itE 223, itE 224, itE 225, itE 226, itE 227, itE 228, itE 229, itE 230, itE 231, itE 232, itE 233, itE 234, itE 235, itE 236, itE 237, itE 238, itE 239, itE 240, itE 241, itE 242, itE 243, itE 244, itE 245, itE 246, itE 247, itE 248, itE 249, itE 250, itE 251, itE 252, itE 253, itE 254, itE 255]) 0) #[]
noncomputable def hb25_1 (P : Params) : Obj := Obj.mk (Value.type "bytes_iterator") none (Data.fields #[Value.bytes #[45, 33, 42, 43, 47, 97, 98, 99, 100, 101, 102, 103, 104, 105, 106, 107, 108, 109, 110, 111, 112, 113, 114, 115, 116, 117, 118, 119, 120, 121, 122, 65, 66, 67, 68, 69, 70, 71, 72, 73, 74, 75, 76, 77, 78, 79, 80, 81, 82, 83, 84, 85, 86, 87, 88, 89, 90, 48, 49, 50, 51, 52, 53, 54, 55, 56, 57] 1242, Value.int 23 0]) #[]
noncomputable def A23 (P : Params) (os : OsState) : SharedT := ⟨BT.node (boot_o_0 P) (BT.node (boot_o_1 P) (BT.node (hb3_3 P) (BT.node (boot_o_7 P) (BT.node (hb15_0 P) BT.nil BT.nil) (BT.node (hb23_0 P) BT.nil BT.nil)) (BT.node (hb11_0 P) (BT.node (hb19_0 P) BT.nil BT.nil) (BT.nil))) (BT.node (boot_o_5 P) (BT.node (boot_o_9 P) (BT.node (hb17_0 P) BT.nil BT.nil) (BT.node (hb25_1 P) BT.nil BT.nil)) (BT.node (hb13_0 P) (BT.node (hb21_0 P) BT.nil BT.nil) (BT.nil)))) (BT.node (boot_o_2 P) (BT.node (boot_o_4 P) (BT.node (boot_o_8 P) (BT.node (hb16_0 P) BT.nil BT.nil) (BT.node (hb24_0 P) BT.nil BT.nil)) (BT.node (hb12_0 P) (BT.node (hb20_0 P) BT.nil BT.nil) (BT.nil))) (BT.node (boot_o_6 P) (BT.node (boot_o_10 P) (BT.node (hb18_0 P) BT.nil BT.nil) (BT.nil)) (BT.node (hb14_0 P) (BT.node (hb22_2 P) BT.nil BT.nil) (BT.nil)))), 26, {}, Array.mk [], boot_drawn, 1312, os⟩
noncomputable def ge22 (P : Params) : DictEntry := deS P (Str.ofString "c") 1244 (Value.int 78 1375)
noncomputable def hb3_4 (P : Params) : Obj := gObj P [ge11 P, ge1 P, ge2 P, ge3 P, ge4 P, ge5 P, ge6 P, ge7 P, ge8 P, ge9 P, ge10 P, ge12 P, ge13 P, ge14 P, ge15 P, ge16 P, ge17 P, ge18 P, ge19 P, ge22 P] 20
noncomputable def hb22_3 (P : Params) : Obj := Obj.mk (Value.type "list") none (Data.seq (List.toArray [itE 0, itE 1, itE 2, itE 3, itE 4, itE 5, itE 6, itE 7, itE 8, itE 9, itE 10, itE 11, itE 12, itE 13, itE 14, itE 15, itE 16, itE 17, itE 18, itE 19, itE 20, itE 21, itE 22, itE 23, itE 24, itE 25, itE 26, itE 27, itE 28, itE 29, itE 30, itE 31, itE 32, itC 33 1248, itE 34, itE 35, itE 36, itE 37, itE 38, itE 39, itE 40, itE 41, itC 42 1251, itC 43 1254, itE 44, itC 45 1245, itE 46, itC 47 1257, itE 48, itE 49, itE 50, itE 51, itE 52, itE 53, itE 54, itE 55, itE 56, itE 57, itE 58, itE 59, itE 60, itE 61, itE 62, itE 63, itE 64, itC 65 1338, itC 66 1341, itC 67 1344, itC 68 1347, itC 69 1350, itC 70 1353, itC 71 1356, itC 72 1359, itC 73 1362, itC 74 1365, itC 75 1368, itC 76 1371, itC 77 1374, itC 78 1377, itE 79, itE 80, itE 81, itE 82, itE 83, itE 84, itE 85, itE 86, itE 87, itE 88, itE 89, itE 90, itE 91, itE 92, itE 93, itE 94, itE 95, itE 96, itC 97 1260, itC 98 1263, itC 99 1266, itC 100 1269, itC 101 1272, itC 102 1275, itC 103 1278, itC 104 1281, itC 105 1284, itC 106 1287, itC 107 1290, itC 108 1293, itC 109 1296, itC 110 1299, itC 111 1302, itC 112 1305, itC 113 1308, itC 114 1311, itC 115 1314, itC 116 1317, itC 117 1320, itC 118 1323, itC 119 1326, itC 120 1329, itC 121 1332, itC 122 1335, itE 123, itE 124, itE 125, itE 126, itE 127, itE 128, itE 129, itE 130, itE 131, itE 132, itE 133, itE 134, itE 135, itE 136, itE 137, itE 138, itE 139, itE 140, itE 141, itE 142, itE 143, itE 144, itE 145, itE 146, itE 147, itE 148, itE 149, itE 150, itE 151, itE 152, itE 153, itE 154, itE 155, itE 156, itE 157, itE 158, itE 159, itE 160, itE 161, itE 162, itE 163, itE 164, itE 165, itE 166, itE 167, itE 168, itE 169, itE 170, itE 171, itE 172, itE 173, itE 174, itE 175, itE 176, itE 177, itE 178, itE 179, itE 180, itE 181, itE 182, itE 183, itE 184, itE 185, itE 186, itE 187, itE 188, itE 189, itE 190, itE 191, itE 192, itE 193, itE 194, itE 195, itE 196, itE 197, itE 198, itE 199, itE 200, itE 201, itE 202, itE 203, itE 204, itE 205, itE 206, itE 207, itE 208, itE 209, itE 210, itE 211, itE 212, itE 213, itE 214, itE 215, itE 216, itE 217, itE 218, itE 219, itE 220, itE 221, itE 222, itE 223, itE 224, itE 225, itE 226, itE 227, itE 228, itE 229, itE 230, itE 231, itE 232, itE 233, itE 234, itE 235, itE 236, itE 237, itE 238, itE 239, itE 240, itE 241, itE 242, itE 243, itE 244, itE 245, itE 246, itE 247, itE 248, itE 249, itE 250, itE 251, itE 252, itE 253, itE 254, itE 255]) 0) #[]
noncomputable def hb25_2 (P : Params) : Obj := Obj.mk (Value.type "bytes_iterator") none (Data.fields #[Value.bytes #[45, 33, 42, 43, 47, 97, 98, 99, 100, 101, 102, 103, 104, 105, 106, 107, 108, 109, 110, 111, 112, 113, 114, 115, 116, 117, 118, 119, 120, 121, 122, 65, 66, 67, 68, 69, 70, 71, 72, 73, 74, 75, 76, 77, 78, 79, 80, 81, 82, 83, 84, 85, 86, 87, 88, 89, 90, 48, 49, 50, 51, 52, 53, 54, 55, 56, 57] 1242, Value.int 45 0]) #[]
noncomputable def A45 (P : Params) (os : OsState) : SharedT := ⟨BT.node (boot_o_0 P) (BT.node (boot_o_1 P) (BT.node (hb3_4 P) (BT.node (boot_o_7 P) (BT.node (hb15_0 P) BT.nil BT.nil) (BT.node (hb23_0 P) BT.nil BT.nil)) (BT.node (hb11_0 P) (BT.node (hb19_0 P) BT.nil BT.nil) (BT.nil))) (BT.node (boot_o_5 P) (BT.node (boot_o_9 P) (BT.node (hb17_0 P) BT.nil BT.nil) (BT.node (hb25_2 P) BT.nil BT.nil)) (BT.node (hb13_0 P) (BT.node (hb21_0 P) BT.nil BT.nil) (BT.nil)))) (BT.node (boot_o_2 P) (BT.node (boot_o_4 P) (BT.node (boot_o_8 P) (BT.node (hb16_0 P) BT.nil BT.nil) (BT.node (hb24_0 P) BT.nil BT.nil)) (BT.node (hb12_0 P) (BT.node (hb20_0 P) BT.nil BT.nil) (BT.nil))) (BT.node (boot_o_6 P) (BT.node (boot_o_10 P) (BT.node (hb18_0 P) BT.nil BT.nil) (BT.nil)) (BT.node (hb14_0 P) (BT.node (hb22_3 P) BT.nil BT.nil) (BT.nil)))), 26, {}, Array.mk [], boot_drawn, 1378, os⟩
noncomputable def ge23 (P : Params) : DictEntry := deS P (Str.ofString "c") 1244 (Value.int 57 1441)
noncomputable def hb3_5 (P : Params) : Obj := gObj P [ge11 P, ge1 P, ge2 P, ge3 P, ge4 P, ge5 P, ge6 P, ge7 P, ge8 P, ge9 P, ge10 P, ge12 P, ge13 P, ge14 P, ge15 P, ge16 P, ge17 P, ge18 P, ge19 P, ge23 P] 20
noncomputable def hb22_4 (P : Params) : Obj := Obj.mk (Value.type "list") none (Data.seq (List.toArray [itE 0, itE 1, itE 2, itE 3, itE 4, itE 5, itE 6, itE 7, itE 8, itE 9, itE 10, itE 11, itE 12, itE 13, itE 14, itE 15, itE 16, itE 17, itE 18, itE 19, itE 20, itE 21, itE 22, itE 23, itE 24, itE 25, itE 26, itE 27, itE 28, itE 29, itE 30, itE 31, itE 32, itC 33 1248, itE 34, itE 35, itE 36, itE 37, itE 38, itE 39, itE 40, itE 41, itC 42 1251, itC 43 1254, itE 44, itC 45 1245, itE 46, itC 47 1257, itC 48 1416, itC 49 1419, itC 50 1422, itC 51 1425, itC 52 1428, itC 53 1431, itC 54 1434, itC 55 1437, itC 56 1440, itC 57 1443, itE 58, itE 59, itE 60, itE 61, itE 62, itE 63, itE 64, itC 65 1338, itC 66 1341, itC 67 1344, itC 68 1347, itC 69 1350, itC 70 1353, itC 71 1356, itC 72 1359, itC 73 1362, itC 74 1365, itC 75 1368, itC 76 1371, itC 77 1374, itC 78 1377, itC 79 1380, itC 80 1383, itC 81 1386, itC 82 1389, itC 83 1392, itC 84 1395, itC 85 1398, itC 86 1401, itC 87 1404, itC 88 1407, itC 89 1410, itC 90 1413, itE 91, itE 92, itE 93, itE 94, itE 95, itE 96, itC 97 1260, itC 98 1263, itC 99 1266, itC 100 1269, itC 101 1272, itC 102 1275, itC 103 1278, itC 104 1281, itC 105 1284, itC 106 1287, itC 107 1290, itC 108 1293, itC 109 1296, itC 110 1299, itC 111 1302, itC 112 1305, itC 113 1308, itC 114 1311, itC 115 1314, itC 116 1317, itC 117 1320, itC 118 1323, itC 119 1326, itC 120 1329, itC 121 1332, itC 122 1335, itE 123, itE 124, itE 125, itE 126, itE 127, itE 128, itE 129, itE 130, itE 131, itE 132, itE 133, itE 134, itE 135, itE 136, itE 137, itE 138, itE 139, itE 140, itE 141, itE 142, itE 143, itE 144, itE 145, itE 146, itE 147, itE 148, itE 149, itE 150, itE 151, itE 152, itE 153, itE 154, itE 155, itE 156, itE 157, itE 158, itE 159, itE 160, itE 161, itE 162, itE 163, itE 164, itE 165, itE 166, itE 167, itE 168, itE 169, itE 170, itE 171, itE 172, itE 173, itE 174, itE 175, itE 176, itE 177, itE 178, itE 179, itE 180, itE 181, itE 182, itE 183, itE 184, itE 185, itE 186, itE 187, itE 188, itE 189, itE 190, itE 191, itE 192, itE 193, itE 194, itE 195, itE 196, itE 197, itE 198, itE 199, itE 200, itE 201, itE 202, itE 203, itE 204, itE 205, itE 206, itE 207, itE 208, itE 209, itE 210, itE 211, itE 212, itE 213, itE 214, itE 215, itE 216, itE 217, itE 218, itE 219, itE 220, itE 221, itE 222, itE 223, itE 224, itE 225, itE 226, itE 227, itE 228, itE 229, itE 230, itE 231, itE 232, itE 233, itE 234, itE 235, itE 236, itE 237, itE 238, itE 239, itE 240, itE 241, itE 242, itE 243, itE 244, itE 245, itE 246, itE 247, itE 248, itE 249, itE 250, itE 251, itE 252, itE 253, itE 254, itE 255]) 0) #[]
noncomputable def hb25_3 (P : Params) : Obj := Obj.mk (Value.type "bytes_iterator") none (Data.fields #[Value.bytes #[45, 33, 42, 43, 47, 97, 98, 99, 100, 101, 102, 103, 104, 105, 106, 107, 108, 109, 110, 111, 112, 113, 114, 115, 116, 117, 118, 119, 120, 121, 122, 65, 66, 67, 68, 69, 70, 71, 72, 73, 74, 75, 76, 77, 78, 79, 80, 81, 82, 83, 84, 85, 86, 87, 88, 89, 90, 48, 49, 50, 51, 52, 53, 54, 55, 56, 57] 1242, Value.int 67 0]) #[]
noncomputable def A67 (P : Params) (os : OsState) : SharedT := ⟨BT.node (boot_o_0 P) (BT.node (boot_o_1 P) (BT.node (hb3_5 P) (BT.node (boot_o_7 P) (BT.node (hb15_0 P) BT.nil BT.nil) (BT.node (hb23_0 P) BT.nil BT.nil)) (BT.node (hb11_0 P) (BT.node (hb19_0 P) BT.nil BT.nil) (BT.nil))) (BT.node (boot_o_5 P) (BT.node (boot_o_9 P) (BT.node (hb17_0 P) BT.nil BT.nil) (BT.node (hb25_3 P) BT.nil BT.nil)) (BT.node (hb13_0 P) (BT.node (hb21_0 P) BT.nil BT.nil) (BT.nil)))) (BT.node (boot_o_2 P) (BT.node (boot_o_4 P) (BT.node (boot_o_8 P) (BT.node (hb16_0 P) BT.nil BT.nil) (BT.node (hb24_0 P) BT.nil BT.nil)) (BT.node (hb12_0 P) (BT.node (hb20_0 P) BT.nil BT.nil) (BT.nil))) (BT.node (boot_o_6 P) (BT.node (boot_o_10 P) (BT.node (hb18_0 P) BT.nil BT.nil) (BT.nil)) (BT.node (hb14_0 P) (BT.node (hb22_4 P) BT.nil BT.nil) (BT.nil)))), 26, {}, Array.mk [], boot_drawn, 1444, os⟩
noncomputable def hb22_5 (P : Params) : Obj := Obj.mk (Value.type "list") none (Data.seq (List.toArray [itE 0, itE 1, itE 2, itE 3, itE 4, itE 5, itE 6, itE 7, itE 8, itE 9, itE 10, itE 11, itE 12, itE 13, itE 14, itE 15, itE 16, itE 17, itE 18, itE 19, itE 20, itE 21, itE 22, itE 23, itE 24, itE 25, itE 26, itE 27, itE 28, itE 29, itE 30, itE 31, itC 95 1444, itC 33 1248, itE 34, itE 35, itE 36, itE 37, itE 38, itE 39, itE 40, itE 41, itC 42 1251, itC 43 1254, itE 44, itC 45 1245, itE 46, itC 47 1257, itC 48 1416, itC 49 1419, itC 50 1422, itC 51 1425, itC 52 1428, itC 53 1431, itC 54 1434, itC 55 1437, itC 56 1440, itC 57 1443, itE 58, itE 59, itE 60, itE 61, itE 62, itE 63, itE 64, itC 65 1338, itC 66 1341, itC 67 1344, itC 68 1347, itC 69 1350, itC 70 1353, itC 71 1356, itC 72 1359, itC 73 1362, itC 74 1365, itC 75 1368, itC 76 1371, itC 77 1374, itC 78 1377, itC 79 1380, itC 80 1383, itC 81 1386, itC 82 1389, itC 83 1392, itC 84 1395, itC 85 1398, itC 86 1401, itC 87 1404, itC 88 1407, itC 89 1410, itC 90 1413, itE 91, itE 92, itE 93, itE 94, itE 95, itE 96, itC 97 1260, itC 98 1263, itC 99 1266, itC 100 1269, itC 101 1272, itC 102 1275, itC 103 1278, itC 104 1281, itC 105 1284, itC 106 1287, itC 107 1290, itC 108 1293, itC 109 1296, itC 110 1299, itC 111 1302, itC 112 1305, itC 113 1308, itC 114 1311, itC 115 1314, itC 116 1317, itC 117 1320, itC 118 1323, itC 119 1326, itC 120 1329, itC 121 1332, itC 122 1335, itE 123, itE 124, itE 125, itE 126, itE 127, itE 128, itE 129, itE 130, itE 131, itE 132, itE 133, itE 134, itE 135, itE 136, itE 137, itE 138, itE 139, itE 140, itE 141, itE 142, itE 143, itE 144, itE 145, itE 146, itE 147, itE 148, itE 149, itE 150, itE 151, itE 152, itE 153, itE 154, itE 155, itE 156, itE 157, itE 158, itE 159, itE 160, itE 161, itE 162, itE 163, itE 164, itE 165, itE 166, itE 167, itE 168, itE 169, itE 170, itE 171, itE 172, itE 173, itE 174, itE 175, itE 176, itE 177, itE 178, itE 179, itE 180, itE 181, itE 182, itE 183, itE 184, itE 185, itE 186, itE 187, itE 188, itE 189, itE 190, itE 191, itE 192, itE 193, itE 194, itE 195, itE 196, itE 197, itE 198, itE 199, itE 200, itE 201, itE 202, itE 203, itE 204, itE 205, itE 206, itE 207, itE 208, itE 209, itE 210, itE 211, itE 212, itE 213, itE 214, itE 215, itE 216, itE 217, itE 218, itE 219, itE 220, itE 221, itE 222, itE 223, itE 224, itE 225, itE 226, itE 227, itE 228, itE 229, itE 230, itE 231, itE 232, itE 233, itE 234, itE 235, itE 236, itE 237, itE 238, itE 239, itE 240, itE 241, itE 242, itE 243, itE 244, itE 245, itE 246, itE 247, itE 248, itE 249, itE 250, itE 251, itE 252, itE 253, itE 254, itE 255]) 0) #[]
noncomputable def hb25_4 (P : Params) : Obj := Obj.mk (Value.type "bytes_iterator") none (Data.fields #[Value.none, Value.int 67 0]) #[]
noncomputable def hb26_0 (P : Params) : Obj := Obj.mk (Value.type "tuple") none (Data.seq #[]) #[]
noncomputable def hb27_0 (P : Params) : Obj := Obj.mk (Value.type "StopIteration") none (Data.fields #[Value.ref 26, Value.none, Value.none, Value.none, Value.bool false, Value.none]) #[]
noncomputable def T13 (P : Params) (os : OsState) : SharedT := ⟨BT.node (boot_o_0 P) (BT.node (boot_o_1 P) (BT.node (hb3_5 P) (BT.node (boot_o_7 P) (BT.node (hb15_0 P) BT.nil BT.nil) (BT.node (hb23_0 P) BT.nil BT.nil)) (BT.node (hb11_0 P) (BT.node (hb19_0 P) BT.nil BT.nil) (BT.node (hb27_0 P) BT.nil BT.nil))) (BT.node (boot_o_5 P) (BT.node (boot_o_9 P) (BT.node (hb17_0 P) BT.nil BT.nil) (BT.node (hb25_4 P) BT.nil BT.nil)) (BT.node (hb13_0 P) (BT.node (hb21_0 P) BT.nil BT.nil) (BT.nil)))) (BT.node (boot_o_2 P) (BT.node (boot_o_4 P) (BT.node (boot_o_8 P) (BT.node (hb16_0 P) BT.nil BT.nil) (BT.node (hb24_0 P) BT.nil BT.nil)) (BT.node (hb12_0 P) (BT.node (hb20_0 P) BT.nil BT.nil) (BT.nil))) (BT.node (boot_o_6 P) (BT.node (boot_o_10 P) (BT.node (hb18_0 P) BT.nil BT.nil) (BT.node (hb26_0 P) BT.nil BT.nil)) (BT.node (hb14_0 P) (BT.node (hb22_5 P) BT.nil BT.nil) (BT.nil)))), 28, {}, Array.mk [], boot_drawn, 1447, os⟩
noncomputable def ge24 (P : Params) : DictEntry := deS P (Str.ofString "c") 1244 (Value.int 32 1448)
noncomputable def hb3_6 (P : Params) : Obj := gObj P [ge11 P, ge1 P, ge2 P, ge3 P, ge4 P, ge5 P, ge6 P, ge7 P, ge8 P, ge9 P, ge10 P, ge12 P, ge13 P, ge14 P, ge15 P, ge16 P, ge17 P, ge18 P, ge19 P, ge24 P] 20
noncomputable def hb24_1 (P : Params) : Obj := Obj.mk (Value.type "list") none (Data.seq (List.toArray [itE 0, itE 1, itE 2, itE 3, itE 4, itE 5, itE 6, itE 7, itE 8, itE 9, itE 10, itE 11, itE 12, itE 13, itE 14, itE 15, itE 16, itE 17, itE 18, itE 19, itE 20, itE 21, itE 22, itE 23, itE 24, itE 25, itE 26, itE 27, itE 28, itE 29, itE 30, itE 31, itC 32 1450, itE 33, itE 34, itE 35, itE 36, itE 37, itE 38, itE 39, itE 40, itE 41, itE 42, itE 43, itE 44, itE 45, itE 46, itE 47, itE 48, itE 49, itE 50, itE 51, itE 52, itE 53, itE 54, itE 55, itE 56, itE 57, itE 58, itE 59, itE 60, itE 61, itE 62, itE 63, itE 64, itE 65, itE 66, itE 67, itE 68, itE 69, itE 70, itE 71, itE 72, itE 73, itE 74, itE 75, itE 76, itE 77, itE 78, itE 79, itE 80, itE 81, itE 82, itE 83, itE 84, itE 85, itE 86, itE 87, itE 88, itE 89, itE 90, itE 91, itE 92, itE 93, itE 94, itE 95, itE 96, itE 97, itE 98, itE 99, itE 100, itE 101, itE 102, itE 103, itE 104, itE 105, itE 106, itE 107, itE 108, itE 109, itE 110, itE 111, itE 112, itE 113, itE 114, itE 115, itE 116, itE 117, itE 118, itE 119, itE 120, itE 121, itE 122, itE 123, itE 124, itE 125, itE 126, itE 127, itE 128, itE 129, itE 130, itE 131, itE 132, itE 133, itE 134, itE 135, itE 136, itE 137, itE 138, itE 139, itE 140, itE 141, itE 142, itE 143, itE 144, itE 145, itE 146, itE 147, itE 148, itE 149, itE 150, itE 151, itE 152, itE 153, itE 154, itE 155, itE 156, itE 157, itE 158, itE 159, itE 160, itE 161, itE 162, itE 163, itE 164, itE 165, itE 166, itE 167, itE 168, itE 169, itE 170, itE 171, itE 172, itE 173, itE 174, itE 175, itE 176, itE 177, itE 178, itE 179, itE 180, itE 181, itE 182, itE 183, itE 184, itE 185, itE 186, itE 187, itE 188, itE 189, itE 190, itE 191, itE 192, itE 193, itE 194, itE 195, itE 196, itE 197, itE 198, itE 199, itE 200, itE 201, itE 202, itE 203, itE 204, itE 205, itE 206, itE 207, itE 208, itE 209, itE 210, itE 211, itE 212, itE 213, itE 214, itE 215, itE 216, itE 217, itE 218, itE 219, itE 220, itE 221, itE 222, itE 223, itE 224, itE 225, itE 226, itE 227, itE 228, itE 229, itE 230, itE 231, itE 232, itE 233, itE 234, itE 235, itE 236, itE 237, itE 238, itE 239, itE 240, itE 241, itE 242, itE 243, itE 244, itE 245, itE 246, itE 247, itE 248, itE 249, itE 250, itE 251, itE 252, itE 253, itE 254, itE 255]) 0) #[]
noncomputable def hb28_0 (P : Params) : Obj := Obj.mk (Value.type "bytes_iterator") none (Data.fields #[Value.bytes #[32, 33, 34, 35, 36, 37, 38, 39, 40, 41, 42, 43, 44, 45, 46, 47, 48, 49, 50, 51, 52, 53, 54, 55, 56, 57, 58, 59, 60, 62, 63, 64, 65, 66, 67, 68, 69, 70, 71, 72, 73, 74, 75, 76, 77, 78, 79, 80, 81, 82, 83, 84, 85, 86, 87, 88, 89, 90, 91, 92, 93, 94, 95, 96, 97, 98, 99, 100, 101, 102, 103, 104, 105, 106, 107, 108, 109, 110, 111, 112, 113, 114, 115, 116, 117, 118, 119, 120, 121, 122, 123, 124, 125, 126, 9] 1447, Value.int 1 0]) #[]
noncomputable def B1 (P : Params) (os : OsState) : SharedT := ⟨BT.node (boot_o_0 P) (BT.node (boot_o_1 P) (BT.node (hb3_6 P) (BT.node (boot_o_7 P) (BT.node (hb15_0 P) BT.nil BT.nil) (BT.node (hb23_0 P) BT.nil BT.nil)) (BT.node (hb11_0 P) (BT.node (hb19_0 P) BT.nil BT.nil) (BT.node (hb27_0 P) BT.nil BT.nil))) (BT.node (boot_o_5 P) (BT.node (boot_o_9 P) (BT.node (hb17_0 P) BT.nil BT.nil) (BT.node (hb25_4 P) BT.nil BT.nil)) (BT.node (hb13_0 P) (BT.node (hb21_0 P) BT.nil BT.nil) (BT.nil)))) (BT.node (boot_o_2 P) (BT.node (boot_o_4 P) (BT.node (boot_o_8 P) (BT.node (hb16_0 P) BT.nil BT.nil) (BT.node (hb24_1 P) BT.nil BT.nil)) (BT.node (hb12_0 P) (BT.node (hb20_0 P) BT.nil BT.nil) (BT.node (hb28_0 P) BT.nil BT.nil))) (BT.node (boot_o_6 P) (BT.node (boot_o_10 P) (BT.node (hb18_0 P) BT.nil BT.nil) (BT.node (hb26_0 P) BT.nil BT.nil)) (BT.node (hb14_0 P) (BT.node (hb22_5 P) BT.nil BT.nil) (BT.nil)))), 29, {}, Array.mk [], boot_drawn, 1451, os⟩
noncomputable def ge25 (P : Params) : DictEntry := deS P (Str.ofString "c") 1244 (Value.int 56 1520)
noncomputable def hb3_7 (P : Params) : Obj := gObj P [ge11 P, ge1 P, ge2 P, ge3 P, ge4 P, ge5 P, ge6 P, ge7 P, ge8 P, ge9 P, ge10 P, ge12 P, ge13 P, ge14 P, ge15 P, ge16 P, ge17 P, ge18 P, ge19 P, ge25 P] 20
noncomputable def hb24_2 (P : Params) : Obj := Obj.mk (Value.type "list") none (Data.seq (List.toArray [itE 0, itE 1, itE 2, itE 3, itE 4, itE 5, itE 6, itE 7, itE 8, itE 9, itE 10, itE 11, itE 12, itE 13, itE 14, itE 15, itE 16, itE 17, itE 18, itE 19, itE 20, itE 21, itE 22, itE 23, itE 24, itE 25, itE 26, itE 27, itE 28, itE 29, itE 30, itE 31, itC 32 1450, itC 33 1453, itC 34 1456, itC 35 1459, itC 36 1462, itC 37 1465, itC 38 1468, itC 39 1471, itC 40 1474, itC 41 1477, itC 42 1480, itC 43 1483, itC 44 1486, itC 45 1489, itC 46 1492, itC 47 1495, itC 48 1498, itC 49 1501, itC 50 1504, itC 51 1507, itC 52 1510, itC 53 1513, itC 54 1516, itC 55 1519, itC 56 1522, itE 57, itE 58, itE 59, itE 60, itE 61, itE 62, itE 63, itE 64, itE 65, itE 66, itE 67, itE 68, itE 69, itE 70, itE 71, itE 72, itE 73, itE 74, itE 75, itE 76, itE 77, itE 78, itE 79, itE 80, itE 81, itE 82, itE 83, itE 84, itE 85, itE 86, itE 87, itE 88, itE 89, itE 90, itE 91, itE 92, itE 93, itE 94, itE 95, itE 96, itE 97, itE 98, itE 99, itE 100, itE 101, itE 102, itE 103, itE 104, itE 105, itE 106, itE 107, itE 108, itE 109, itE 110, itE 111, itE 112, itE 113, itE 114, itE 115, itE 116, itE 117, itE 118, itE 119, itE 120, itE 121, itE 122, itE 123, itE 124, itE 125, itE 126, itE 127, itE 128, itE 129, itE 130, itE 131, itE 132, itE 133, itE 134, itE 135, itE 136, itE 137, itE 138, itE 139, itE 140, itE 141, itE 142, itE 143, itE 144, itE 145, itE 146, itE 147, itE 148, itE 149, itE 150, itE 151, itE 152, itE 153, itE 154, itE 155, itE 156, itE 157, itE 158, itE 159, itE 160, itE 161, itE 162, itE 163, itE 164, itE 165, itE 166, itE 167, itE 168, itE 169, itE 170, itE 171, itE 172, itE 173, itE 174, itE 175, itE 176, itE 177, itE 178, itE 179, itE 180, itE 181, itE 182, itE 183, itE 184, itE 185, itE 186, itE 187, itE 188, itE 189, itE 190, itE 191, itE 192, itE 193, itE 194, itE 195, itE 196, itE 197, itE 198, itE 199, itE 200, itE 201, itE 202, itE 203, itE 204, itE 205, itE 206, itE 207, itE 208, itE 209, itE 210, itE 211, itE 212, itE 213, itE 214, itE 215, itE 216, itE 217, itE 218, itE 219, itE 220, itE 221, itE 222, itE 223, itE 224, itE 225, itE 226, itE 227, itE 228, itE 229, itE 230, itE 231, itE 232, itE 233, itE 234, itE 235, itE 236, itE 237, itE 238, itE 239, itE 240, itE 241, itE 242, itE 243, itE 244, itE 245, itE 246, itE 247, itE 248, itE 249, itE 250, itE 251, itE 252, itE 253, itE 254, itE 255]) 0) #[]
noncomputable def hb28_1 (P : Params) : Obj := Obj.mk (Value.type "bytes_iterator") none (Data.fields #[Value.bytes #[32, 33, 34, 35, 36, 37, 38, 39, 40, 41, 42, 43, 44, 45, 46, 47, 48, 49, 50, 51, 52, 53, 54, 55, 56, 57, 58, 59, 60, 62, 63, 64, 65, 66, 67, 68, 69, 70, 71, 72, 73, 74, 75, 76, 77, 78, 79, 80, 81, 82, 83, 84, 85, 86, 87, 88, 89, 90, 91, 92, 93, 94, 95, 96, 97, 98, 99, 100, 101, 102, 103, 104, 105, 106, 107, 108, 109, 110, 111, 112, 113, 114, 115, 116, 117, 118, 119, 120, 121, 122, 123, 124, 125, 126, 9] 1447, Value.int 25 0]) #[]
noncomputable def B25 (P : Params) (os : OsState) : SharedT := ⟨BT.node (boot_o_0 P) (BT.node (boot_o_1 P) (BT.node (hb3_7 P) (BT.node (boot_o_7 P) (BT.node (hb15_0 P) BT.nil BT.nil) (BT.node (hb23_0 P) BT.nil BT.nil)) (BT.node (hb11_0 P) (BT.node (hb19_0 P) BT.nil BT.nil) (BT.node (hb27_0 P) BT.nil BT.nil))) (BT.node (boot_o_5 P) (BT.node (boot_o_9 P) (BT.node (hb17_0 P) BT.nil BT.nil) (BT.node (hb25_4 P) BT.nil BT.nil)) (BT.node (hb13_0 P) (BT.node (hb21_0 P) BT.nil BT.nil) (BT.nil)))) (BT.node (boot_o_2 P) (BT.node (boot_o_4 P) (BT.node (boot_o_8 P) (BT.node (hb16_0 P) BT.nil BT.nil) (BT.node (hb24_2 P) BT.nil BT.nil)) (BT.node (hb12_0 P) (BT.node (hb20_0 P) BT.nil BT.nil) (BT.node (hb28_1 P) BT.nil BT.nil))) (BT.node (boot_o_6 P) (BT.node (boot_o_10 P) (BT.node (hb18_0 P) BT.nil BT.nil) (BT.node (hb26_0 P) BT.nil BT.nil)) (BT.node (hb14_0 P) (BT.node (hb22_5 P) BT.nil BT.nil) (BT.nil)))), 29, {}, Array.mk [], boot_drawn, 1523, os⟩
noncomputable def ge26 (P : Params) : DictEntry := deS P (Str.ofString "c") 1244 (Value.int 81 1592)
noncomputable def hb3_8 (P : Params) : Obj := gObj P [ge11 P, ge1 P, ge2 P, ge3 P, ge4 P, ge5 P, ge6 P, ge7 P, ge8 P, ge9 P, ge10 P, ge12 P, ge13 P, ge14 P, ge15 P, ge16 P, ge17 P, ge18 P, ge19 P, ge26 P] 20
noncomputable def hb24_3 (P : Params) : Obj := Obj.mk (Value.type "list") none (Data.seq (List.toArray [itE 0, itE 1, itE 2, itE 3, itE 4, itE 5, itE 6, itE 7, itE 8, itE 9, itE 10, itE 11, itE 12, itE 13, itE 14, itE 15, itE 16, itE 17, itE 18, itE 19, itE 20, itE 21, itE 22, itE 23, itE 24, itE 25, itE 26, itE 27, itE 28, itE 29, itE 30, itE 31, itC 32 1450, itC 33 1453, itC 34 1456, itC 35 1459, itC 36 1462, itC 37 1465, itC 38 1468, itC 39 1471, itC 40 1474, itC 41 1477, itC 42 1480, itC 43 1483, itC 44 1486, itC 45 1489, itC 46 1492, itC 47 1495, itC 48 1498, itC 49 1501, itC 50 1504, itC 51 1507, itC 52 1510, itC 53 1513, itC 54 1516, itC 55 1519, itC 56 1522, itC 57 1525, itC 58 1528, itC 59 1531, itC 60 1534, itE 61, itC 62 1537, itC 63 1540, itC 64 1543, itC 65 1546, itC 66 1549, itC 67 1552, itC 68 1555, itC 69 1558, itC 70 1561, itC 71 1564, itC 72 1567, itC 73 1570, itC 74 1573, itC 75 1576, itC 76 1579, itC 77 1582, itC 78 1585, itC 79 1588, itC 80 1591, itC 81 1594, itE 82, itE 83, itE 84, itE 85, itE 86, itE 87, itE 88, itE 89, itE 90, itE 91, itE 92, itE 93, itE 94, itE 95, itE 96, itE 97, itE 98, itE 99, itE 100, itE 101, itE 102, itE 103, itE 104, itE 105, itE 106, itE 107, itE 108, itE 109, itE 110, itE 111, itE 112, itE 113, itE 114, itE 115, itE 116, itE 117, itE 118, itE 119, itE 120, itE 121, itE 122, itE 123, itE 124, itE 125, itE 126, itE 127, itE 128, itE 129, itE 130, itE 131, itE 132, itE 133, itE 134, itE 135, itE 136, itE 137, itE 138, itE 139, itE 140, itE 141, itE 142, itE 143, itE 144, itE 145, itE 146, itE 147, itE 148, itE 149, itE 150, itE 151, itE 152, itE 153, itE 154, itE 155, itE 156, itE 157, itE 158, itE 159, itE 160, itE 161, itE 162, itE 163, itE 164, itE 165, itE 166, itE 167, itE 168, itE 169, itE 170, itE 171, itE 172, itE 173, itE 174, itE 175, itE 176, itE 177, itE 178, itE 179, itE 180, itE 181, itE 182, itE 183, itE 184, itE 185, itE 186, itE 187, itE 188, itE 189, itE 190, itE 191, itE 192, itE 193, itE 194, itE 195, itE 196, itE 197, itE 198, itE 199, itE 200, itE 201, itE 202, itE 203, itE 204, itE 205, itE 206, itE 207, itE 208, itE 209, itE 210, itE 211, itE 212, itE 213, itE 214, itE 215, itE 216, itE 217, itE 218, itE 219, itE 220, itE 221, itE 222, itE 223, itE 224, itE 225, itE 226, itE 227, itE 228, itE 229, itE 230, itE 231, itE 232, itE 233, itE 234, itE 235, itE 236, itE 237, itE 238, itE 239, itE 240, itE 241, itE 242, itE 243, itE 244, itE 245, itE 246, itE 247, itE 248, itE 249, itE 250, itE 251, itE 252, itE 253, itE 254, itE 255]) 0) #[]
noncomputable def hb28_2 (P : Params) : Obj := Obj.mk (Value.type "bytes_iterator") none (Data.fields #[Value.bytes #[32, 33, 34, 35, 36, 37, 38, 39, 40, 41, 42, 43, 44, 45, 46, 47, 48, 49, 50, 51, 52, 53, 54, 55, 56, 57, 58, 59, 60, 62, 63, 64, 65, 66, 67, 68, 69, 70, 71, 72, 73, 74, 75, 76, 77, 78, 79, 80, 81, 82, 83, 84, 85, 86, 87, 88, 89, 90, 91, 92, 93, 94, 95, 96, 97, 98, 99, 100, 101, 102, 103, 104, 105, 106, 107, 108, 109, 110, 111, 112, 113, 114, 115, 116, 117, 118, 119, 120, 121, 122, 123, 124, 125, 126, 9] 1447, Value.int 49 0]) #[]
noncomputable def B49 (P : Params) (os : OsState) : SharedT := ⟨BT.node (boot_o_0 P) (BT.node (boot_o_1 P) (BT.node (hb3_8 P) (BT.node (boot_o_7 P) (BT.node (hb15_0 P) BT.nil BT.nil) (BT.node (hb23_0 P) BT.nil BT.nil)) (BT.node (hb11_0 P) (BT.node (hb19_0 P) BT.nil BT.nil) (BT.node (hb27_0 P) BT.nil BT.nil))) (BT.node (boot_o_5 P) (BT.node (boot_o_9 P) (BT.node (hb17_0 P) BT.nil BT.nil) (BT.node (hb25_4 P) BT.nil BT.nil)) (BT.node (hb13_0 P) (BT.node (hb21_0 P) BT.nil BT.nil) (BT.nil)))) (BT.node (boot_o_2 P) (BT.node (boot_o_4 P) (BT.node (boot_o_8 P) (BT.node (hb16_0 P) BT.nil BT.nil) (BT.node (hb24_3 P) BT.nil BT.nil)) (BT.node (hb12_0 P) (BT.node (hb20_0 P) BT.nil BT.nil) (BT.node (hb28_2 P) BT.nil BT.nil))) (BT.node (boot_o_6 P) (BT.node (boot_o_10 P) (BT.node (hb18_0 P) BT.nil BT.nil) (BT.node (hb26_0 P) BT.nil BT.nil)) (BT.node (hb14_0 P) (BT.node (hb22_5 P) BT.nil BT.nil) (BT.nil)))), 29, {}, Array.mk [], boot_drawn, 1595, os⟩
noncomputable def ge27 (P : Params) : DictEntry := deS P (Str.ofString "c") 1244 (Value.int 105 1664)
noncomputable def hb3_9 (P : Params) : Obj := gObj P [ge11 P, ge1 P, ge2 P, ge3 P, ge4 P, ge5 P, ge6 P, ge7 P, ge8 P, ge9 P, ge10 P, ge12 P, ge13 P, ge14 P, ge15 P, ge16 P, ge17 P, ge18 P, ge19 P, ge27 P] 20
noncomputable def hb24_4 (P : Params) : Obj := Obj.mk (Value.type "list") none (Data.seq (List.toArray [itE 0, itE 1, itE 2, itE 3, itE 4, itE 5, itE 6, itE 7, itE 8, itE 9, itE 10, itE 11, itE 12, itE 13, itE 14, itE 15, itE 16, itE 17, itE 18, itE 19, itE 20, itE 21, itE 22, itE 23, itE 24, itE 25, itE 26, itE 27, itE 28, itE 29, itE 30, itE 31, itC 32 1450, itC 33 1453, itC 34 1456, itC 35 1459, itC 36 1462, itC 37 1465, itC 38 1468, itC 39 1471, itC 40 1474, itC 41 1477, itC 42 1480, itC 43 1483, itC 44 1486, itC 45 1489, itC 46 1492, itC 47 1495, itC 48 1498, itC 49 1501, itC 50 1504, itC 51 1507, itC 52 1510, itC 53 1513, itC 54 1516, itC 55 1519, itC 56 1522, itC 57 1525, itC 58 1528, itC 59 1531, itC 60 1534, itE 61, itC 62 1537, itC 63 1540, itC 64 1543, itC 65 1546, itC 66 1549, itC 67 1552, itC 68 1555, itC 69 1558, itC 70 1561, itC 71 1564, itC 72 1567, itC 73 1570, itC 74 1573, itC 75 1576, itC 76 1579, itC 77 1582, itC 78 1585, itC 79 1588, itC 80 1591, itC 81 1594, itC 82 1597, itC 83 1600, itC 84 1603, itC 85 1606, itC 86 1609, itC 87 1612, itC 88 1615, itC 89 1618, itC 90 1621, itC 91 1624, itC 92 1627, itC 93 1630, itC 94 1633, itC 95 1636, itC 96 1639, itC 97 1642, itC 98 1645, itC 99 1648, itC 100 1651, itC 101 1654, itC 102 1657, itC 103 1660, itC 104 1663, itC 105 1666, itE 106, itE 107, itE 108, itE 109, itE 110, itE 111, itE 112, itE 113, itE 114, itE 115, itE 116, itE 117, itE 118, itE 119, itE 120, itE 121, itE 122, itE 123, itE 124, itE 125, itE 126, itE 127, itE 128, itE 129, itE 130, itE 131, itE 132, itE 133, itE 134, itE 135, itE 136, itE 137, itE 138, itE 139, itE 140, itE 141, itE 142, itE 143, itE 144, itE 145, itE 146, itE 147, itE 148, itE 149, itE 150, itE 151, itE 152, itE 153, itE 154, itE 155, itE 156, itE 157, itE 158, itE 159, itE 160, itE 161, itE 162, itE 163, itE 164, itE 165, itE 166, itE 167, itE 168, itE 169, itE 170, itE 171, itE 172, itE 173, itE 174, itE 175, itE 176, itE 177, itE 178, itE 179, itE 180, itE 181, itE 182, itE 183, itE 184, itE 185, itE 186, itE 187, itE 188, itE 189, itE 190, itE 191, itE 192, itE 193, itE 194, itE 195, itE 196, itE 197, itE 198, itE 199, itE 200, itE 201, itE 202, itE 203, itE 204, itE 205, itE 206, itE 207, itE 208, itE 209, itE 210, itE 211, itE 212, itE 213, itE 214, itE 215, itE 216, itE 217, itE 218, itE 219, itE 220, itE 221, itE 222, itE 223, itE 224, itE 225, itE 226, itE 227, itE 228, itE 229, itE 230, itE 231, itE 232, itE 233, itE 234, itE 235, itE 236, itE 237, itE 238, itE 239, itE 240, itE 241, itE 242, itE 243, itE 244, itE 245, itE 246, itE 247, itE 248, itE 249, itE 250, itE 251, itE 252, itE 253, itE 254, itE 255]) 0) #[]
noncomputable def hb28_3 (P : Params) : Obj := Obj.mk (Value.type "bytes_iterator") none (Data.fields #[Value.bytes #[32, 33, 34, 35, 36, 37, 38, 39, 40, 41, 42, 43, 44, 45, 46, 47, 48, 49, 50, 51, 52, 53, 54, 55, 56, 57, 58, 59, 60, 62, 63, 64, 65, 66, 67, 68, 69, 70, 71, 72, 73, 74, 75, 76, 77, 78, 79, 80, 81, 82, 83, 84, 85, 86, 87, 88, 89, 90, 91, 92, 93, 94, 95, 96, 97, 98, 99, 100, 101, 102, 103, 104, 105, 106, 107, 108, 109, 110, 111, 112, 113, 114, 115, 116, 117, 118, 119, 120, 121, 122, 123, 124, 125, 126, 9] 1447, Value.int 73 0]) #[]
noncomputable def B73 (P : Params) (os : OsState) : SharedT := ⟨BT.node (boot_o_0 P) (BT.node (boot_o_1 P) (BT.node (hb3_9 P) (BT.node (boot_o_7 P) (BT.node (hb15_0 P) BT.nil BT.nil) (BT.node (hb23_0 P) BT.nil BT.nil)) (BT.node (hb11_0 P) (BT.node (hb19_0 P) BT.nil BT.nil) (BT.node (hb27_0 P) BT.nil BT.nil))) (BT.node (boot_o_5 P) (BT.node (boot_o_9 P) (BT.node (hb17_0 P) BT.nil BT.nil) (BT.node (hb25_4 P) BT.nil BT.nil)) (BT.node (hb13_0 P) (BT.node (hb21_0 P) BT.nil BT.nil) (BT.nil)))) (BT.node (boot_o_2 P) (BT.node (boot_o_4 P) (BT.node (boot_o_8 P) (BT.node (hb16_0 P) BT.nil BT.nil) (BT.node (hb24_4 P) BT.nil BT.nil)) (BT.node (hb12_0 P) (BT.node (hb20_0 P) BT.nil BT.nil) (BT.node (hb28_3 P) BT.nil BT.nil))) (BT.node (boot_o_6 P) (BT.node (boot_o_10 P) (BT.node (hb18_0 P) BT.nil BT.nil) (BT.node (hb26_0 P) BT.nil BT.nil)) (BT.node (hb14_0 P) (BT.node (hb22_5 P) BT.nil BT.nil) (BT.nil)))), 29, {}, Array.mk [], boot_drawn, 1667, os⟩
noncomputable def ge28 (P : Params) : DictEntry := deS P (Str.ofString "c") 1244 (Value.int 9 1730)
noncomputable def hb3_10 (P : Params) : Obj := gObj P [ge11 P, ge1 P, ge2 P, ge3 P, ge4 P, ge5 P, ge6 P, ge7 P, ge8 P, ge9 P, ge10 P, ge12 P, ge13 P, ge14 P, ge15 P, ge16 P, ge17 P, ge18 P, ge19 P, ge28 P] 20
noncomputable def hb24_5 (P : Params) : Obj := Obj.mk (Value.type "list") none (Data.seq (List.toArray [itE 0, itE 1, itE 2, itE 3, itE 4, itE 5, itE 6, itE 7, itE 8, itC 9 1732, itE 10, itE 11, itE 12, itE 13, itE 14, itE 15, itE 16, itE 17, itE 18, itE 19, itE 20, itE 21, itE 22, itE 23, itE 24, itE 25, itE 26, itE 27, itE 28, itE 29, itE 30, itE 31, itC 32 1450, itC 33 1453, itC 34 1456, itC 35 1459, itC 36 1462, itC 37 1465, itC 38 1468, itC 39 1471, itC 40 1474, itC 41 1477, itC 42 1480, itC 43 1483, itC 44 1486, itC 45 1489, itC 46 1492, itC 47 1495, itC 48 1498, itC 49 1501, itC 50 1504, itC 51 1507, itC 52 1510, itC 53 1513, itC 54 1516, itC 55 1519, itC 56 1522, itC 57 1525, itC 58 1528, itC 59 1531, itC 60 1534, itE 61, itC 62 1537, itC 63 1540, itC 64 1543, itC 65 1546, itC 66 1549, itC 67 1552, itC 68 1555, itC 69 1558, itC 70 1561, itC 71 1564, itC 72 1567, itC 73 1570, itC 74 1573, itC 75 1576, itC 76 1579, itC 77 1582, itC 78 1585, itC 79 1588, itC 80 1591, itC 81 1594, itC 82 1597, itC 83 1600, itC 84 1603, itC 85 1606, itC 86 1609, itC 87 1612, itC 88 1615, itC 89 1618, itC 90 1621, itC 91 1624, itC 92 1627, itC 93 1630, itC 94 1633, itC 95 1636, itC 96 1639, itC 97 1642, itC 98 1645, itC 99 1648, itC 100 1651, itC 101 1654, itC 102 1657, itC 103 1660, itC 104 1663, itC 105 1666, itC 106 1669, itC 107 1672, itC 108 1675, itC 109 1678, itC 110 1681, itC 111 1684, itC 112 1687, itC 113 1690, itC 114 1693, itC 115 1696, itC 116 1699, itC 117 1702, itC 118 1705, itC 119 1708, itC 120 1711, itC 121 1714, itC 122 1717, itC 123 1720, itC 124 1723, itC 125 1726, itC 126 1729, itE 127, itE 128, itE 129, itE 130, itE 131, itE 132, itE 133, itE 134, itE 135, itE 136, itE 137, itE 138, itE 139, itE 140, itE 141, itE 142, itE 143, itE 144, itE 145, itE 146, itE 147, itE 148, itE 149, itE 150, itE 151, itE 152, itE 153, itE 154, itE 155, itE 156, itE 157, itE 158, itE 159, itE 160, itE 161, itE 162, itE 163, itE 164, itE 165, itE 166, itE 167, itE 168, itE 169, itE 170, itE 171, itE 172, itE 173, itE 174, itE 175, itE 176, itE 177, itE 178, itE 179, itE 180, itE 181, itE 182, itE 183, itE 184, itE 185, itE 186, itE 187, itE 188, itE 189, itE 190, itE 191, itE 192, itE 193, itE 194, itE 195, itE 196, itE 197, itE 198, itE 199, itE 200, itE 201, itE 202, itE 203, itE 204, itE 205, itE 206, itE 207, itE 208, itE 209, itE 210, itE 211, itE 212, itE 213, itE 214, itE 215, itE 216, itE 217, itE 218, itE 219, itE 220, itE 221, itE 222, itE 223, itE 224, itE 225, itE 226, itE 227, itE 228, itE 229, itE 230, itE 231, itE 232, itE 233, itE 234, itE 235, itE 236, itE 237, itE 238, itE 239, itE 240, itE 241, itE 242, itE 243, itE 244, itE 245, itE 246, itE 247, itE 248, itE 249, itE 250, itE 251, itE 252, itE 253, itE 254, itE 255]) 0) #[]
noncomputable def hb28_4 (P : Params) : Obj := Obj.mk (Value.type "bytes_iterator") none (Data.fields #[Value.bytes #[32, 33, 34, 35, 36, 37, 38, 39, 40, 41, 42, 43, 44, 45, 46, 47, 48, 49, 50, 51, 52, 53, 54, 55, 56, 57, 58, 59, 60, 62, 63, 64, 65, 66, 67, 68, 69, 70, 71, 72, 73, 74, 75, 76, 77, 78, 79, 80, 81, 82, 83, 84, 85, 86, 87, 88, 89, 90, 91, 92, 93, 94, 95, 96, 97, 98, 99, 100, 101, 102, 103, 104, 105, 106, 107, 108, 109, 110, 111, 112, 113, 114, 115, 116, 117, 118, 119, 120, 121, 122, 123, 124, 125, 126, 9] 1447, Value.int 95 0]) #[]
noncomputable def B95 (P : Params) (os : OsState) : SharedT := ⟨BT.node (boot_o_0 P) (BT.node (boot_o_1 P) (BT.node (hb3_10 P) (BT.node (boot_o_7 P) (BT.node (hb15_0 P) BT.nil BT.nil) (BT.node (hb23_0 P) BT.nil BT.nil)) (BT.node (hb11_0 P) (BT.node (hb19_0 P) BT.nil BT.nil) (BT.node (hb27_0 P) BT.nil BT.nil))) (BT.node (boot_o_5 P) (BT.node (boot_o_9 P) (BT.node (hb17_0 P) BT.nil BT.nil) (BT.node (hb25_4 P) BT.nil BT.nil)) (BT.node (hb13_0 P) (BT.node (hb21_0 P) BT.nil BT.nil) (BT.nil)))) (BT.node (boot_o_2 P) (BT.node (boot_o_4 P) (BT.node (boot_o_8 P) (BT.node (hb16_0 P) BT.nil BT.nil) (BT.node (hb24_5 P) BT.nil BT.nil)) (BT.node (hb12_0 P) (BT.node (hb20_0 P) BT.nil BT.nil) (BT.node (hb28_4 P) BT.nil BT.nil))) (BT.node (boot_o_6 P) (BT.node (boot_o_10 P) (BT.node (hb18_0 P) BT.nil BT.nil) (BT.node (hb26_0 P) BT.nil BT.nil)) (BT.node (hb14_0 P) (BT.node (hb22_5 P) BT.nil BT.nil) (BT.nil)))), 29, {}, Array.mk [], boot_drawn, 1733, os⟩
noncomputable def hb28_5 (P : Params) : Obj := Obj.mk (Value.type "bytes_iterator") none (Data.fields #[Value.none, Value.int 95 0]) #[]
noncomputable def hb29_0 (P : Params) : Obj := Obj.mk (Value.type "tuple") none (Data.seq #[]) #[]
noncomputable def hb30_0 (P : Params) : Obj := Obj.mk (Value.type "StopIteration") none (Data.fields #[Value.ref 29, Value.none, Value.none, Value.none, Value.bool false, Value.none]) #[]
noncomputable def T14 (P : Params) (os : OsState) : SharedT := ⟨BT.node (boot_o_0 P) (BT.node (boot_o_1 P) (BT.node (hb3_10 P) (BT.node (boot_o_7 P) (BT.node (hb15_0 P) BT.nil BT.nil) (BT.node (hb23_0 P) BT.nil BT.nil)) (BT.node (hb11_0 P) (BT.node (hb19_0 P) BT.nil BT.nil) (BT.node (hb27_0 P) BT.nil BT.nil))) (BT.node (boot_o_5 P) (BT.node (boot_o_9 P) (BT.node (hb17_0 P) BT.nil BT.nil) (BT.node (hb25_4 P) BT.nil BT.nil)) (BT.node (hb13_0 P) (BT.node (hb21_0 P) BT.nil BT.nil) (BT.node (hb29_0 P) BT.nil BT.nil)))) (BT.node (boot_o_2 P) (BT.node (boot_o_4 P) (BT.node (boot_o_8 P) (BT.node (hb16_0 P) BT.nil BT.nil) (BT.node (hb24_5 P) BT.nil BT.nil)) (BT.node (hb12_0 P) (BT.node (hb20_0 P) BT.nil BT.nil) (BT.node (hb28_5 P) BT.nil BT.nil))) (BT.node (boot_o_6 P) (BT.node (boot_o_10 P) (BT.node (hb18_0 P) BT.nil BT.nil) (BT.node (hb26_0 P) BT.nil BT.nil)) (BT.node (hb14_0 P) (BT.node (hb22_5 P) BT.nil BT.nil) (BT.node (hb30_0 P) BT.nil BT.nil)))), 31, {}, Array.mk [], boot_drawn, 1733, os⟩
noncomputable def ge29 (P : Params) : DictEntry := deS P (Str.ofString "__name__") 165 (Value.str (Str.ofString "law_rs0126_01") 1831)
noncomputable def ge30 (P : Params) : DictEntry := deS P (Str.ofString "body_check") 1739 (Value.ref 37)
noncomputable def ge31 (P : Params) : DictEntry := deS P (Str.ofString "unquote") 1746 (Value.ref 44)
noncomputable def ge32 (P : Params) : DictEntry := deS P (Str.ofString "quote") 1753 (Value.ref 51)
noncomputable def ge33 (P : Params) : DictEntry := deS P (Str.ofString "_QUOPRI_BODY_ENCODE_MAP") 1754 (Value.ref 53)
noncomputable def ge34 (P : Params) : DictEntry := deS P (Str.ofString "body_encode") 1781 (Value.ref 64)
noncomputable def ge35 (P : Params) : DictEntry := deS P (Str.ofString "decode") 1794 (Value.ref 72)
noncomputable def ge36 (P : Params) : DictEntry := deS P (Str.ofString "StatisticsError") 1814 (Value.ref 82)
noncomputable def ge37 (P : Params) : DictEntry := deS P (Str.ofString "median_low") 1822 (Value.ref 92)
noncomputable def ge38 (P : Params) : DictEntry := deS P (Str.ofString "median_high") 1830 (Value.ref 99)
noncomputable def ge39 (P : Params) : DictEntry := deS P (Str.ofString "_law_ways") 1838 (Value.ref 104)
noncomputable def ge40 (P : Params) : DictEntry := deS P (Str.ofString "_law_letter") 1844 (Value.ref 109)
noncomputable def ge41 (P : Params) : DictEntry := deS P (Str.ofString "_law_climb") 1850 (Value.ref 114)
noncomputable def ge42 (P : Params) : DictEntry := deS P (Str.ofString "law") 1856 (Value.ref 119)
noncomputable def hb3_11 (P : Params) : Obj := gObj P [ge29 P, ge1 P, ge2 P, ge3 P, ge4 P, ge5 P, ge6 P, ge7 P, ge8 P, ge9 P, ge10 P, ge12 P, ge13 P, ge14 P, ge15 P, ge16 P, ge17 P, ge18 P, ge19 P, ge30 P, ge31 P, ge32 P, ge33 P, ge34 P, ge35 P, ge36 P, ge37 P, ge38 P, ge39 P, ge40 P, ge41 P, ge42 P] 34
noncomputable def hb53_0 (P : Params) : Obj := Obj.mk (Value.type "list") none (Data.seq (List.toArray [itE 0, itE 1, itE 2, itE 3, itE 4, itE 5, itE 6, itE 7, itE 8, itC 9 1732, itC 10 1761, itE 11, itE 12, itC 13 1758, itE 14, itE 15, itE 16, itE 17, itE 18, itE 19, itE 20, itE 21, itE 22, itE 23, itE 24, itE 25, itE 26, itE 27, itE 28, itE 29, itE 30, itE 31, itC 32 1450, itC 33 1453, itC 34 1456, itC 35 1459, itC 36 1462, itC 37 1465, itC 38 1468, itC 39 1471, itC 40 1474, itC 41 1477, itC 42 1480, itC 43 1483, itC 44 1486, itC 45 1489, itC 46 1492, itC 47 1495, itC 48 1498, itC 49 1501, itC 50 1504, itC 51 1507, itC 52 1510, itC 53 1513, itC 54 1516, itC 55 1519, itC 56 1522, itC 57 1525, itC 58 1528, itC 59 1531, itC 60 1534, itE 61, itC 62 1537, itC 63 1540, itC 64 1543, itC 65 1546, itC 66 1549, itC 67 1552, itC 68 1555, itC 69 1558, itC 70 1561, itC 71 1564, itC 72 1567, itC 73 1570, itC 74 1573, itC 75 1576, itC 76 1579, itC 77 1582, itC 78 1585, itC 79 1588, itC 80 1591, itC 81 1594, itC 82 1597, itC 83 1600, itC 84 1603, itC 85 1606, itC 86 1609, itC 87 1612, itC 88 1615, itC 89 1618, itC 90 1621, itC 91 1624, itC 92 1627, itC 93 1630, itC 94 1633, itC 95 1636, itC 96 1639, itC 97 1642, itC 98 1645, itC 99 1648, itC 100 1651, itC 101 1654, itC 102 1657, itC 103 1660, itC 104 1663, itC 105 1666, itC 106 1669, itC 107 1672, itC 108 1675, itC 109 1678, itC 110 1681, itC 111 1684, itC 112 1687, itC 113 1690, itC 114 1693, itC 115 1696, itC 116 1699, itC 117 1702, itC 118 1705, itC 119 1708, itC 120 1711, itC 121 1714, itC 122 1717, itC 123 1720, itC 124 1723, itC 125 1726, itC 126 1729, itE 127, itE 128, itE 129, itE 130, itE 131, itE 132, itE 133, itE 134, itE 135, itE 136, itE 137, itE 138, itE 139, itE 140, itE 141, itE 142, itE 143, itE 144, itE 145, itE 146, itE 147, itE 148, itE 149, itE 150, itE 151, itE 152, itE 153, itE 154, itE 155, itE 156, itE 157, itE 158, itE 159, itE 160, itE 161, itE 162, itE 163, itE 164, itE 165, itE 166, itE 167, itE 168, itE 169, itE 170, itE 171, itE 172, itE 173, itE 174, itE 175, itE 176, itE 177, itE 178, itE 179, itE 180, itE 181, itE 182, itE 183, itE 184, itE 185, itE 186, itE 187, itE 188, itE 189, itE 190, itE 191, itE 192, itE 193, itE 194, itE 195, itE 196, itE 197, itE 198, itE 199, itE 200, itE 201, itE 202, itE 203, itE 204, itE 205, itE 206, itE 207, itE 208, itE 209, itE 210, itE 211, itE 212, itE 213, itE 214, itE 215, itE 216, itE 217, itE 218, itE 219, itE 220, itE 221, itE 222, itE 223, itE 224, itE 225, itE 226, itE 227, itE 228, itE 229, itE 230, itE 231, itE 232, itE 233, itE 234, itE 235, itE 236, itE 237, itE 238, itE 239, itE 240, itE 241, itE 242, itE 243, itE 244, itE 245, itE 246, itE 247, itE 248, itE 249, itE 250, itE 251, itE 252, itE 253, itE 254, itE 255]) 0) #[]
noncomputable def hb57_0 (P : Params) : Obj := Obj.mk (Value.type "tuple") none (Data.seq #[Value.int 76 1762, Value.str (Str.ofString "\n") 189]) #[]
noncomputable def hb65_0 (P : Params) : Obj := Obj.mk (Value.type "tuple") none (Data.seq #[Value.str (Str.ofString "\n") 189]) #[]
noncomputable def hb36_0 (P : Params) : Obj := Obj.mk (Value.type "code") none (Data.fields #[Value.str (Str.ofString "body_check") 1733, Value.str (Str.ofString "body_check") 1734, Value.str (Str.ofString "/claim/cut.py") 1735, Value.int 17 0, Value.int 1 0, Value.int 0 0, Value.int 0 0, Value.int 3 0, Value.ref 31, Value.bool true, Value.int 181 0, Value.ref 32, Value.none, Value.ref 33, Value.ref 34, Value.ref 35, Value.int 1737 0, Value.int 17 0, Value.str (Str.ofString "/claim/cut.py") 1738]) #[]
noncomputable def hb43_0 (P : Params) : Obj := Obj.mk (Value.type "code") none (Data.fields #[Value.str (Str.ofString "unquote") 1740, Value.str (Str.ofString "unquote") 1741, Value.str (Str.ofString "/claim/cut.py") 1742, Value.int 19 0, Value.int 1 0, Value.int 0 0, Value.int 0 0, Value.int 3 0, Value.ref 38, Value.bool true, Value.int 181 0, Value.ref 39, Value.none, Value.ref 40, Value.ref 41, Value.ref 42, Value.int 1744 0, Value.int 19 0, Value.str (Str.ofString "/claim/cut.py") 1745]) #[]
noncomputable def hb50_0 (P : Params) : Obj := Obj.mk (Value.type "code") none (Data.fields #[Value.str (Str.ofString "quote") 1747, Value.str (Str.ofString "quote") 1748, Value.str (Str.ofString "/claim/cut.py") 1749, Value.int 21 0, Value.int 1 0, Value.int 0 0, Value.int 0 0, Value.int 3 0, Value.ref 45, Value.bool true, Value.int 181 0, Value.ref 46, Value.none, Value.ref 47, Value.ref 48, Value.ref 49, Value.int 1751 0, Value.int 21 0, Value.str (Str.ofString "/claim/cut.py") 1752]) #[]
noncomputable def hb63_0 (P : Params) : Obj := Obj.mk (Value.type "code") none (Data.fields #[Value.str (Str.ofString "body_encode") 1763, Value.str (Str.ofString "body_encode") 1764, Value.str (Str.ofString "/claim/cut.py") 1765, Value.int 27 0, Value.int 3 0, Value.int 0 0, Value.int 0 0, Value.int 3 0, Value.ref 58, Value.bool true, Value.int 181 0, Value.ref 59, Value.none, Value.ref 60, Value.ref 61, Value.ref 62, Value.int 1779 0, Value.int 27 0, Value.str (Str.ofString "/claim/cut.py") 1780]) #[]
noncomputable def hb71_0 (P : Params) : Obj := Obj.mk (Value.type "code") none (Data.fields #[Value.str (Str.ofString "decode") 1782, Value.str (Str.ofString "decode") 1783, Value.str (Str.ofString "/claim/cut.py") 1784, Value.int 65 0, Value.int 2 0, Value.int 0 0, Value.int 0 0, Value.int 3 0, Value.ref 66, Value.bool true, Value.int 181 0, Value.ref 67, Value.none, Value.ref 68, Value.ref 69, Value.ref 70, Value.int 1792 0, Value.int 65 0, Value.str (Str.ofString "/claim/cut.py") 1793]) #[]
noncomputable def hb91_0 (P : Params) : Obj := Obj.mk (Value.type "code") none (Data.fields #[Value.str (Str.ofString "median_low") 1815, Value.str (Str.ofString "median_low") 1816, Value.str (Str.ofString "/claim/cut.py") 1817, Value.int 98 0, Value.int 1 0, Value.int 0 0, Value.int 0 0, Value.int 3 0, Value.ref 86, Value.bool true, Value.int 181 0, Value.ref 87, Value.none, Value.ref 88, Value.ref 89, Value.ref 90, Value.int 1820 0, Value.int 98 0, Value.str (Str.ofString "/claim/cut.py") 1821]) #[]
noncomputable def hb98_0 (P : Params) : Obj := Obj.mk (Value.type "code") none (Data.fields #[Value.str (Str.ofString "median_high") 1823, Value.str (Str.ofString "median_high") 1824, Value.str (Str.ofString "/claim/cut.py") 1825, Value.int 107 0, Value.int 1 0, Value.int 0 0, Value.int 0 0, Value.int 3 0, Value.ref 93, Value.bool true, Value.int 181 0, Value.ref 94, Value.none, Value.ref 95, Value.ref 96, Value.ref 97, Value.int 1828 0, Value.int 107 0, Value.str (Str.ofString "/claim/cut.py") 1829]) #[]
noncomputable def hb103_0 (P : Params) : Obj := Obj.mk (Value.type "code") none (Data.fields #[Value.str (Str.ofString "_law_ways") 1833, Value.str (Str.ofString "_law_ways") 1834, Value.str (Str.ofString "/claim/cut.py") 1835, Value.int 114 0, Value.int 3 0, Value.int 0 0, Value.int 0 0, Value.int 3 0, Value.ref 100, Value.bool true, Value.int 181 0, Value.ref 101, Value.none, Value.none, Value.none, Value.ref 102, Value.int 1836 0, Value.int 114 0, Value.str (Str.ofString "/claim/cut.py") 1837]) #[]
noncomputable def hb108_0 (P : Params) : Obj := Obj.mk (Value.type "code") none (Data.fields #[Value.str (Str.ofString "_law_letter") 1839, Value.str (Str.ofString "_law_letter") 1840, Value.str (Str.ofString "/claim/cut.py") 1841, Value.int 123 0, Value.int 4 0, Value.int 0 0, Value.int 0 0, Value.int 3 0, Value.ref 105, Value.bool true, Value.int 181 0, Value.ref 106, Value.none, Value.none, Value.none, Value.ref 107, Value.int 1842 0, Value.int 123 0, Value.str (Str.ofString "/claim/cut.py") 1843]) #[]
noncomputable def hb113_0 (P : Params) : Obj := Obj.mk (Value.type "code") none (Data.fields #[Value.str (Str.ofString "_law_climb") 1845, Value.str (Str.ofString "_law_climb") 1846, Value.str (Str.ofString "/claim/cut.py") 1847, Value.int 128 0, Value.int 3 0, Value.int 0 0, Value.int 0 0, Value.int 3 0, Value.ref 110, Value.bool true, Value.int 181 0, Value.ref 111, Value.none, Value.none, Value.none, Value.ref 112, Value.int 1848 0, Value.int 128 0, Value.str (Str.ofString "/claim/cut.py") 1849]) #[]
noncomputable def hb118_0 (P : Params) : Obj := Obj.mk (Value.type "code") none (Data.fields #[Value.str (Str.ofString "law") 1851, Value.str (Str.ofString "law") 1852, Value.str (Str.ofString "/claim/cut.py") 1853, Value.int 136 0, Value.int 1 0, Value.int 0 0, Value.int 0 0, Value.int 3 0, Value.ref 115, Value.bool true, Value.int 181 0, Value.ref 116, Value.none, Value.none, Value.none, Value.ref 117, Value.int 1854 0, Value.int 136 0, Value.str (Str.ofString "/claim/cut.py") 1855]) #[]
noncomputable def hf14 : Obj := Obj.mk (Value.type "function") none (Data.func (FuncData.mk (Str.ofString "body_check") (Str.ofString "body_check") (fA 14) (FuncBody.stmts (fB 14)) (fS 14) 3 [] Value.none Value.none Value.none (Value.str (Str.ofString "cpy313.email.quoprimime") 1234) none (Value.ref 36) Value.none 0)) #[]
noncomputable def hf15 : Obj := Obj.mk (Value.type "function") none (Data.func (FuncData.mk (Str.ofString "unquote") (Str.ofString "unquote") (fA 15) (FuncBody.stmts (fB 15)) (fS 15) 3 [] Value.none Value.none Value.none (Value.str (Str.ofString "cpy313.email.quoprimime") 1234) none (Value.ref 43) Value.none 0)) #[]
noncomputable def hf16 : Obj := Obj.mk (Value.type "function") none (Data.func (FuncData.mk (Str.ofString "quote") (Str.ofString "quote") (fA 16) (FuncBody.stmts (fB 16)) (fS 16) 3 [] Value.none Value.none Value.none (Value.str (Str.ofString "cpy313.email.quoprimime") 1234) none (Value.ref 50) Value.none 0)) #[]
noncomputable def hf20 : Obj := Obj.mk (Value.type "function") none (Data.func (FuncData.mk (Str.ofString "body_encode") (Str.ofString "body_encode") (fA 20) (FuncBody.stmts (fB 20)) (fS 20) 3 [] (Value.ref 57) Value.none Value.none (Value.str (Str.ofString "cpy313.email.quoprimime") 1234) none (Value.ref 63) Value.none 0)) #[]
noncomputable def hf21 : Obj := Obj.mk (Value.type "function") none (Data.func (FuncData.mk (Str.ofString "decode") (Str.ofString "decode") (fA 21) (FuncBody.stmts (fB 21)) (fS 21) 3 [] (Value.ref 65) Value.none Value.none (Value.str (Str.ofString "cpy313.email.quoprimime") 1234) none (Value.ref 71) Value.none 0)) #[]
noncomputable def hf24 : Obj := Obj.mk (Value.type "function") none (Data.func (FuncData.mk (Str.ofString "median_low") (Str.ofString "median_low") (fA 24) (FuncBody.stmts (fB 24)) (fS 24) 3 [] Value.none Value.none Value.none (Value.str (Str.ofString "cpy313.statistics") 1795) none (Value.ref 91) Value.none 0)) #[]
noncomputable def hf25 : Obj := Obj.mk (Value.type "function") none (Data.func (FuncData.mk (Str.ofString "median_high") (Str.ofString "median_high") (fA 25) (FuncBody.stmts (fB 25)) (fS 25) 3 [] Value.none Value.none Value.none (Value.str (Str.ofString "cpy313.statistics") 1795) none (Value.ref 98) Value.none 0)) #[]
noncomputable def hf27 : Obj := Obj.mk (Value.type "function") none (Data.func (FuncData.mk (Str.ofString "_law_ways") (Str.ofString "_law_ways") (fA 27) (FuncBody.stmts (fB 27)) (fS 27) 3 [] Value.none Value.none Value.none (Value.str (Str.ofString "law_rs0126_01") 1831) none (Value.ref 103) Value.none 0)) #[]
noncomputable def hf28 : Obj := Obj.mk (Value.type "function") none (Data.func (FuncData.mk (Str.ofString "_law_letter") (Str.ofString "_law_letter") (fA 28) (FuncBody.stmts (fB 28)) (fS 28) 3 [] Value.none Value.none Value.none (Value.str (Str.ofString "law_rs0126_01") 1831) none (Value.ref 108) Value.none 0)) #[]
noncomputable def hf29 : Obj := Obj.mk (Value.type "function") none (Data.func (FuncData.mk (Str.ofString "_law_climb") (Str.ofString "_law_climb") (fA 29) (FuncBody.stmts (fB 29)) (fS 29) 3 [] Value.none Value.none Value.none (Value.str (Str.ofString "law_rs0126_01") 1831) none (Value.ref 113) Value.none 0)) #[]
noncomputable def hf30 : Obj := Obj.mk (Value.type "function") none (Data.func (FuncData.mk (Str.ofString "law") (Str.ofString "law") (fA 30) (FuncBody.stmts (fB 30)) (fS 30) 3 [] Value.none Value.none Value.none (Value.str (Str.ofString "law_rs0126_01") 1831) none (Value.ref 118) Value.none 0)) #[]
noncomputable def heapK (P : Params) : Frag := [(3, hb3_11 P), (17, hb17_0 P), (24, hb24_5 P), (36, hb36_0 P), (37, hf14), (43, hb43_0 P), (44, hf15), (50, hb50_0 P), (51, hf16), (53, hb53_0 P), (57, hb57_0 P), (63, hb63_0 P), (64, hf20), (65, hb65_0 P), (71, hb71_0 P), (72, hf21), (91, hb91_0 P), (92, hf24), (98, hb98_0 P), (99, hf25), (103, hb103_0 P), (104, hf27), (108, hb108_0 P), (109, hf28), (113, hb113_0 P), (114, hf29), (118, hb118_0 P), (119, hf30)]
noncomputable def envT : Env := { scope := pg.main.scope, locals := mainNs, globals := mainNs, cells := [], code := .ref 13, frame := some 14 }
noncomputable def cT : Code := .body (behindTheImports pg) envT
noncomputable def q0 : Pos := ⟨0, 0, 0, 0⟩
noncomputable def sts (i n : Nat) : List Stmt := (pg.main.body.drop i).take n
noncomputable def th (i n : Nat) (p : Pos) : Thread := piecesOf (sts i n) envT cT p [topFrame q0]
noncomputable abbrev ann0 : Option Value := some (.ref 6)
noncomputable def cE : Expr := match top 2 with
  | .Assign _ v _ => v
  | _ => default
noncomputable def cS : Scope := match cE with
  | .ListComp _ _ s _ => s
  | _ => default
noncomputable def envC : Env := { envT with scope := cS, locals := 18 }
noncomputable def LP : Code := .compLoop cE 0 (.ref 16) (.ref 17) envC
noncomputable def p1 : Pos := ⟨2, 0, 2, 2⟩
noncomputable def pC : Pos := ⟨3, 15, 3, 26⟩
noncomputable def p10 : Pos := ⟨11, 0, 11, 8⟩
noncomputable def p12 : Pos := ⟨14, 0, 14, 28⟩
noncomputable def p13 : Pos := ⟨15, 9, 15, 110⟩
noncomputable def p30 : Pos := ⟨136, 0, 193, 106⟩
noncomputable def thC (f : Frame) : Thread := ⟨.pure (.again LP), LP, pC, [f, topFrame q0]⟩
noncomputable def isRet : Frame → Bool
  | .ret .. => true
  | _ => false
noncomputable def frame0 (x : Option (SharedT × Thread)) : Frame := match x with
  | some (_, t) => t.stack.headD (topFrame q0)
  | none => topFrame q0
/-- the library's quick twins of segGoT, segRunT at this text -/
noncomputable abbrev goQ := Fast.tw10295753902157049106 Fast.tw14364793385576792824 pg
noncomputable abbrev runQ := Fast.tw10110043849684766642 Fast.tw14364793385576792824 pg
theorem goQ_eq : segGoT treeTable pg = goQ := by rw [Fast.te10295753902157049106, Fast.te14364793385576792824]
theorem runQ_eq : segRunT treeTable pg = runQ := by rw [Fast.te10110043849684766642, Fast.te14364793385576792824]
noncomputable def F0 (w : World) (os : OsState) : Frame := frame0 (goQ w 11 ann0 1 40 (T2 w.params os) (th 2 9 p1))
theorem run0 (w : World) (os : OsState) : topGo treeTable pg w 11 ann0 12 ⟨boot_heap w.params, Array.mk [], boot_drawn, boot_toks, os⟩ (topStub pg) = some ((T0 w.params os).abs, ⟨denote treeTable cT, cT, q0, [topFrame q0]⟩) := by kernel_rfl
theorem runB (w : World) (os : OsState) : segRun treeTable pg w 11 ann0 1 1 (T0 w.params os).abs (blockOf (behindTheImports pg) envT cT q0 [topFrame q0]) = some (.next, (T0 w.params os).abs, cT, q0) := by kernel_rfl
theorem run1 (w : World) (os : OsState) : segRunT treeTable pg w 11 ann0 1 40 (T0 w.params os) (th 0 2 q0) = some (.next, T2 w.params os, cT, p1) := by
  rw [runQ_eq]
  kernel_rfl
end Qp
namespace Qp
open PySem PySem.Calls PyProof.Rows PySem.W
/-- both rows of the world that the top asks -/
noncomputable abbrev ws (w : World) (a b : Bool) : World := (w.withFollow "special-get-raises" b).withFollow "comprehension-iter-twice" a
theorem cFirst_ff (w : World) (os : OsState) : goQ (ws w false false) 11 ann0 1 88 (T2 (ws w false false).params os) (th 2 9 p1) = some (TC 1 (ws w false false).params os, thC (F0 (ws w false false) os)) := by kernel_rfl
theorem cFirst_ft (w : World) (os : OsState) : goQ (ws w false true) 11 ann0 1 88 (T2 (ws w false true).params os) (th 2 9 p1) = some (TC 1 (ws w false true).params os, thC (F0 (ws w false true) os)) := by kernel_rfl
theorem cFirst_tf (w : World) (os : OsState) : goQ (ws w true false) 11 ann0 1 78 (T2 (ws w true false).params os) (th 2 9 p1) = some (TC 1 (ws w true false).params os, thC (F0 (ws w true false) os)) := by kernel_rfl
theorem cFirst_tt (w : World) (os : OsState) : goQ (ws w true true) 11 ann0 1 78 (T2 (ws w true true).params os) (th 2 9 p1) = some (TC 1 (ws w true true).params os, thC (F0 (ws w true true) os)) := by kernel_rfl
/-- the comprehension's first turn, by the number of steps -/
noncomputable def CFirst (w : World) : Prop := ∀ os : OsState, ∃ n ≤ 88, segGoT treeTable pg w 11 ann0 1 n (T2 w.params os) (th 2 9 p1) = some (TC 1 w.params os, thC (F0 w os))
theorem cFirst (w : World) : CFirst w :=
  byRow2 "comprehension-iter-twice" (P := CFirst)
    (fun w => byRow2 "special-get-raises" (P := fun w => CFirst (w.withFollow "comprehension-iter-twice" false)) (fun w os => ⟨88, Nat.le_refl _, (congrFun (congrFun (congrFun (congrFun (congrFun (congrFun (congrFun goQ_eq _) _) _) _) _) _) _).trans (cFirst_ff w os)⟩)
      (fun w os => ⟨88, Nat.le_refl _, (congrFun (congrFun (congrFun (congrFun (congrFun (congrFun (congrFun goQ_eq _) _) _) _) _) _) _).trans (cFirst_ft w os)⟩) w)
    (fun w => byRow2 "special-get-raises" (P := fun w => CFirst (w.withFollow "comprehension-iter-twice" true)) (fun w os => ⟨78, by decide, (congrFun (congrFun (congrFun (congrFun (congrFun (congrFun (congrFun goQ_eq _) _) _) _) _) _) _).trans (cFirst_tf w os)⟩)
      (fun w os => ⟨78, by decide, (congrFun (congrFun (congrFun (congrFun (congrFun (congrFun (congrFun goQ_eq _) _) _) _) _) _) _).trans (cFirst_tt w os)⟩) w) w
end Qp
namespace Qp
open PySem PySem.Calls PyProof.Rows PySem.W
/-- some turns of a loop of the top; the loop's caller is any frame -/
noncomputable def Stretch (T : Frame → Thread) (S S' : Params → OsState → SharedT) (n : Nat) : Prop := ∀ (w : World) (os : OsState) (k : Result → Sem Fin) (h : Option Value) (g : Bool) (l : List Value) (c : Code) (p : Pos) (kept : List Value),
  goQ w 11 ann0 1 n (S w.params os) (T (.ret k h g l c p kept)) = some (S' w.params os, T (.ret k h g l c p kept))
theorem Stretch.go {T : Frame → Thread} {S S' : Params → OsState → SharedT} {n : Nat} (x : Stretch T S S' n) (w : World) (os : OsState) {fr : Frame} (hf : isRet fr = true) :
    segGo treeTable pg w 11 ann0 1 n (S w.params os).abs (T fr) = some ((S' w.params os).abs, T fr) := by
  obtain ⟨k, h, g, l, c, p, kept, rfl⟩ : ∃ k h g l c p kept, fr = .ret k h g l c p kept := by
    cases fr with
    | ret k h g l c p kept => exact ⟨k, h, g, l, c, p, kept, rfl⟩
    | gen => cases hf
  refine segGo_of ?_
  rw [goQ_eq]
  exact x w os k h g l c p kept
theorem turns1 : Stretch thC (TC 1) (TC 33) (37 * 32) := fun w os k h g l c p kept => by kernel_rfl
theorem turns2 : Stretch thC (TC 33) (TC 65) (37 * 32) := fun w os k h g l c p kept => by kernel_rfl
theorem turns3 : Stretch thC (TC 65) (TC 97) (37 * 32) := fun w os k h g l c p kept => by kernel_rfl
theorem turns4 : Stretch thC (TC 97) (TC 129) (37 * 32) := fun w os k h g l c p kept => by kernel_rfl
theorem turns5 : Stretch thC (TC 129) (TC 161) (37 * 32) := fun w os k h g l c p kept => by kernel_rfl
theorem turns6 : Stretch thC (TC 161) (TC 193) (37 * 32) := fun w os k h g l c p kept => by kernel_rfl
theorem turns7 : Stretch thC (TC 193) (TC 225) (37 * 32) := fun w os k h g l c p kept => by kernel_rfl
theorem turns8 : Stretch thC (TC 225) (TC 256) (37 * 31) := fun w os k h g l c p kept => by kernel_rfl
theorem f0_ret (w : World) : ∀ os, isRet (F0 w os) = true :=
  byRow2 "special-get-raises" (P := fun w => ∀ os, isRet (F0 w os) = true) (fun w os => by kernel_rfl) (fun w os => by kernel_rfl) w
theorem cEnd (w : World) (os : OsState) : segRunT treeTable pg w 11 ann0 1 400 (TC 256 w.params os) (thC (F0 w os)) = some (.next, T11 w.params os, cT, p10) := by
  rw [runQ_eq]
  exact byRow2 "special-get-raises" (P := fun w => runQ w 11 ann0 1 400 (TC 256 w.params os) (thC (F0 w os)) = some (.next, T11 w.params os, cT, p10)) (fun w => by kernel_rfl) (fun w => by kernel_rfl) w
/-- the third to the eleventh statement -/
theorem run2 (w : World) (os : OsState) : ∃ N ≤ 10000, segRun treeTable pg w 11 ann0 1 N (T2 w.params os).abs (th 2 9 p1) = some (.next, (T11 w.params os).abs, cT, p10) := by
  obtain ⟨n, hn, h0⟩ := cFirst w os
  have hf := f0_ret w os
  have h8 := seg_go (turns8.go w os hf) (segRun_of (cEnd w os))
  have h7 := seg_go (turns7.go w os hf) h8
  have h6 := seg_go (turns6.go w os hf) h7
  have h5 := seg_go (turns5.go w os hf) h6
  have h4 := seg_go (turns4.go w os hf) h5
  have h3 := seg_go (turns3.go w os hf) h4
  have h2 := seg_go (turns2.go w os hf) h3
  have h1 := seg_go (turns1.go w os hf) h2
  exact ⟨_, by omega, seg_go (segGo_of h0) h1⟩
end Qp
namespace Qp
open PySem PySem.Calls PyProof.Rows PySem.W
noncomputable def loopOf (it : Addr) : Stmt → Code
  | .For t _ b o _ => .forLoop t (.ref it) b o envT
  | _ => cT
noncomputable def LA : Code := loopOf 25 (top 11)
noncomputable def LB : Code := loopOf 28 (top 13)
noncomputable def thA (f : Frame) : Thread := ⟨.pure (.again LA), LA, ⟨13, 4, 13, 25⟩, [f, topFrame q0]⟩
noncomputable def thB (f : Frame) : Thread := ⟨.pure (.again LB), LB, ⟨16, 4, 16, 23⟩, [f, topFrame q0]⟩
noncomputable def FA (w : World) (os : OsState) : Frame := frame0 (goQ w 11 ann0 1 88 (T11 w.params os) (th 11 2 p10))
noncomputable def FB (w : World) (os : OsState) : Frame := frame0 (goQ w 11 ann0 1 54 (T13 w.params os) (th 13 1 p12))
/-! the first turn of a loop, and what stands behind its last -/
theorem firstA (w : World) (os : OsState) : segGoT treeTable pg w 11 ann0 1 88 (T11 w.params os) (th 11 2 p10) = some (A1 w.params os, thA (FA w os)) ∧ isRet (FA w os) = true := by
  rw [goQ_eq]
  exact byRow2 "special-get-raises" (P := fun w => goQ w 11 ann0 1 88 (T11 w.params os) (th 11 2 p10) = some (A1 w.params os, thA (FA w os)) ∧ isRet (FA w os) = true)
    (fun w => ⟨by kernel_rfl, by kernel_rfl⟩) (fun w => ⟨by kernel_rfl, by kernel_rfl⟩) w
theorem endA (w : World) (os : OsState) : segRunT treeTable pg w 11 ann0 1 100 (A67 w.params os) (thA (FA w os)) = some (.next, T13 w.params os, cT, p12) := by
  rw [runQ_eq]
  exact byRow2 "special-get-raises" (P := fun w => runQ w 11 ann0 1 100 (A67 w.params os) (thA (FA w os)) = some (.next, T13 w.params os, cT, p12)) (fun w => by kernel_rfl) (fun w => by kernel_rfl) w
theorem firstB (w : World) (os : OsState) : segGoT treeTable pg w 11 ann0 1 54 (T13 w.params os) (th 13 1 p12) = some (B1 w.params os, thB (FB w os)) ∧ isRet (FB w os) = true := by
  rw [goQ_eq]
  exact byRow2 "special-get-raises" (P := fun w => goQ w 11 ann0 1 54 (T13 w.params os) (th 13 1 p12) = some (B1 w.params os, thB (FB w os)) ∧ isRet (FB w os) = true)
    (fun w => ⟨by kernel_rfl, by kernel_rfl⟩) (fun w => ⟨by kernel_rfl, by kernel_rfl⟩) w
theorem endB (w : World) (os : OsState) : segRunT treeTable pg w 11 ann0 1 100 (B95 w.params os) (thB (FB w os)) = some (.next, T14 w.params os, cT, p13) := by
  rw [runQ_eq]
  exact byRow2 "special-get-raises" (P := fun w => runQ w 11 ann0 1 100 (B95 w.params os) (thB (FB w os)) = some (.next, T14 w.params os, cT, p13)) (fun w => by kernel_rfl) (fun w => by kernel_rfl) w
end Qp
namespace Qp
open PySem PySem.Calls PyProof.Rows PySem.W
theorem loopA1 : Stretch thA A1 A23 (45 * 22) := fun w os k h g l c p kept => by kernel_rfl
theorem loopA2 : Stretch thA A23 A45 (45 * 22) := fun w os k h g l c p kept => by kernel_rfl
theorem loopA3 : Stretch thA A45 A67 (45 * 22) := fun w os k h g l c p kept => by kernel_rfl
theorem loopB1 : Stretch thB B1 B25 (45 * 24) := fun w os k h g l c p kept => by kernel_rfl
theorem loopB2 : Stretch thB B25 B49 (45 * 24) := fun w os k h g l c p kept => by kernel_rfl
theorem loopB3 : Stretch thB B49 B73 (45 * 24) := fun w os k h g l c p kept => by kernel_rfl
theorem loopB4 : Stretch thB B73 B95 (45 * 22) := fun w os k h g l c p kept => by kernel_rfl
/-- the twelfth and the thirteenth statement -/
theorem run11 (w : World) (os : OsState) : ∃ N ≤ 3200, segRun treeTable pg w 11 ann0 1 N (T11 w.params os).abs (th 11 2 p10) = some (.next, (T13 w.params os).abs, cT, p12) := by
  obtain ⟨h0, hf⟩ := firstA w os
  have h3 := seg_go (loopA3.go w os hf) (segRun_of (endA w os))
  have h2 := seg_go (loopA2.go w os hf) h3
  have h1 := seg_go (loopA1.go w os hf) h2
  exact ⟨_, by omega, seg_go (segGo_of h0) h1⟩
/-- the fourteenth statement -/
theorem run13 (w : World) (os : OsState) : ∃ N ≤ 4500, segRun treeTable pg w 11 ann0 1 N (T13 w.params os).abs (th 13 1 p12) = some (.next, (T14 w.params os).abs, cT, p13) := by
  obtain ⟨h0, hf⟩ := firstB w os
  have h4 := seg_go (loopB4.go w os hf) (segRun_of (endB w os))
  have h3 := seg_go (loopB3.go w os hf) h4
  have h2 := seg_go (loopB2.go w os hf) h3
  have h1 := seg_go (loopB1.go w os hf) h2
  exact ⟨_, by omega, seg_go (segGo_of h0) h1⟩
end Qp
namespace Qp
open PySem PySem.Calls PyProof.Rows PySem.W
noncomputable def lastRun (w : World) (os : OsState) : Option (Flow × SharedT × Code × Pos) := runQ w 11 ann0 1 1000 (T14 w.params os) (th 14 17 p13)
noncomputable def stOf (x : Option (Flow × SharedT × Code × Pos)) (d : SharedT) : SharedT := match x with
  | some (_, s, _, _) => s
  | none => d
/-- the state behind the top -/
noncomputable def TE (w : World) (os : OsState) : SharedT := stOf (lastRun w os) (T14 w.params os)
theorem run14f (w : World) (os : OsState) : runQ (w.withFollow "special-get-raises" false) 11 ann0 1 1000 (T14 (w.withFollow "special-get-raises" false).params os) (th 14 17 p13) = some (.next, TE (w.withFollow "special-get-raises" false) os, cT, p30) := by kernel_rfl
theorem run14t (w : World) (os : OsState) : runQ (w.withFollow "special-get-raises" true) 11 ann0 1 1000 (T14 (w.withFollow "special-get-raises" true).params os) (th 14 17 p13) = some (.next, TE (w.withFollow "special-get-raises" true) os, cT, p30) := by kernel_rfl
theorem run14 (w : World) (os : OsState) : segRunT treeTable pg w 11 ann0 1 1000 (T14 w.params os) (th 14 17 p13) = some (.next, TE w os, cT, p30) := by
  rw [runQ_eq]
  exact byRow2 "special-get-raises" (P := fun w => runQ w 11 ann0 1 1000 (T14 w.params os) (th 14 17 p13) = some (.next, TE w os, cT, p30)) (fun w => run14f w os) (fun w => run14t w os) w
theorem runF (w : World) (os : OsState) : topRun treeTable pg w 11 ann0 2 (TE w os).abs ⟨doneF .next, cT, p30, [topFrame q0]⟩ = some (TE w os).abs := rfl
theorem body_cut : behindTheImports pg = sts 0 2 ++ (sts 2 9 ++ (sts 11 2 ++ (sts 13 1 ++ (sts 14 17 ++ [])))) := by kernel_rfl
end Qp
namespace Qp
open PySem PySem.Calls PyProof.Rows PySem.W
theorem run_top (w : World) (os : OsState) : ∃ M ≤ 40000, topRun treeTable pg w 11 ann0 M ⟨boot_heap w.params, Array.mk [], boot_drawn, boot_toks, os⟩ (topStub pg) = some (TE w os).abs := by
  obtain ⟨N2, hN2, r2⟩ := run2 w os
  obtain ⟨N11, hN11, r11⟩ := run11 w os
  obtain ⟨N13, hN13, r13⟩ := run13 w os
  have k14 := piece_app (rest := []) (segRun_of (run14 w os)) (runF w os)
  have k13 := piece_app (rest := sts 14 17 ++ []) r13 k14
  have k11 := piece_app (rest := sts 13 1 ++ (sts 14 17 ++ [])) r11 k13
  have k2 := piece_app (rest := sts 11 2 ++ (sts 13 1 ++ (sts 14 17 ++ []))) r2 k11
  have k1 := piece_app (rest := sts 2 9 ++ (sts 11 2 ++ (sts 13 1 ++ (sts 14 17 ++ [])))) (segRun_of (run1 w os)) k2
  rw [← body_cut] at k1
  exact ⟨_, by omega, go_top (run0 w os) (piece_block (runB w os) k1)⟩
noncomputable def qL : Program := view pg [30]
noncomputable def looseL : List Str := ["CRLF", "NL", "_QUOPRI_MAP", "_QUOPRI_HEADER_MAP", "_QUOPRI_BODY_MAP", "ascii_lowercase", "ascii_uppercase", "ascii_letters", "digits", "hexdigits", "c", "body_check", "unquote", "quote", "_QUOPRI_BODY_ENCODE_MAP", "body_encode", "decode", "StatisticsError", "median_low", "median_high", "_law_ways", "_law_letter", "_law_climb"]
noncomputable def keepAs : List Addr := [3, 17, 24, 36, 37, 43, 44, 50, 51, 53, 57, 63, 64, 65, 71, 72, 91, 92, 98, 99, 103, 104, 108, 109, 113, 114, 118, 119]
theorem keep_ok (P : Params) : keepAs = (heapK P).map (·.1) := by kernel_rfl
/-- what is asked of the state behind the top -/
noncomputable def asked (w : World) (s : Shared) := ((staticsOk (importedModules pg.main.body) (boot_heap w.params) s.heap && namesBound pg s.heap && gensDone s && laidKept (boot_heap w.params) s.heap), openSeen qL looseL (importedModules pg.main.body) (fun _ => true) true s, keepAs.map s.heap.get?)
theorem looksF (w : World) (os : OsState) : asked (w.withFollow "special-get-raises" false) (TE (w.withFollow "special-get-raises" false) os).abs = (true, openGood qL looseL, (heapK (w.withFollow "special-get-raises" false).params).map fun p => some p.2) := by kernel_rfl
theorem looksT (w : World) (os : OsState) : asked (w.withFollow "special-get-raises" true) (TE (w.withFollow "special-get-raises" true) os).abs = (true, openGood qL looseL, (heapK (w.withFollow "special-get-raises" true).params).map fun p => some p.2) := by kernel_rfl
theorem looks (w : World) (os : OsState) : asked w (TE w os).abs = (true, openGood qL looseL, (heapK w.params).map fun p => some p.2) :=
  byRow2 "special-get-raises" (P := fun w => asked w (TE w os).abs = (true, openGood qL looseL, (heapK w.params).map fun p => some p.2)) (fun w => looksF w os) (fun w => looksT w os) w
end Qp
namespace Qp
open PySem PySem.Calls PyProof.Rows PySem.W
theorem boot_mine (w : World) : (importEnds treeTable (opening pg) w 600 (start (opening pg)).1 (start (opening pg)).2).map (fun s => (s.heap, s.gens, s.drawn, s.toks)) = some (boot_heap w.params, Array.mk [], boot_drawn, boot_toks) := by kernel_rfl
theorem fence_mine (s : Shared) : fenceModules? pg s = some s := by kernel_rfl
theorem open_mine (w : World) : (fencedOpening treeTable pg w 40000).map (fun s => (s.heap, s.gens, s.drawn, s.toks)) = some (boot_heap w.params, Array.mk [], boot_drawn, boot_toks) := by
  obtain ⟨s, hs, hv⟩ := Option.map_eq_some_iff.mp (boot_mine w)
  have m := importEnds_mono 39400 _ _ _ _ hs
  unfold fencedOpening
  rw [show 40000 = 600 + 39400 from rfl, m]
  show ((fenceModules? pg s)).map _ = _
  rw [fence_mine s]
  exact congrArg some hv
theorem left_all : LeftO pg qL looseL (fun _ => true) (fun s => keepAs.map s.heap.get?) (fun w => (heapK w.params).map fun p => some p.2) 40000 := fun w => by
  obtain ⟨⟨h, gs, d, k, os⟩, e, e'⟩ := Option.map_eq_some_iff.mp (open_mine w)
  obtain ⟨rfl, rfl, rfl, rfl⟩ : h = boot_heap w.params ∧ gs = Array.mk [] ∧ d = boot_drawn ∧ k = boot_toks := by simpa only [Prod.mk.injEq] using e'
  obtain ⟨M, hM, r⟩ := run_top w os
  have r := topRun_mono (40000 - M) _ _ _ _ r
  rw [show M + (40000 - M) = 40000 by omega] at r
  have l := looks w os
  have l1 : (staticsOk (importedModules pg.main.body) (boot_heap w.params) (TE w os).abs.heap && namesBound pg (TE w os).abs.heap && gensDone (TE w os).abs && laidKept (boot_heap w.params) (TE w os).abs.heap) = true := congrArg Prod.fst l
  have sz : ((boot_heap w.params).isNs mainGlobals && (Array.mk [] : Array GenState).size == 0, (boot_heap w.params).objs.size, (boot_heap w.params).nsMap mainGlobals "__annotations__") = (true, 11, ann0) := by kernel_rfl
  obtain ⟨z1, z2, z3⟩ : _ ∧ _ ∧ _ := by simpa only [Prod.mk.injEq] using sz
  have t : topFrom treeTable pg w 40000 ⟨boot_heap w.params, Array.mk [], boot_drawn, boot_toks, os⟩ = some (TE w os).abs := by
    unfold topFrom
    dsimp only
    rw [z1, z2, z3, r]
    show (match staticsOk (importedModules pg.main.body) (boot_heap w.params) (TE w os).abs.heap && namesBound pg (TE w os).abs.heap && gensDone (TE w os).abs && laidKept (boot_heap w.params) (TE w os).abs.heap with | true => _ | false => _) = _
    rw [l1]
  unfold openEnds
  rw [e]
  show (topFrom treeTable pg w 40000 _).map _ = _
  rw [t]
  exact congrArg some (congrArg Prod.snd l)
end Qp
namespace Qp
open PySem PySem.Calls PyProof.Rows PySem.W
theorem law_said : PySem.Challenge.rw_rs0126_01.wellSaid = true := by
  rw [Fast.te9446332074065402090]
  kernel_rfl
end Qp
namespace Qp
open PySem PySem.Calls PyProof.Rows PySem.W
noncomputable def hookL : Hook := kHook heapK keepAs keep_ok
theorem wit : (PySem.Challenge.rw_rs0126_01.row.toRowW).promised := by w_witness2
theorem hdH (walk : ∀ d kwd, defOf qL "law" = some (d, kwd) → WalkO qL looseL (fun _ _ => True) (InK heapK) PySem.Challenge.rw_rs0126_01.row.toRowW d kwd fun f vs => PySem.call f vs) : PySem.Challenge.rw_rs0126_01.Holds := by
  refine holds_law law_said fun said => ?_
  obtain ⟨d, kwd, hdef, hp, hk⟩ : ∃ d kwd, defOf qL "law" = some (d, kwd) ∧ pg.theDef "law" = some (d.params, d.body, d.scope) ∧ kwWritten? d.params.kwonlyargs d.params.kw_defaults = some kwd := ⟨_, _, by rfl, by rfl, by rfl⟩
  exact holds_open (r := PySem.Challenge.rw_rs0126_01.row) (q := qL) (loose := looseL) (Xt := fun _ => true) (XP := fun _ _ => True) (YP := InK heapK) left_all (InK.of keep_ok) InK.keeps (fun _ _ => trivial) (fun _ _ _ _ _ => trivial) hdef hp hk (fun s _ => recFacts_nil rfl) rfl said (by decide +kernel) ⟨rfl, rfl, rfl, rfl, rfl, by decide +kernel⟩ wit (walk d kwd hdef)
end Qp
namespace Qp
open PySem PySem.Calls PyProof.Rows PySem.W
structure Env0 (c : Cx) : Prop where
  kx : (heapK c.w.params).In c.hT
  good : c.Good
  bi : ∀ x : Str, x ≠ "__name__" → c.mb x = bootBuiltins x
/-- the globals' items -/
noncomputable def gItems (P : Params) : Array DictEntry := match (heapK P).lookup 3 with
  | some o => (match o.data with | .dict es _ => es | _ => #[])
  | none => #[]
theorem Env0.mg {c : Cx} (E : Env0 c) (x : Str) : c.mg x = nsFind (gItems c.w.params) x := by
  obtain ⟨o, es, ep, ho, hd', _, hm⟩ := E.good.g
  have h3 : c.hT.get? mainGlobals = some { cls := Value.type "dict", data := Data.dict (gItems c.w.params) 34 } := E.kx 3 _ (by kernel_rfl)
  rw [h3] at ho
  cases ho
  cases hd'
  exact (hm x).symm
/-- a def of the top -/
structure DefAt (c : Cx) (i : Nat) (a : Addr) (xs : List Str) (m : Nat) (dv : List Value) (dd : List D) : Prop where
  ex : ∃ o fd, c.hT.get? a = some o ∧ o.data = .func fd ∧ fd.body = .stmts (fB i) ∧ fd.scope = fS i ∧ fd.globals = mainGlobals ∧ fd.builtins = builtinsNs ∧ fd.closure = [] ∧ c.hT.CodeRec fd.code fd.qualname ∧
    ∀ (s : Shared) (vs : List Value), vs.length = m → (∀ b o, c.hT.get? b = some o → s.heap.get? b = some o) → BindsTo s fd ⟨vs, []⟩ (xs.zip (vs ++ dv))
  reps : ∀ F : Addr → Prop, (∀ a, F a → c.hT.get? a = none) → Reps F c.hT dv dd
section
variable {c : Cx} {n : Nat} {i : Nat} {a : Addr} {xs : List Str} {m : Nat} {dv : List Value} {dd as : List D} {d : D}
theorem DefAt.plain (X : DefAt c i a xs m dv dd) : Plain c (.ref a) := let ⟨o, fd, ho, hd, _⟩ := X.ex; ⟨o, fd, ho, hd⟩
theorem DefAt.fn (X : DefAt c i a xs m dv dd) (G : c.Good) (hm : as.length = m) (hk : (fS i).kind = .function) (hco : (fS i).isCoroutine = false) (hgen : (fS i).isGenerator = false)
    (hxs : (xs.all fun x => (fS i).names.lookup x == some .local || (fS i).names.lookup x == some .cell) = true) (hx : Exs c n (fS i) (Cells i) none (upds (fun _ => none) xs (as ++ dd)) [] (fB i) (.ret d)) : Fn c (n + 1) (.ref a) as d := by
  obtain ⟨o, fd, ho, hd, hb, hs, hg, hbb, hcl, hcd, hbd⟩ := X.ex
  exact Fn.def G ho hd hb hs hg hbb hcl hcd hk hco hgen X.reps (fun s vs hv hkp => hbd s vs (by rw [hv, hm]) hkp) hxs hx
theorem DefAt.fnR (X : DefAt c i a xs m dv dd) (G : c.Good) {msg : Str} (hm : as.length = m) (hk : (fS i).kind = .function) (hco : (fS i).isCoroutine = false) (hgen : (fS i).isGenerator = false)
    (hxs : (xs.all fun x => (fS i).names.lookup x == some .local || (fS i).names.lookup x == some .cell) = true) (hx : ExsR c n (fS i) (Cells i) (upds (fun _ => none) xs (as ++ dd)) (fB i) msg) : FnR c (n + 1) (.ref a) as msg := by
  obtain ⟨o, fd, ho, hd, hb, hs, hg, hbb, hcl, hcd, hbd⟩ := X.ex
  exact FnR.def G ho hd hb hs hg hbb hcl hcd hk hco hgen X.reps (fun s vs hv hkp => hbd s vs (by rw [hv, hm]) hkp) hxs hx
end
section
variable {c : Cx}
theorem len1 {α : Type} {l : List α} (h : l.length = 1) : ∃ a, l = [a] := by
  match l, h with
  | [a], _ => exact ⟨a, rfl⟩
theorem len4 {α : Type} {l : List α} (h : l.length = 4) : ∃ a b d e, l = [a, b, d, e] := by
  match l, h with
  | [a, b, d, e], _ => exact ⟨a, b, d, e, rfl⟩
theorem d_body_check (E : Env0 c) : DefAt c 14 37 ["octet"] 1 [] [] where
  ex := ⟨_, _, E.kx 37 _ rfl, rfl, by kernel_rfl, by kernel_rfl, rfl, rfl, rfl, ⟨_, _, _, _, rfl, E.kx 36 _ rfl, rfl, rfl⟩, fun s vs hv _ => by obtain ⟨v, rfl⟩ := len1 hv; exact BindsTo.of_eq rfl⟩
  reps := fun _ _ => Reps.nil
theorem d_unquote (E : Env0 c) : DefAt c 15 44 ["s"] 1 [] [] where
  ex := ⟨_, _, E.kx 44 _ rfl, rfl, by kernel_rfl, by kernel_rfl, rfl, rfl, rfl, ⟨_, _, _, _, rfl, E.kx 43 _ rfl, rfl, rfl⟩, fun s vs hv _ => by obtain ⟨v, rfl⟩ := len1 hv; exact BindsTo.of_eq rfl⟩
  reps := fun _ _ => Reps.nil
theorem d_quote (E : Env0 c) : DefAt c 16 51 ["c"] 1 [] [] where
  ex := ⟨_, _, E.kx 51 _ rfl, rfl, by kernel_rfl, by kernel_rfl, rfl, rfl, rfl, ⟨_, _, _, _, rfl, E.kx 50 _ rfl, rfl, rfl⟩, fun s vs hv _ => by obtain ⟨v, rfl⟩ := len1 hv; exact BindsTo.of_eq rfl⟩
  reps := fun _ _ => Reps.nil
theorem d_body_encode3 (E : Env0 c) : DefAt c 20 64 ["body", "maxlinelen", "eol"] 3 [] [] where
  ex := ⟨_, _, E.kx 64 _ rfl, rfl, by kernel_rfl, by kernel_rfl, rfl, rfl, rfl, ⟨_, _, _, _, rfl, E.kx 63 _ rfl, rfl, rfl⟩, fun s vs hv hk => by
    obtain ⟨v1, v2, v3, rfl⟩ := len_three hv
    exact binds_K (K := heapK c.w.params) (T := 57) (fun b o e => hk b o (E.kx b o e)) rfl rfl rfl rfl rfl⟩
  reps := fun _ _ => Reps.nil
theorem d_body_encode1 (E : Env0 c) : ∃ dv, DefAt c 20 64 ["body", "maxlinelen", "eol"] 1 dv [.int 76, .str (mkS [10])] := by
  refine ⟨[.int 76 1762, .str (mkS [10]) 189], ⟨⟨_, _, E.kx 64 _ rfl, rfl, by kernel_rfl, by kernel_rfl, rfl, rfl, rfl, ⟨_, _, _, _, rfl, E.kx 63 _ rfl, rfl, rfl⟩, fun s vs hv hk => by
    obtain ⟨v1, rfl⟩ := len1 hv
    exact binds_K (K := heapK c.w.params) (T := 57) (fun b o e => hk b o (E.kx b o e)) rfl rfl rfl rfl rfl⟩, fun _ _ => Reps.cons ⟨_, rfl⟩ (Reps.one ⟨_, rfl⟩)⟩⟩
theorem d_median_low (E : Env0 c) : DefAt c 24 92 ["data"] 1 [] [] where
  ex := ⟨_, _, E.kx 92 _ rfl, rfl, by kernel_rfl, by kernel_rfl, rfl, rfl, rfl, ⟨_, _, _, _, rfl, E.kx 91 _ rfl, rfl, rfl⟩, fun s vs hv _ => by obtain ⟨v, rfl⟩ := len1 hv; exact BindsTo.of_eq rfl⟩
  reps := fun _ _ => Reps.nil
theorem d_median_high (E : Env0 c) : DefAt c 25 99 ["data"] 1 [] [] where
  ex := ⟨_, _, E.kx 99 _ rfl, rfl, by kernel_rfl, by kernel_rfl, rfl, rfl, rfl, ⟨_, _, _, _, rfl, E.kx 98 _ rfl, rfl, rfl⟩, fun s vs hv _ => by obtain ⟨v, rfl⟩ := len1 hv; exact BindsTo.of_eq rfl⟩
  reps := fun _ _ => Reps.nil
theorem d_ways (E : Env0 c) : DefAt c 27 104 ["sizes", "width", "extra"] 3 [] [] where
  ex := ⟨_, _, E.kx 104 _ rfl, rfl, by kernel_rfl, by kernel_rfl, rfl, rfl, rfl, ⟨_, _, _, _, rfl, E.kx 103 _ rfl, rfl, rfl⟩, fun s vs hv _ => by obtain ⟨v1, v2, v3, rfl⟩ := len_three hv; exact BindsTo.of_eq rfl⟩
  reps := fun _ _ => Reps.nil
theorem d_letter (E : Env0 c) : DefAt c 28 109 ["codes", "way", "blank", "eol"] 4 [] [] where
  ex := ⟨_, _, E.kx 109 _ rfl, rfl, by kernel_rfl, by kernel_rfl, rfl, rfl, rfl, ⟨_, _, _, _, rfl, E.kx 108 _ rfl, rfl, rfl⟩, fun s vs hv _ => by obtain ⟨v1, v2, v3, v4, rfl⟩ := len4 hv; exact BindsTo.of_eq rfl⟩
  reps := fun _ _ => Reps.nil
theorem d_climb (E : Env0 c) : DefAt c 29 114 ["ways", "pick", "sign"] 3 [] [] where
  ex := ⟨_, _, E.kx 114 _ rfl, rfl, by kernel_rfl, by kernel_rfl, rfl, rfl, rfl, ⟨_, _, _, _, rfl, E.kx 113 _ rfl, rfl, rfl⟩, fun s vs hv _ => by obtain ⟨v1, v2, v3, rfl⟩ := len_three hv; exact BindsTo.of_eq rfl⟩
  reps := fun _ _ => Reps.nil
theorem d_law (E : Env0 c) : DefAt c 30 119 ["script"] 1 [] [] where
  ex := ⟨_, _, E.kx 119 _ rfl, rfl, by kernel_rfl, by kernel_rfl, rfl, rfl, rfl, ⟨_, _, _, _, rfl, E.kx 118 _ rfl, rfl, rfl⟩, fun s vs hv _ => by obtain ⟨v, rfl⟩ := len1 hv; exact BindsTo.of_eq rfl⟩
  reps := fun _ _ => Reps.nil
end
end Qp
namespace Qp
open PySem PySem.Calls PyProof.Rows PySem.W
section
variable {c : Cx} {n : Nat}
theorem d_decode2 (E : Env0 c) : DefAt c 21 72 ["encoded", "eol"] 2 [] [] where
  ex := ⟨_, _, E.kx 72 _ rfl, rfl, by kernel_rfl, by kernel_rfl, rfl, rfl, rfl, ⟨_, _, _, _, rfl, E.kx 71 _ rfl, rfl, rfl⟩, fun s vs hv hk => by
    obtain ⟨v1, v2, rfl⟩ := len_two hv
    exact binds_K (K := heapK c.w.params) (T := 65) (fun b o e => hk b o (E.kx b o e)) rfl rfl rfl rfl rfl⟩
  reps := fun _ _ => Reps.nil
theorem d_decode1 (E : Env0 c) : ∃ dv, DefAt c 21 72 ["encoded", "eol"] 1 dv [.str (mkS [10])] := by
  refine ⟨[.str (mkS [10]) 189], ⟨⟨_, _, E.kx 72 _ rfl, rfl, by kernel_rfl, by kernel_rfl, rfl, rfl, rfl, ⟨_, _, _, _, rfl, E.kx 71 _ rfl, rfl, rfl⟩, fun s vs hv hk => by
    obtain ⟨v1, rfl⟩ := len1 hv
    exact binds_K (K := heapK c.w.params) (T := 65) (fun b o e => hk b o (E.kx b o e)) rfl rfl rfl rfl rfl⟩, fun _ _ => Reps.one ⟨_, rfl⟩⟩⟩
theorem Env0.b (E : Env0 c) {x : Str} {v : Value} (h : bootBuiltins x = some v) (hx : x ≠ "__name__") (hg : nsFind (gItems c.w.params) x = none) : Bi c x v := ⟨(E.mg x).trans hg, (E.bi x hx).trans h⟩
theorem Env0.tops (E : Env0 c) : Tops c where
  good := E.good
  sorted := E.b (by kernel_rfl) (by decide +kernel) (by kernel_rfl)
  len := E.b (by kernel_rfl) (by decide +kernel) (by kernel_rfl)
  sum := E.b (by kernel_rfl) (by decide +kernel) (by kernel_rfl)
  chr := E.b (by kernel_rfl) (by decide +kernel) (by kernel_rfl)
  ord := E.b (by kernel_rfl) (by decide +kernel) (by kernel_rfl)
  int := E.b (by kernel_rfl) (by decide +kernel) (by kernel_rfl)
  range := E.b (by kernel_rfl) (by decide +kernel) (by kernel_rfl)
  all := E.b (by kernel_rfl) (by decide +kernel) (by kernel_rfl)
  zip := E.b (by kernel_rfl) (by decide +kernel) (by kernel_rfl)
  enumerate := E.b (by kernel_rfl) (by decide +kernel) (by kernel_rfl)
  max := E.b (by kernel_rfl) (by decide +kernel) (by kernel_rfl)
  min := E.b (by kernel_rfl) (by decide +kernel) (by kernel_rfl)
  abs := E.b (by kernel_rfl) (by decide +kernel) (by kernel_rfl)
  isinstance := E.b (by kernel_rfl) (by decide +kernel) (by kernel_rfl)
  bool := E.b (by kernel_rfl) (by decide +kernel) (by kernel_rfl)
theorem Env0.ve (E : Env0 c) : Bi c "ValueError" (.type "ValueError") := E.b (by kernel_rfl) (by decide +kernel) (by kernel_rfl)
theorem Env0.st (E : Env0 c) : Bi c "str" (.type "str") := E.b (by kernel_rfl) (by decide +kernel) (by kernel_rfl)
noncomputable def strV : Value → Option Str
  | .str x _ => some x
  | _ => none
theorem reps_strs {F : Addr → Prop} {h : Heap} : ∀ (vs : List Value) (l : List Str), vs.map strV = l.map some → Reps F h vs (l.map D.str)
  | [], [], _ => Reps.nil
  | [], _ :: _, q => by simp at q
  | _ :: _, [], q => by simp at q
  | v :: vs, x :: l, q => by
    rw [List.map_cons, List.map_cons] at q
    obtain ⟨a, b⟩ := List.cons.inj q
    have : ∃ t, v = .str x t := by
      cases v <;> simp [strV] at a
      subst a; exact ⟨_, rfl⟩
    exact Reps.cons this (reps_strs vs l b)
/-- a list of texts of the top -/
noncomputable def listAt (P : Params) (a : Addr) : Array Value := match (heapK P).lookup a with
  | some o => (match o.data with | .seq vs _ => vs | _ => #[])
  | none => #[]
noncomputable def roomAt (P : Params) (a : Addr) : Nat := match (heapK P).lookup a with
  | some o => (match o.data with | .seq _ n => n | _ => 0)
  | none => 0
theorem Env0.tab (E : Env0 c) (x : Str) (a : Addr) (l : List Str) (hg : nsFind (gItems c.w.params) x = some (.ref a)) (ho : (heapK c.w.params).lookup a = some { cls := .type "list", data := .seq (listAt c.w.params a) (roomAt c.w.params a) }) (hl : (listAt c.w.params a).toList.map strV = l.map some) : Tab c x l := by
  have hb := E.kx a _ ho
  refine ⟨.ref a, (E.mg x).trans hg, fun F hF => ⟨a, (listAt c.w.params a).toList, rfl, fun q => ?_, ⟨_, hb, rfl, _, rfl⟩, reps_strs _ _ hl⟩⟩
  rw [hF a q] at hb; cases hb
theorem Env0.tabs (E : Env0 c) : Tabs c where
  all := E.tab _ 17 mapAll (by kernel_rfl) (by kernel_rfl) (by kernel_rfl)
  body := E.tab _ 24 mapBody (by kernel_rfl) (by kernel_rfl) (by kernel_rfl)
  enc := E.tab _ 53 mapEnc (by kernel_rfl) (by kernel_rfl) (by kernel_rfl)
theorem Env0.gs (E : Env0 c) (x : Str) (y : Str) (t : Tok) (hg : nsFind (gItems c.w.params) x = some (.str y t)) : Gs c x y := ⟨.str y t, (E.mg x).trans hg, fun _ _ => ⟨t, rfl⟩⟩
theorem Env0.crlf (E : Env0 c) : Gs c "CRLF" ⟨#[13, 10]⟩ := E.gs _ _ 187 (by kernel_rfl)
theorem Env0.hexd (E : Env0 c) : Gs c "hexdigits" hexD := E.gs _ _ 1232 (by kernel_rfl)
noncomputable def fvL : Fv := ⟨.ref 37, .ref 51, .ref 64, .ref 72, .ref 104, .ref 109, .ref 114, .ref 92, .ref 99⟩
theorem Env0.unq (E : Env0 c) : GFn c "unquote" (.ref 44) := ⟨(E.mg _).trans (by kernel_rfl), (d_unquote E).plain⟩
theorem Env0.fv (E : Env0 c) : FvOK c fvL where
  bc := ⟨(E.mg _).trans (by kernel_rfl), (d_body_check E).plain⟩
  q := ⟨(E.mg _).trans (by kernel_rfl), (d_quote E).plain⟩
  be := ⟨(E.mg _).trans (by kernel_rfl), (d_body_encode3 E).plain⟩
  d := ⟨(E.mg _).trans (by kernel_rfl), (d_decode2 E).plain⟩
  ways := ⟨(E.mg _).trans (by kernel_rfl), (d_ways E).plain⟩
  letter := ⟨(E.mg _).trans (by kernel_rfl), (d_letter E).plain⟩
  climb := ⟨(E.mg _).trans (by kernel_rfl), (d_climb E).plain⟩
  ml := ⟨(E.mg _).trans (by kernel_rfl), (d_median_low E).plain⟩
  mh := ⟨(E.mg _).trans (by kernel_rfl), (d_median_high E).plain⟩
end
end Qp
namespace Qp
open PySem PySem.Calls PyProof.Rows PySem.W
section
variable {c : Cx} {n : Nat}
theorem f_quote (E : Env0 c) (k : Nat) (hk : k < 256) : Fn c (n + 1) (.ref 51) [.str (chS k)] (.str (escS k)) := by
  refine DefAt.fn (d_quote E) E.good rfl (by kernel_rfl) (by kernel_rfl) (by kernel_rfl) (by kernel_rfl) ?_
  exact x_quote E.tops E.tabs k hk
theorem f_body_check (E : Env0 c) (k : Nat) (hk : k < 256) : Fn c (n + 1) (.ref 37) [.int k] (.bool (!bareK k)) := by
  refine DefAt.fn (d_body_check E) E.good rfl (by kernel_rfl) (by kernel_rfl) (by kernel_rfl) (by kernel_rfl) ?_
  exact x_body_check E.tops E.tabs k hk
theorem f_unquote (E : Env0 c) (k : Nat) (hk : k < 256) : Fn c (n + 1) (.ref 44) [.str (escS k)] (.str (chS k)) := by
  refine DefAt.fn (d_unquote E) E.good rfl (by kernel_rfl) (by kernel_rfl) (by kernel_rfl) (by kernel_rfl) ?_
  exact x_unquote E.tops k hk
theorem srt_at (v : List Int) (k : Nat) (h : k < v.length) : (srt v)[k]? = some (Os k v) := by
  obtain ⟨h', e⟩ := os_at h
  rw [List.getElem?_eq_getElem h', e]
theorem f_low (E : Env0 c) (l : List Int) (h : l ≠ []) (h64 : l.length < 64) : Fn c (n + 1) (.ref 92) [intsD l] (.int (lowM l)) := by
  have hl := List.length_pos_iff.mpr h
  refine DefAt.fn (d_median_low E) E.good rfl (by kernel_rfl) (by kernel_rfl) (by kernel_rfl) (by kernel_rfl) ?_
  exact x_median_low E.tops l (srt l) h64 h (srt_perm l) (srt_sorted l) (lowM l) (srt_at l _ (by omega))
theorem f_high (E : Env0 c) (l : List Int) (h : l ≠ []) (h64 : l.length < 64) : Fn c (n + 1) (.ref 99) [intsD l] (.int (highM l)) := by
  have hl := List.length_pos_iff.mpr h
  refine DefAt.fn (d_median_high E) E.good rfl (by kernel_rfl) (by kernel_rfl) (by kernel_rfl) (by kernel_rfl) ?_
  exact x_median_high E.tops l (srt l) h64 h (srt_perm l) (srt_sorted l) (highM l) (srt_at l _ (by omega))
theorem f_be (E : Env0 c) (a b d r : D) (x : Exs c n (fS 20) (Cells 20) none (upds (fun _ => none) ["body", "maxlinelen", "eol"] [a, b, d]) [] (fB 20) (.ret r)) : Fn c (n + 1) (.ref 64) [a, b, d] r := by
  refine DefAt.fn (d_body_encode3 E) E.good rfl (by kernel_rfl) (by kernel_rfl) (by kernel_rfl) (by kernel_rfl) ?_
  assumption
theorem f_be1 (E : Env0 c) (a r : D) (x : Exs c n (fS 20) (Cells 20) none (upds (fun _ => none) ["body", "maxlinelen", "eol"] [a, .int 76, .str (mkS [10])]) [] (fB 20) (.ret r)) : Fn c (n + 1) (.ref 64) [a] r := by
  obtain ⟨dv, X⟩ := d_body_encode1 E
  refine DefAt.fn X E.good rfl (by kernel_rfl) (by kernel_rfl) (by kernel_rfl) (by kernel_rfl) ?_
  assumption
theorem f_dec (E : Env0 c) (a b r : D) (x : Exs c n (fS 21) (Cells 21) none (upds (fun _ => none) ["encoded", "eol"] [a, b]) [] (fB 21) (.ret r)) : Fn c (n + 1) (.ref 72) [a, b] r := by
  refine DefAt.fn (d_decode2 E) E.good rfl (by kernel_rfl) (by kernel_rfl) (by kernel_rfl) (by kernel_rfl) ?_
  assumption
theorem f_dec1 (E : Env0 c) (a r : D) (x : Exs c n (fS 21) (Cells 21) none (upds (fun _ => none) ["encoded", "eol"] [a, .str (mkS [10])]) [] (fB 21) (.ret r)) : Fn c (n + 1) (.ref 72) [a] r := by
  obtain ⟨dv, X⟩ := d_decode1 E
  refine DefAt.fn X E.good rfl (by kernel_rfl) (by kernel_rfl) (by kernel_rfl) (by kernel_rfl) ?_
  assumption
theorem f_raise (E : Env0 c) (a d : D) (w : Int) (hw : w < 4) : FnR c (n + 1) (.ref 64) [a, .int w, d] msgS := by
  refine DefAt.fnR (d_body_encode3 E) E.good rfl (by kernel_rfl) (by kernel_rfl) (by kernel_rfl) (by kernel_rfl) ?_
  refine ExsR.raiseIf E.good ?_ (by kernel_rfl) E.ve.1 E.ve.2 (by kernel_rfl)
  refine Tr.cmp (Ev.localName (by kernel_rfl) rfl (by kernel_rfl)) Ev.int ?_ (by kernel_rfl)
  have := Op2.ltInt (c := c) (n := n) w 4
  rwa [decide_eq_true hw] at this
theorem f_letter (E : Env0 c) (a b d e r : D) (x : Exs c n (fS 28) (fun x => (fS 28).names.lookup x = some .cell) none (upds (fun _ => none) ["codes", "way", "blank", "eol"] [a, b, d, e]) [] (fB 28) (.ret r)) : Fn c (n + 1) (.ref 109) [a, b, d, e] r := by
  refine DefAt.fn (d_letter E) E.good rfl (by kernel_rfl) (by kernel_rfl) (by kernel_rfl) (by kernel_rfl) ?_
  assumption
theorem f_ways (E : Env0 c) (a b d r : D) (x : Exs c n (fS 27) (Cells 27) none (upds (fun _ => none) ["sizes", "width", "extra"] [a, b, d]) [] (fB 27) (.ret r)) : Fn c (n + 1) (.ref 104) [a, b, d] r := by
  refine DefAt.fn (d_ways E) E.good rfl (by kernel_rfl) (by kernel_rfl) (by kernel_rfl) (by kernel_rfl) ?_
  assumption
theorem f_climb (E : Env0 c) (a b d r : D) (x : Exs c n (fS 29) (Cells 29) none (upds (fun _ => none) ["ways", "pick", "sign"] [a, b, d]) [] (fB 29) (.ret r)) : Fn c (n + 1) (.ref 114) [a, b, d] r := by
  refine DefAt.fn (d_climb E) E.good rfl (by kernel_rfl) (by kernel_rfl) (by kernel_rfl) (by kernel_rfl) ?_
  assumption
noncomputable def b77 : List Nat := List.replicate 77 98
theorem f_be77 (E : Env0 c) : Fn c (n + 2) (.ref 64) [.str (mkS (List.replicate 77 98))] (.str (mkS (List.replicate 75 98 ++ [61, 10, 98, 98]))) := by
  have hE : encT (mkS b77) = mkS b77 := by kernel_rfl
  have hL : NoBr b77 := fun x hx => by rw [List.eq_of_mem_replicate hx]; decide +kernel
  have hlines : linesOf (encT (mkS b77)) = [mkS b77] := by
    rw [hE]
    have := end_lines (L := b77) (en := []) hL (by intro q; have := congrArg List.length q; simp [b77] at this) (.inl rfl)
    rwa [List.append_nil] at this
  have hout : beOut (encT (mkS b77)) (mkS b77) (mkS [10]) 76 1 = mkS (List.replicate 75 98 ++ [61, 10, 98, 98]) := by kernel_rfl
  have hk : lastK (mkS b77) = 98 := by kernel_rfl
  have hle : (mkS b77).length = 77 := by rw [mkS_len]; simp [b77]
  have hgo : (beGo (mkS b77) 76 1 0).2 = 75 := by kernel_rfl
  have hrows : beRows (mkS b77) (mkS [10]) 76 1 ++ (if lastK (encT (mkS b77)) == 13 || lastK (encT (mkS b77)) == 10 then [⟨#[]⟩] else []) = [mkS (List.replicate 75 98 ++ [61]), mkS [98, 98]] := by kernel_rfl
  have x := x_body_encode (c := c) (n := n + 1) E.tops E.tabs E.crlf (.ref 51) E.fv.q (mkS b77) (mkS b77) (mkS [10]) 76 1 (by omega) (by omega) (by omega) (by omega) (fun k hk => by rw [mkS_list] at hk; rw [List.eq_of_mem_replicate hk]; omega) (by rw [mkS_len]; simp) (by omega) hlines (by rw [hE]; exact cuts_few _ (by omega)) (by omega) (by rw [hE]; omega)
    (fun q => f_quote E _ q) (by rw [hk]; omega) (by rw [hgo, hle]; omega) (by
      rw [hrows]
      refine joinOk 100 ?_ (by rw [mkS_len]; simp)
      intro y hy
      simp only [List.mem_cons, List.not_mem_nil, or_false] at hy
      rcases hy with rfl | rfl <;> rw [mkS_len] <;> simp)
  rw [hout] at x
  refine f_be1 E _ _ ?_
  assumption
theorem fnsOK (E : Env0 c) : FnsOK c (n + 2) fvL where
  bc := fun k hk => f_body_check E k hk
  q := fun k hk => f_quote E k hk
  ber := fun el _ pg w hw => f_raise E _ _ w hw
  be0 := fun el w hw => by
    refine f_be E _ _ _ _ ?_
    exact x_body_encode_nil (mkS el) w hw
  d0 := fun el => by
    refine f_dec E _ _ _ ?_
    exact x_decode_nil (mkS el)
  be77 := f_be77 E
  ml := fun l h h64 => f_low E l h h64
  mh := fun l h h64 => f_high E l h h64
end
end Qp
namespace Qp
open PySem PySem.Calls PyProof.Rows PySem.W
theorem toks_fst (ks : List Nat) : (toksOf ks).map (·.1) = ks := by
  unfold toksOf
  rw [List.map_map]
  show ks.map id = ks
  exact List.map_id _
theorem patch_fst (bl : Bool) (xs : List Tk) : (patch bl xs).map (·.1) = xs.map (·.1) := by
  unfold patch
  split
  · rename_i q
    rw [List.map_append, List.map_singleton]
    have e : xs.dropLast ++ [xs.getLastD (0, false)] = xs := by
      obtain ⟨_, z⟩ := q
      rw [← List.dropLast_concat_getLast z, List.dropLast_concat, lastD_app _ _ (by simp)]; rfl
    conv => rhs; rw [← e, List.map_append, List.map_singleton]
  · rfl
theorem rows_snoc (bl : Bool) (ts : List Tk) : ∀ (way : List Int) (a : Nat), Wy a way → ∃ init m, rowsT bl ts a way = init ++ [patch bl (ts.drop m)] ∧ octs init (patch bl (ts.drop m)) = (ts.drop a).map (·.1)
  | [], a, _ => ⟨[], a, rfl, by unfold octs; rw [patch_fst]; rfl⟩
  | b :: l, a, h => by
    obtain ⟨h1, h2⟩ := h
    have h9 := Wy.le l b h2
    obtain ⟨m, rfl⟩ : ∃ m : Nat, b = (m : Int) := ⟨b.toNat, by omega⟩
    obtain ⟨init, k, e, o⟩ := rows_snoc bl ts l m h2
    refine ⟨(ts.take m).drop a :: init, k, by rw [rowsT, Int.toNat_natCast, e]; rfl, ?_⟩
    have hs := toks_split ts a m (by omega)
    rw [hs, List.map_append, ← o]
    unfold octs
    rw [List.flatMap_cons, List.append_assoc]
theorem solid_app {a b : List Nat} (hb : Solid b) (hne : b ≠ []) : Solid (a ++ b) := by
  rcases hb with h | ⟨x, k, e, h1, h2⟩
  · exact absurd h hne
  · exact .inr ⟨a ++ x, k, by rw [e, List.append_assoc], h1, h2⟩
theorem esc_solid (k : Nat) (h : k < 256) : Solid [61, hexC (k / 16), hexC (k % 16)] := by
  have := hexC_ok (k % 16) (by omega)
  exact .inr ⟨[61, hexC (k / 16)], hexC (k % 16), rfl, by omega, by omega⟩
theorem last_solid {ks : List Nat} (h : OctOK ks) (m : Nat) : Solid (toksT (patch (blankK (lastN ks)) ((toksOf ks).drop m))) := by
  by_cases hm : (toksOf ks).drop m = []
  · rw [hm]; left; simp [patch, toksT]
  · have hm8 : m ≤ 8 := by
      rcases Nat.lt_or_ge 8 m with q | q
      · exact absurd (List.drop_of_length_le (by rw [toksOf_len, h.len]; omega)) hm
      · exact q
    obtain ⟨d8, _⟩ := toks_last h.len
    have hsp : (toksOf ks).drop m = ((toksOf ks).take 8).drop m ++ [tkOf (lastN ks)] := by rw [toks_split _ m 8 hm8, d8]
    have hk : lastN ks < 256 := by
      have hl := h.len
      match ks, hl with
      | [a, b, c, d, e, f, g, i, j], _ => exact (h.ok j (by simp)).1
    unfold patch
    rw [hsp]
    by_cases hb : blankK (lastN ks) = true
    · rw [if_pos ⟨hb, by simp⟩, List.dropLast_concat, lastD_app _ _ (by simp), toksT_append]
      exact solid_app (esc_solid _ hk) (by simp [toksT, tokT])
    · rw [if_neg (by simp [hb]), toksT_append]
      refine solid_app ?_ ?_
      · show Solid (tokT (tkOf (lastN ks)) ++ [])
        rw [List.append_nil]
        unfold tokT tkOf
        by_cases q : bareK (lastN ks) = true
        · rw [q]
          have := bare_range q
          have hb' : blankK (lastN ks) = false := by simpa using hb
          unfold blankK at hb'
          rw [Bool.or_eq_false_iff, beq_eq_false_iff_ne, beq_eq_false_iff_ne] at hb'
          exact .inr ⟨[], lastN ks, rfl, by omega, by omega⟩
        · simp only [Bool.not_eq_true] at q
          rw [q]
          exact esc_solid _ hk
      · intro q
        have := congrArg List.length q
        rw [toksT_cons, List.length_append, tokT_len, List.length_nil] at this
        split at this <;> omega
theorem rows_split {ks : List Nat} (h : OctOK ks) (way : List Int) (hw : Wy 0 way) (h8 : way.length ≤ 8) : ∃ init last, rowsT (blankK (lastN ks)) (toksOf ks) 0 way = init ++ [last] ∧ RowsG init last ∧ octs init last = ks ∧ (init ≠ [] ∨ last ≠ []) := by
  obtain ⟨init, m, e, o⟩ := rows_snoc (blankK (lastN ks)) (toksOf ks) way 0 hw
  have hok := rowsT_ok (blankK (lastN ks)) (toksOf_ok h) way 0
  have hlen := rowsT_len (blankK (lastN ks)) (toksOf ks) way 0
  rw [toksOf_len, h.len] at hok
  rw [e] at hok hlen
  rw [List.length_append, List.length_singleton] at hlen
  rw [List.drop_zero, toks_fst] at o
  refine ⟨init, _, e, ⟨by omega, fun r hr => hok r (List.mem_append.mpr (.inl hr)), hok _ (List.mem_append.mpr (.inr (List.mem_singleton.mpr rfl))), last_solid h m⟩, o, ?_⟩
  by_cases q : init = []
  · right
    intro z
    rw [q, z] at o
    have := congrArg List.length o
    rw [h.len] at this
    simp [octs] at this
  · exact .inl q
theorem out_cs (el : List Nat) (init : List (List Tk)) (last : List Tk) : outT el (init ++ [last]) = inter el (init.map (fun r => toksT r ++ [61]) ++ [toksT last]) := by
  unfold outT
  rw [List.map_append, List.map_singleton, inter_eq, List.map_map]; rfl
theorem psT_text (sp el : List Nat) (init : List (List Tk)) (last : List Tk) : textP ((psT sp init last).map fun c => (c, el)) [] = inter (sp ++ el) ((init.map (fun r => toksT r ++ [61]) ++ [toksT last]) ++ [[]]) := by
  rw [inter_text]
  unfold psT
  rw [List.map_append, List.map_append, List.map_map, List.map_map]; rfl
theorem psN_text (sp el : List Nat) (init : List (List Tk)) (last : List Tk) : textP ((psN sp init).map fun c => (c, el)) (toksT last) = inter (sp ++ el) (init.map (fun r => toksT r ++ [61]) ++ [toksT last]) := by
  rw [inter_text]
  unfold psN
  rw [List.map_map, List.map_map]; rfl
theorem toksT_free {l : List Tk} (h : ∀ p ∈ l, TkG p) : Free (toksT l) := ⟨fun q => by have := toksT_ch h _ q; omega, fun q => by have := toksT_ch h _ q; omega⟩
theorem free_app {a b : List Nat} (h : Free a) (k : Free b) : Free (a ++ b) := ⟨fun q => by rcases List.mem_append.mp q with q | q; exact h.1 q; exact k.1 q, fun q => by rcases List.mem_append.mp q with q | q; exact h.2 q; exact k.2 q⟩
theorem cs_free {init : List (List Tk)} {last : List Tk} (G : RowsG init last) : ∀ c ∈ init.map (fun r => toksT r ++ [61]) ++ [toksT last], Free c := by
  intro c hc
  rcases List.mem_append.mp hc with hc | hc
  · obtain ⟨r, hr, rfl⟩ := List.mem_map.mp hc
    exact free_app (toksT_free (G.ok r hr).2) ⟨by decide, by decide⟩
  · rw [List.mem_singleton.mp hc]; exact toksT_free G.okL.2
theorem sp0 : SpOK [] := ⟨fun x hx => (by cases hx), fun x hx => (by cases hx), by simp⟩
theorem sp2 : SpOK [32, 9] := ⟨fun x hx => by
  simp only [List.mem_cons, List.not_mem_nil, or_false] at hx
  rcases hx with rfl | rfl <;> decide +kernel, fun x hx => by
  simp only [List.mem_cons, List.not_mem_nil, or_false] at hx
  rcases hx with rfl | rfl <;> decide +kernel, by simp⟩
theorem outT_len {ks : List Nat} (h : OctOK ks) (el : List Nat) (hel : el.length ≤ 2) (way : List Int) (h8 : way.length ≤ 8) : (outT el (rowsT (blankK (lastN ks)) (toksOf ks) 0 way)).length ≤ 300 := by
  have hok := rowsT_ok (blankK (lastN ks)) (toksOf_ok h) way 0
  rw [toksOf_len, h.len] at hok
  have := inter_len (61 :: el) 27 ((rowsT (blankK (lastN ks)) (toksOf ks) 0 way).map toksT) fun x hx => by
    obtain ⟨r, hr, rfl⟩ := List.mem_map.mp hx
    have := toksT_le r; have := (hok r hr).1; omega
  rw [List.length_map, rowsT_len, List.length_cons] at this
  have h2 := Nat.mul_le_mul (show way.length + 1 ≤ 9 by omega) (show 27 + (el.length + 1) ≤ 30 by omega)
  unfold outT; omega
section
variable {c : Cx} {n : Nat}
theorem hand_ok (E : Env0 c) {ks en el : List Nat} (h : OctOK ks) (hel : EolOK el) (way : List Int) (hw : Wy 0 way) (h8 : way.length ≤ 8) : HandOK c (n + 9) (.ref 109) (.ref 72) ks (tailL en el) el (blankS ks) way := by
  have hell : el.length ≤ 2 := by rcases hel with rfl | rfl <;> simp
  have hL := outT_len h el hell way h8
  have htl : (tailL en el).length ≤ 2 := by unfold tailL; split; exact Nat.zero_le _; exact hell
  obtain ⟨init, last, e, G, o, hne⟩ := rows_split h way hw h8
  have hlet : Fn c (n + 9) (.ref 109) [strsOf ks codeS, intsD way, .str (blankS ks), .str (mkS el)] (.str (mkS (outT el (rowsT (blankK (lastN ks)) (toksOf ks) 0 way)))) := by
    refine f_letter E _ _ _ _ _ ?_
    exact letter_run E.tops ks el h hell way hw h8
  refine ⟨⟨_, by omega, hlet, ?_, ?_⟩⟩
  · refine f_dec E _ _ _ ?_
    rw [e, out_cs]
    unfold tailL dueOf
    by_cases q : en = []
    · rw [if_pos q, if_pos rfl, List.append_nil, List.append_nil]
      have x := dec_none (c := c) (n := n + 8) E.tops E.hexd (.ref 44) E.unq (fun k hk => f_unquote E k hk) G (eolD := [60, 62]) hel sp0 (by simp) (by simp) hne
      rw [psN_text, o] at x
      exact x
    · have hel0 : el ≠ [] := by rcases hel with rfl | rfl <;> simp
      rw [if_neg q, if_neg hel0, ← inter_snoc _ _ (by simp)]
      have x := dec_tail (c := c) (n := n + 8) E.tops E.hexd (.ref 44) E.unq (fun k hk => f_unquote E k hk) G (eolD := [60, 62]) hel sp0 (by simp)
      rw [psT_text, o] at x
      exact x
  · refine f_dec E _ _ _ ?_
    rw [e, out_cs, mkS_append]
    unfold tailL dueOf
    by_cases q : en = []
    · rw [if_pos q, if_pos rfl, List.append_nil, List.append_nil, replace_mk hel (by simp) _ (by simp) (cs_free G)]
      have x := dec_none (c := c) (n := n + 8) E.tops E.hexd (.ref 44) E.unq (fun k hk => f_unquote E k hk) G (eolD := [60, 62]) hel sp2 (by simp) (by simp) hne
      rw [psN_text, o] at x
      exact x
    · have hel0 : el ≠ [] := by rcases hel with rfl | rfl <;> simp
      rw [if_neg q, if_neg hel0, ← inter_snoc _ _ (by simp), replace_mk hel (by simp) _ (by simp) (fun c hc => by
        rcases List.mem_append.mp hc with hc | hc
        · exact cs_free G c hc
        · rw [List.mem_singleton.mp hc]; exact ⟨by simp, by simp⟩)]
      have x := dec_tail (c := c) (n := n + 8) E.tops E.hexd (.ref 44) E.unq (fun k hk => f_unquote E k hk) G (eolD := [60, 62]) hel sp2 (by simp)
      rw [psT_text, o] at x
      exact x
theorem lineOK (E : Env0 c) (ks : List Nat) (w : Int) (en el : List Nat) (h : OctOK ks) (h4 : 4 ≤ w) (h7 : w ≤ 7) (hen : EndOK en) (hel : EolOK el) : ∃ W K, LineOK c (n + 9) fvL ks w en el W K := by
  have hell : el.length ≤ 2 := by rcases hel with rfl | rfl <;> simp
  have Z := SZ.of h h4 h7
  have F := Z.fd
  have hN : topN (sizesOf ks) (extraOf ks) ≤ 10 := by rw [Z.top]; split <;> omega
  obtain ⟨K, hK, S⟩ := Z.ws
  have hwy : ∀ u : List Int, Ch (lf (sizesOf ks)) w (topN (sizesOf ks) (extraOf ks)) 0 u → Wy 0 u := fun u hu => inc_wy hN u 0 (by omega) (ch_inc u 0 hu)
  have hx0 : 0 ≤ extraOf ks ∧ extraOf ks ≤ 2 := by unfold extraOf; split <;> omega
  have hways : Fn c (n + 9) (.ref 104) [intsD (sizesOf ks), .int w, .int (extraOf ks)] (wsD (waysN (sizesOf ks) w (extraOf ks) (sizesOf ks).length [[0]])) := by
    refine f_ways E _ _ _ _ ?_
    exact x_ways (c := c) (n := n) E.tops (sizesOf ks) w (extraOf ks) (by rw [Z.len]; omega) hx0.1 hx0.2 (fun rows => ∃ m, Lv (sizesOf ks) w (extraOf ks) m rows) ⟨0, Lv.zero _ _ _⟩ fun rows ⟨m, hm⟩ => ⟨(hm.ok Z).2, by have := (hm.succ.ok Z).1; omega, m + 1, hm.succ⟩
  have hfew := S.few F hN
  generalize waysN (sizesOf ks) w (extraOf ks) (sizesOf ks).length [[0]] = W at *
  have hW0 : ∃ u, W[0]? = some u ∧ u.length = K := by
    have hp := List.length_pos_iff.mpr S.ne
    exact ⟨W[0], List.getElem?_eq_getElem hp, S.len _ (List.getElem_mem hp)⟩
  have hmax : ∀ u ∈ W, ∀ i, i < K → 1 * u.getD i 0 ≤ 1 * (latestOf W K).getD i 0 := fun u hu i hi => by
    unfold latestOf
    rw [map_range_getD _ _ _ hi]
    have := maxL_le (colOf W i) (u.getD i 0) (List.mem_map.mpr ⟨u, hu, rfl⟩)
    omega
  have hmin : ∀ u ∈ W, ∀ i, i < K → -1 * u.getD i 0 ≤ -1 * (earliestOf W K).getD i 0 := fun u hu i hi => by
    unfold earliestOf
    rw [map_range_getD _ _ _ hi]
    have := minL_le (colOf W i) (u.getD i 0) (List.mem_map.mpr ⟨u, hu, rfl⟩)
    omega
  have hCI : ∀ (top : List Int) (left : List (List Int)), CI W K top left → (∀ u ∈ left, u.length = K) ∧ left.length ≤ 27 ∧ left ≠ [] := fun top left I => by
    obtain ⟨P, hP⟩ := I.of
    refine ⟨fun u hu => S.len u ((hP u).mp hu).1, ?_, List.ne_nil_of_mem I.top⟩
    have := nodup_le left W I.nd fun u hu => ((hP u).mp hu).1
    omega
  have hup : Fn c (n + 9) (.ref 114) [wsD W, .val (.ref 99), .int 1] (wsD [latestOf W K]) := by
    refine f_climb E _ _ _ _ ?_
    rw [← climb_end S F pk_high hmax (fun H hne hH => S.high F H hne hH) (W.length - 1) W ⟨S.nodup, S.latest F, fun _ _ => True, fun u => ⟨fun hu => ⟨hu, fun _ _ => trivial⟩, fun hu => hu.1⟩⟩ (by omega)]
    exact x_climb (c := c) (n := n) E.tops (.ref 99) (d_median_high E).plain highM 1 (.inl rfl) W K (by omega) hW0 (by omega) (CI W K (latestOf W K)) ⟨S.nodup, S.latest F, fun _ _ => True, fun u => ⟨fun hu => ⟨hu, fun _ _ => trivial⟩, fun hu => hu.1⟩⟩ fun left I => by
      obtain ⟨a, b, _, _⟩ := CI.step S F pk_high hmax (fun H hne hH => S.high F H hne hH) I
      obtain ⟨i1, i2, i3⟩ := hCI _ left I
      exact ⟨⟨List.contains_iff_mem.mpr a, i1, by omega, fun i _ => f_high E _ (by simpa using i3) (by rw [List.length_map]; omega)⟩, b⟩
  have hdown : Fn c (n + 9) (.ref 114) [wsD W, .val (.ref 92), .int (-1)] (wsD [earliestOf W K]) := by
    refine f_climb E _ _ _ _ ?_
    rw [← climb_end S F pk_low hmin (fun H hne hH => S.low F H hne hH) (W.length - 1) W ⟨S.nodup, S.earliest F, fun _ _ => True, fun u => ⟨fun hu => ⟨hu, fun _ _ => trivial⟩, fun hu => hu.1⟩⟩ (by omega)]
    exact x_climb (c := c) (n := n) E.tops (.ref 92) (d_median_low E).plain lowM (-1) (.inr rfl) W K (by omega) hW0 (by omega) (CI W K (earliestOf W K)) ⟨S.nodup, S.earliest F, fun _ _ => True, fun u => ⟨fun hu => ⟨hu, fun _ _ => trivial⟩, fun hu => hu.1⟩⟩ fun left I => by
      obtain ⟨a, b, _, _⟩ := CI.step S F pk_low hmin (fun H hne hH => S.low F H hne hH) I
      obtain ⟨i1, i2, i3⟩ := hCI _ left I
      exact ⟨⟨List.contains_iff_mem.mpr a, i1, by omega, fun i _ => f_low E _ (by simpa using i3) (by rw [List.length_map]; omega)⟩, b⟩
  refine ⟨W, K, ⟨S.ne, S.len, by omega, S.k1, by omega⟩, hways, ?_, ?_, ?_, ?_, hup, hdown⟩
  · obtain ⟨l, g, x⟩ := be_late (c := c) (n := n + 8) E.tops E.tabs E.crlf (.ref 51) E.fv.q (fun k hk => f_quote E k hk) h hen hell w h4 h7
    have hl := g.latest S F
    have hlK : l.length = K := by rw [← hl]; exact S.len _ (S.latest F)
    have hL := outT_len h el hell l (by omega)
    have htl : (tailL en el).length ≤ 2 := by unfold tailL; split; exact Nat.zero_le _; exact hell
    refine ⟨_, outT el (rowsT (blankK (lastN ks)) (toksOf ks) 0 l), by omega, rfl, ?_, ?_⟩
    · refine f_be E _ _ _ _ ?_
      assumption
    · rw [hl]
      refine f_letter E _ _ _ _ _ ?_
      exact letter_run E.tops ks el h hell l (hwy l g.ch.1) (by omega)
  · have hw0 : Wy 0 [] := by show (0 : Int) ≤ 9; omega
    have hL := outT_len h [10] (by simp) [] (by simp)
    refine ⟨outT [10] (rowsT (blankK (lastN ks)) (toksOf ks) 0 []), by omega, ?_, ?_, ?_⟩
    · refine f_letter E _ _ _ _ _ ?_
      exact letter_run E.tops ks [10] h (by simp) [] hw0 (by simp)
    · refine f_be1 E _ _ ?_
      exact be_whole (c := c) (n := n + 8) E.tops E.tabs E.crlf (.ref 51) E.fv.q (fun k hk => f_quote E k hk) h
    · refine f_dec1 E _ _ ?_
      obtain ⟨init, last, e, G, o, hne⟩ := rows_split h [] hw0 (by simp)
      rw [e, out_cs, ← inter_snoc _ _ (by simp)]
      have x := dec_tail (c := c) (n := n + 8) E.tops E.hexd (.ref 44) E.unq (fun k hk => f_unquote E k hk) G (el := [10]) (eolD := [10]) (.inl rfl) sp0 (by simp)
      rw [psT_text, o] at x
      exact x
  · intro u hu
    obtain ⟨l, hc, _⟩ := (S.mem u).mp hu
    exact hand_ok E h hel u (hwy u hc) (by omega)
  · intro H hne hH
    refine ⟨?_, ?_, S.near F H hne hH⟩
    · rw [votes_map]; exact S.low F H hne hH
    · rw [votes_map]; exact S.high F H hne hH
/-- the body of law -/
theorem law_all (E : Env0 c) (ns : List Int) (hns : ns.length ≤ 63) : ExsF 0 c (n + 9) (fS 30) (Cells 30) none (upds (fun _ => none) ["script"] [intsD ns]) [] (fB 30) (.ret (.bool true)) := by
  refine x_law (n := n + 1) E.tops E.ve E.st fvL E.fv (fnsOK E) ns hns ?_
  intro ks w en el h h4 h7 hen hel
  exact lineOK E ks w en el h h4 h7 hen hel
end
end Qp
namespace Qp
open PySem PySem.Calls PyProof.Rows PySem.W
section
variable {c : Cx} {n : Nat}
theorem Fn0.def {a : Addr} {o : Obj} {fd : FuncData} {body : List Stmt} {scope : Scope} {xs : List Str} {as dd : List D} {dv : List Value} {d : D} (G : c.Good)
    (ho : c.hT.get? a = some o) (hd : o.data = .func fd) (hbody : fd.body = .stmts body) (hsc : fd.scope = scope) (hg : fd.globals = mainGlobals) (hb : fd.builtins = builtinsNs) (hcl : fd.closure = []) (hcd : c.hT.CodeRec fd.code fd.qualname)
    (hk : scope.kind = .function) (hco : scope.isCoroutine = false) (hgen : scope.isGenerator = false)
    (hdv : ∀ F : Addr → Prop, (∀ a, F a → c.hT.get? a = none) → Reps F c.hT dv dd)
    (hbind : ∀ (s : Shared) (vs : List Value), vs.length = as.length → (∀ b o, c.hT.get? b = some o → s.heap.get? b = some o) → BindsTo s fd ⟨vs, []⟩ (xs.zip (vs ++ dv)))
    (hxs : (xs.all fun x => scope.names.lookup x == some .local || scope.names.lookup x == some .cell) = true)
    (hx : ExsF 0 c n scope (fun x => scope.names.lookup x = some .cell) none (upds (fun _ => none) xs (as ++ dd)) [] body (.ret d)) :
    ∀ (F : Addr → Prop) (A : Around) (s : Shared) (vs : List Value), Ok c (n + 1) F A s.heap → Reps F s.heap vs as → A.frames = some [] → W c A s (call (.ref a) vs) fun v h' => Rep F h' v d := fun F A s vs k rs hfr => by
  refine wpAny_call (codeAny_call_function k.room.d (k.keep _ _ ho) hd (by rw [hsc]; exact hco) (by rw [hsc]; exact hgen) hbody (hcd.keeps k.keep) ?_)
  refine hbind s vs rs.length k.keep _ _ _ _ ?_
  rw [hcl, hsc, hg, hb]
  have mem_of : ∀ {x v}, (x, v) ∈ xs.zip (vs ++ dv) → x ∈ xs := fun h => (List.of_mem_zip h).1
  have hkind : ∀ x ∈ xs.zip (vs ++ dv), scope.names.lookup x.1 = some .local ∨ (scope.names.lookup x.1 = some .cell ∧ ((cellsFrom (s.heap.objs.size + 1) scope.names []).lookup x.1).isSome = true) := fun x hm => by
    have := List.all_eq_true.mp hxs x.1 (mem_of (show (x.1, x.2) ∈ _ from hm))
    rcases Bool.or_eq_true_iff.mp this with q | q
    · exact .inl (by simpa using q)
    · have q' : scope.names.lookup x.1 = some .cell := by simpa using q
      exact .inr ⟨q', PySem.W.cellsFrom_some _ _ _ (.inl q')⟩
  refine wpAny_newFunctionEnv_cells hk hkind fun env he s' ic => ?_
  have kp := ic.toInCall.keep
  refine ⟨(G.nolimit.keeps k.keep).keeps kp, codeAny_func ?_⟩
  have esc : env.scope = scope := by rw [he]; rfl
  have eF : env.frame = some env.locals := by rw [he]; rfl
  have eL : env.locals = s.heap.objs.size := by rw [he]; rfl
  have eC : env.cells = cellsFrom (s.heap.objs.size + 1) scope.names [] := by rw [he]; rfl
  have eo : EnvOK env := ⟨by rw [esc]; exact hk, by rw [he]; rfl, by rw [he]; rfl, ic.apart⟩
  obtain ⟨h', tk', rfl⟩ := ic.toInCall.same
  let P : Addr → Prop := fun a => a = env.locals ∨ ∃ x, env.cells.lookup x = some a
  let F' : Addr → Prop := fun a => F a ∨ P a
  have lt : s.heap.objs.size ≤ env.locals := by rw [eL]; exact Nat.le_refl _
  have pn : ∀ a, P a → s.heap.get? a = none := fun a q => by
    rcases q with rfl | ⟨x, q⟩
    · exact fresh_ge lt
    · exact fresh_ge (Nat.le_trans lt (Nat.le_of_lt (ic.above x a (mem_of_lookup q))))
  have own_look : ∀ x, scope.names.lookup x = some .cell → ∃ b, env.cells.lookup x = some b := fun x q => by
    rw [eC]; exact Option.isSome_iff_exists.mp (PySem.W.cellsFrom_some _ _ _ (.inl q))
  have plive : ∀ a, P a → ∃ o, h'.get? a = some o := fun a q => by
    rcases q with rfl | ⟨x, q⟩
    · obtain ⟨o, _, _, e, _⟩ := ic.toInCall.ns; exact ⟨o, e⟩
    · obtain ⟨o, e, _⟩ := ic.cell x a q; exact ⟨o, e⟩
  have F'new : ∀ a, F' a → F a ∨ s.heap.get? a = none := fun a q => q.imp id (pn a)
  have hTs : ∀ b, s.heap.get? b = none → c.hT.get? b = none := fun b e => by
    cases q : c.hT.get? b with
    | none => rfl
    | some o => rw [k.keep b o q] at e; cases e
  have ok' : Ok c n F' (A.deeper env) h' := ⟨k.room.deeper, fun b o e => kp b o (k.keep b o e), fun a q => q.elim (k.lo a) fun z => hTs a (pn a z), fun a q => by
    rcases q with q | q
    · obtain ⟨o, e⟩ := k.hi a q; exact ⟨o, kp _ _ e⟩
    · exact plive a q⟩
  have rall : Reps F' h' (vs ++ dv) (as ++ dd) := Reps.append ((Reps.sub F'new _ rs).ext kp) (Reps.keep (fun b o _ e => kp b o (k.keep b o e)) _ (hdv F' ok'.lo))
  have bindsOk : ∀ (xs : List Str) (vs : List Value) (ds : List D) (m cm : Str → Option Value) (ρ : Str → Option D), Reps F' h' vs ds → (∀ x d, env.kindOf x = some .local → ρ x = some d → ∃ v, m x = some v ∧ Rep F' h' v d) → (∀ x d, env.kindOf x ≠ some .local → ρ x = some d → ∃ v, cm x = some v ∧ Rep F' h' v d) →
      (∀ x d, env.kindOf x = some .local → upds ρ xs ds x = some d → ∃ v, bindL env.kindOf (xs.zip vs) m x = some v ∧ Rep F' h' v d) ∧ (∀ x d, env.kindOf x ≠ some .local → upds ρ xs ds x = some d → ∃ v, bindC env.kindOf (xs.zip vs) cm x = some v ∧ Rep F' h' v d) := by
    intro xs
    induction xs with
    | nil => intro vs ds m cm ρ _ h1 h2; cases ds <;> exact ⟨h1, h2⟩
    | cons y ys ih =>
      intro vs ds m cm ρ r h1 h2
      cases ds with
      | nil => simp only [Reps] at r; subst r; exact ⟨h1, h2⟩
      | cons d' ds =>
        simp only [Reps] at r
        obtain ⟨v', vs', rfl, r', rs'⟩ := r
        simp only [List.zip_cons_cons, upds, bindL, bindC]
        refine ih vs' ds _ _ _ rs' (fun x d hk' e => ?_) (fun x d hk' e => ?_)
        · unfold upd at e
          by_cases z : x = y
          · subst z; rw [if_pos rfl] at e; cases e; rw [if_pos hk']; exact ⟨v', by simp, r'⟩
          · rw [if_neg z] at e
            obtain ⟨v, e', q⟩ := h1 x d hk' e
            refine ⟨v, ?_, q⟩
            split
            · simp [z, e']
            · exact e'
        · unfold upd at e
          by_cases z : x = y
          · subst z; rw [if_pos rfl] at e; cases e; rw [if_neg hk']; exact ⟨v', by simp, r'⟩
          · rw [if_neg z] at e
            obtain ⟨v, e', q⟩ := h2 x d hk' e
            refine ⟨v, ?_, q⟩
            split
            · exact e'
            · simp [z, e']
  obtain ⟨bl, bc⟩ := bindsOk xs (vs ++ dv) (as ++ dd) (fun _ => none) (fun _ => none) (fun _ => none) rall (fun _ _ _ e => by cases e) (fun _ _ _ e => by cases e)
  have fm : Fm F' P env (fun x => scope.names.lookup x = some .cell) (upds (fun _ => none) xs (as ++ dd)) h' := by
    refine ⟨⟨⟨_, ic.toInCall.ns, bl⟩, fun x d hl e => ?_, fun x a l => by obtain ⟨o, e, _⟩ := ic.cell x a l; exact ⟨o, e⟩⟩, fun a q => .inr q, .inl rfl, ic.apart, fun x ho' => ?_⟩
    · have hnl : env.kindOf x ≠ some .local := by rcases hl with q | q <;> (rw [q]; decide)
      obtain ⟨v, e', r⟩ := bc x d hnl e
      have hxm : x ∈ xs := Classical.byContradiction fun q => by rw [upds_other q] at e; cases e
      have := List.all_eq_true.mp hxs x hxm
      have hkc : scope.names.lookup x = some .cell := by
        rcases Bool.or_eq_true_iff.mp this with q | q
        · exfalso; apply hnl; unfold Env.kindOf; rw [esc]; simpa using q
        · simpa using q
      obtain ⟨b, hb'⟩ := own_look x hkc
      have hc := ic.cell x b hb'
      rw [e'] at hc
      obtain ⟨o', g, hd'⟩ := hc
      exact ⟨b, o', v, hb', g, hd', r⟩
    · obtain ⟨b, hb'⟩ := own_look x ho'
      exact ⟨by unfold Env.kindOf; rw [esc]; exact ho', b, _, hb', ic.cell x b hb', .inr ⟨x, hb'⟩⟩
  refine (hx F' P (A.deeper env) { s with heap := h', toks := tk' } env ⟨ok', esc, eo, fm, trivial⟩ (Nat.zero_le _) ⟨Around.frames_deeper hfr, eF⟩).use fun fl h₂ t₂ x₂ q => ?_
  obtain ⟨v, rfl, r⟩ := q
  refine ⟨h₂, t₂, rfl, fun b o e => x₂.1 b o (fun q => ?_) (kp b o e), Rep.sub (fun a q => .inl (.inl q)) _ r⟩
  have hp : P b := by
    rcases q with (q | ⟨x, ow, l⟩) | ⟨ma, q⟩
    · exact .inl q
    · exact .inr ⟨x, l⟩
    · cases q
  rw [pn b hp] at e; cases e

end
end Qp
namespace Qp
open PySem PySem.Calls PyProof.Rows PySem.W
section
variable {c : Cx}
theorem reps_ints {F : Addr → Prop} {h : Heap} {vs : List Value} {ns : List Int} (q : IntsAre vs ns) : Reps F h vs (ns.map D.int) := by
  induction q with
  | nil => exact Reps.nil
  | cons _ _ _ ih => exact Reps.cons ⟨_, rfl⟩ ih
theorem law_entry (E : Env0 c) (s : Shared) (hs : s.heap = c.hT) (l : Addr) (vs : List Value) (ns : List Int) (hL : s.heap.IsList l vs.toArray) (hI : IntsAre vs ns) (hn : ns.length ≤ 63) :
    W c callerA s (call (.ref 119) [.ref l]) fun v _ => v = .bool true := by
  obtain ⟨o, fd, ho, hd', hb, hsc, hg, hbb, hcl, hcd, hbd⟩ := (d_law E).ex
  have hx := law_all (c := c) (n := 0) E ns hn
  have fin : W c callerA s (call (.ref 119) [.ref l]) fun v h' => Rep (fun _ => False) h' v (.bool true) := by
    refine Fn0.def (c := c) (n := 9) (xs := ["script"]) (as := [intsD ns]) (dd := []) (dv := []) E.good ho hd' hb hsc hg hbb hcl hcd (by kernel_rfl) (by kernel_rfl) (by kernel_rfl) (fun _ _ => Reps.nil) (fun s vs hv hk => hbd s vs hv hk) (by kernel_rfl) ?_ (fun _ => False) callerA s [.ref l] ?_ ?_ rfl
    · assumption
    · exact ⟨⟨rfl, by decide +kernel, by decide +kernel⟩, fun b o e => by rw [hs]; exact e, fun _ q => q.elim, fun _ q => q.elim⟩
    · exact Reps.one ⟨l, vs, rfl, fun q => q, hL, reps_ints hI⟩
  exact fin.mono fun v h' _ q => q
end
end Qp
open PySem PySem.W PyProof.Rows
set_option maxHeartbeats 8000000 in
theorem PySem.Challenge.cw_rs0126_01_holds : PySem.Challenge.rw_rs0126_01.Holds := by
  refine Qp.hdH fun d kwd hdef => ?_
  intro w s₀ s₁ mg mb G Y fa o pm cd doc dV kV ho hd hcd hD hmg hg args vals as hpre hlay hrd hwl hlo
  have KX : (Qp.heapK w.params).In s₁.heap := Y
  refine Ground.open G ?_
  intro T B D TE TW
  wrow_args hpre hlay hrd hwl hlo
  rename Heap.IsList _ _ _ => hL
  rename IntsAre _ _ => hI
  rename ¬ (_ < _) => hc
  have E : Qp.Env0 ⟨PySem.Challenge.rw_rs0126_01.row.prog, w, s₁.heap, mg, mb⟩ := ⟨KX, ⟨T.g, T.b, T.nolimit, T.nodigits⟩, T.builtins⟩
  have hfa : mg "law" = some (.ref 119) := (E.mg "law").trans (by kernel_rfl)
  have h2 : mg "law" = some (.ref fa) := defOf_name hdef ▸ hmg
  rw [hfa] at h2
  cases h2
  refine (Qp.law_entry E s₁ rfl _ _ _ hL hI (by omega)).use fun v h' tk ex q => ?_
  subst q
  exact ⟨.inl ⟨_, .bool true, [], rfl, fun _ => rfl, .bool true, by kernel_rfl, fun _ => ⟨List.nodup_nil, fun _ h => nomatch h⟩⟩, .of_keep ex, rfl, .of_eq hg⟩
