import PyProof.Rows.All
import Wide.All
import OpenK.AllK
import Wide.FinOn
import Open.Pieces
import Open.Line
import KE.KNestM
import PyProof.InstLoad
import PyProof.InstFacts
import PyProof.Conv_int
import PyProof.IsiPairs
import PyProof.DictTable
import PyProof.DictKinds
import PyProof.DictStraight
import KE.KLam
import OpenK.KGet
import PyProof.Rows.ListDel
import PyProof.Rows.DictMethods
import PyProof.RulesDel
import PyProof.ListIndex
import KE.KItem
import PyProof.Rows.GenRowsK
import PyProof.Rows.GenSrc
import PyProof.JoinWalk
import PyProof.GenCompD
import PyProof.Rows.JoinGen
import PyProof.StrCalls6
import PyProof.StrLawsChain
import PyProof.ToksMono
import KE.KIntText
import Lean
import PySem.Challenge.RW_ij0049_01
open PySem PySem.W PyProof.Rows
set_option Elab.async false
set_option maxRecDepth 100000
set_option linter.unusedVariables false
set_option linter.unusedSimpArgs false
set_option autoImplicit false
set_option tactic.hygienic false
namespace Mine

inductive V where
  | undef | none | bool (b : Bool) | int (i : Int) | str (s : List Nat)
  | tup (l : List V) | list (l : List V) | mut (a : Addr) | obj (a : Addr) | app (a : Addr) | rng (a b c : Int)

noncomputable abbrev S (l : List Nat) : Str := ⟨l.toArray⟩

noncomputable abbrev FH := Addr → Option Obj
noncomputable def FH.le (z z' : FH) : Prop := ∀ a o, z a = some o → z' a = some o
theorem FH.le.refl (z : FH) : FH.le z z := fun zu zu e => e
theorem FH.le.trans {z z' z'' : FH} (h : FH.le z z') (h' : FH.le z' z'') : FH.le z z'' := fun a o e => h' a o (h a o e)

noncomputable abbrev lstO (vs : Array Value) (n : Nat) : Obj := { cls := .type "list", data := .seq vs n }
noncomputable abbrev tupO (vs : Array Value) (n : Nat) : Obj := { cls := .type "tuple", data := .seq vs n }
noncomputable abbrev objO : Obj := { cls := .type "object" }
noncomputable abbrev appO (a : Addr) : Obj := { cls := .type "builtin_function_or_method", data := .fields #[.builtin "list.append", .ref a] }

mutual
inductive Rep (z : FH) : V → Value → Prop where
  | none : Rep z .none .none
  | bool (b : Bool) : Rep z (.bool b) (.bool b)
  | int (i : Int) (t : Tok) : Rep z (.int i) (.int i t)
  | str (s : List Nat) (t : Tok) : Rep z (.str s) (.str (S s) t)
  | tup {l : List V} {a : Addr} {vs : List Value} {n : Nat} : z a = some (tupO vs.toArray n) → Reps z l vs → Rep z (.tup l) (.ref a)
  | list {l : List V} {a : Addr} {vs : List Value} {n : Nat} : z a = some (lstO vs.toArray n) → Reps z l vs → Rep z (.list l) (.ref a)
  | mut (a : Addr) : Rep z (.mut a) (.ref a)
  | obj {a : Addr} : z a = some objO → Rep z (.obj a) (.ref a)
  | app {a b : Addr} : z b = some (appO a) → Rep z (.app a) (.ref b)
  | rng {x : Addr} {a b c : Int} {t u v : Tok} : z x = some { cls := .type "range", data := .fields #[.int a t, .int b u, .int c v] } → Rep z (.rng a b c) (.ref x)
inductive Reps (z : FH) : List V → List Value → Prop where
  | nil : Reps z [] []
  | cons {d : V} {v : Value} {l : List V} {vs : List Value} : Rep z d v → Reps z l vs → Reps z (d :: l) (v :: vs)
end

mutual
theorem Rep.mono {z z' : FH} (h : FH.le z z') : ∀ {d : V} {v : Value}, Rep z d v → Rep z' d v
  | _, _, .none => .none
  | _, _, .bool b => .bool b
  | _, _, .int i t => .int i t
  | _, _, .str s t => .str s t
  | _, _, .tup e r => .tup (h _ _ e) (Reps.mono h r)
  | _, _, .list e r => .list (h _ _ e) (Reps.mono h r)
  | _, _, .mut a => .mut a
  | _, _, .obj e => .obj (h _ _ e)
  | _, _, .app e => .app (h _ _ e)
  | _, _, .rng e => .rng (h _ _ e)
theorem Reps.mono {z z' : FH} (h : FH.le z z') : ∀ {l : List V} {vs : List Value}, Reps z l vs → Reps z' l vs
  | _, _, .nil => .nil
  | _, _, .cons a r => .cons (Rep.mono h a) (Reps.mono h r)
end

theorem Reps.length {z : FH} : ∀ {l : List V} {vs : List Value}, Reps z l vs → l.length = vs.length
  | _, _, .nil => rfl
  | _, _, .cons _ r => congrArg (· + 1) r.length
theorem Reps.get {z : FH} : ∀ {l : List V} {vs : List Value}, Reps z l vs → ∀ {i : Nat} {d : V}, l[i]? = some d → ∃ v, vs[i]? = some v ∧ Rep z d v
  | _, _, .nil, _, _, e => by simp at e
  | _, _, .cons a r, 0, d, e => by simp only [List.getElem?_cons_zero, Option.some.injEq] at e; subst e; exact ⟨_, rfl, a⟩
  | _, _, .cons a r, i + 1, d, e => by
    simp only [List.getElem?_cons_succ] at e ⊢
    exact r.get e
theorem Reps.get' {z : FH} : ∀ {l : List V} {vs : List Value}, Reps z l vs → ∀ {i : Nat} {v : Value}, vs[i]? = some v → ∃ d, l[i]? = some d ∧ Rep z d v
  | _, _, .nil, _, _, e => by simp at e
  | _, _, .cons a r, 0, d, e => by simp only [List.getElem?_cons_zero, Option.some.injEq] at e; subst e; exact ⟨_, rfl, a⟩
  | _, _, .cons a r, i + 1, d, e => by
    simp only [List.getElem?_cons_succ] at e ⊢
    exact r.get' e
theorem Reps.append {z : FH} : ∀ {l l' : List V} {vs vs' : List Value}, Reps z l vs → Reps z l' vs' → Reps z (l ++ l') (vs ++ vs')
  | _, _, _, _, .nil, h => h
  | _, _, _, _, .cons a r, h => .cons a (r.append h)
theorem Reps.take {z : FH} : ∀ {l : List V} {vs : List Value} (_ : Reps z l vs) (n : Nat), Reps z (l.take n) (vs.take n)
  | _, _, .nil, n => by simp; exact .nil
  | _, _, .cons a r, 0 => .nil
  | _, _, .cons a r, n + 1 => .cons a (r.take n)
theorem Reps.drop {z : FH} : ∀ {l : List V} {vs : List Value} (_ : Reps z l vs) (n : Nat), Reps z (l.drop n) (vs.drop n)
  | _, _, .nil, n => by simp; exact .nil
  | _, _, .cons a r, 0 => .cons a r
  | _, _, .cons a r, n + 1 => r.drop n
theorem Reps.reverse {z : FH} : ∀ {l : List V} {vs : List Value}, Reps z l vs → Reps z l.reverse vs.reverse
  | _, _, .nil => .nil
  | _, _, .cons a r => by simp only [List.reverse_cons]; exact r.reverse.append (.cons a .nil)
theorem Reps.set {z : FH} : ∀ {l : List V} {vs : List Value} (_ : Reps z l vs) (i : Nat) {d : V} {v : Value}, Rep z d v → Reps z (l.set i d) (vs.set i v)
  | _, _, .nil, i, _, _, _ => by simp; exact .nil
  | _, _, .cons a r, 0, _, _, h => .cons h r
  | _, _, .cons a r, i + 1, _, _, h => .cons a (r.set i h)
theorem Reps.erase {z : FH} : ∀ {l : List V} {vs : List Value} (_ : Reps z l vs) (i : Nat), Reps z (l.eraseIdx i) (vs.eraseIdx i)
  | _, _, .nil, i => by simp; exact .nil
  | _, _, .cons a r, 0 => r
  | _, _, .cons a r, i + 1 => .cons a (r.erase i)

structure TI where
  prog : Program
  w : World
  K : Frag
  mg : Str → Option Value
  mb : Str → Option Value

structure GdH (T : TI) (h : Heap) : Prop where
  k : T.K.In h
  g : h.Ns mainGlobals T.mg
  b : h.Ns builtinsNs T.mb
  lim : h.NoLimit
  bi : ∀ x : Str, x ≠ "__name__" → T.mb x = bootBuiltins x
  bm : ∃ bm ob, T.mg "__builtins__" = some (.ref bm) ∧ bm ≠ builtinsNs ∧ h.get? bm = some ob ∧ ob.cls = .type "module" ∧ ob.dict = some builtinsNs ∧ ob.data = .plain

structure FC where
  T : TI
  env : Env
  base : FH
  z0 : FH
  P : Addr
  os : OsState
  names : List Str
  own : Bool

noncomputable def isCel : Option NameKind → Bool
  | some .cell | some .free => true
  | _ => false

structure FC.Ok (C : FC) : Prop where
  nd : C.names.Nodup
  kind : C.env.scope.kind = .function
  gl : C.env.globals = mainGlobals
  bu : C.env.builtins = builtinsNs
  bL : C.base C.env.locals = none
  LP : C.env.locals ≠ C.P
  bP : C.base C.P = none
  bC : C.own = true → ∀ x c, C.env.cells.lookup x = some c → C.base c = none ∧ c ≠ C.P
  iC : ∀ x y c, C.env.cells.lookup x = some c → C.env.cells.lookup y = some c → x = y
  gd : ∀ h : Heap, (∀ a o, C.base a = some o → h.get? a = some o) → GdH C.T h

structure St where
  vars : List V
  mem : List (Addr × List V) := []
  raw : List (Addr × Obj) := []

noncomputable def Tab (h : Heap) (P : Addr) : Prop := ∃ ps, h.get? P = some (tabObj ps) ∧ TriplesOk ps.toList

structure Rel (C : FC) (z : FH) (σ : St) (s : Shared) : Prop where
  ok : C.Ok
  ns : ∃ m, s.heap.Ns C.env.locals m ∧ ∀ (i : Nat) x d, C.names[i]? = some x → σ.vars[i]? = some d → d ≠ .undef → C.env.kindOf x = some .local → ∃ v, m x = some v ∧ Rep z d v
  cel : ∀ (i : Nat) x d, C.names[i]? = some x → σ.vars[i]? = some d → isCel (C.env.kindOf x) = true → ∃ c ov, C.env.cells.lookup x = some c ∧ s.heap.IsCell c ov ∧ (d ≠ .undef → ∃ v, ov = some v ∧ Rep z d v)
  frz : ∀ a o, z a = some o → s.heap.get? a = some o
  zK : ∀ a o, C.T.K.lookup a = some o → z a = some o
  zP : z C.P = none
  zL : z C.env.locals = none
  zC : C.own = true → ∀ x c, C.env.cells.lookup x = some c → z c = none
  hC : ∀ x c, C.env.cells.lookup x = some c → ∃ o, s.heap.get? c = some o ∧ ∃ ov, o.data = .cell ov
  zin : ∀ a o, z a = some o → C.z0 a = some o ∨ (C.base a = none ∧ a ≠ C.P)
  keep : ∀ b o, C.base b = some o → s.heap.get? b = some o
  mem : ∀ a xs, (a, xs) ∈ σ.mem → z a = none ∧ C.base a = none ∧ a ≠ C.P ∧ ∃ vs n, s.heap.get? a = some (lstO (List.toArray vs) n) ∧ Reps z xs vs
  memnd : (σ.mem.map (·.1)).Nodup
  raw : ∀ a o, (a, o) ∈ σ.raw → s.heap.get? a = some o ∧ z a = none ∧ C.base a = none ∧ a ≠ C.P ∧ a ≠ C.env.locals ∧ (∀ x c, C.env.cells.lookup x = some c → a ≠ c) ∧ a ∉ σ.mem.map (·.1)
  tab : Tab s.heap C.P
  bare : AllBare s.gens
  os : s.os = C.os

structure Room (k : Nat) (A : Around) : Prop where
  h : A.handled = none
  d : A.depth + k < recursionLimit
  u : A.units + 8 * k + 128 < cLine

theorem Room.less {k k' : Nat} {A : Around} (r : Room k A) (h : k' ≤ k) : Room k' A := ⟨r.h, by have := r.d; lia, by have := r.u; lia⟩
theorem Room.in1 {k : Nat} {A : Around} (r : Room (k + 1) A) : Room k A.in1 := ⟨r.h, by have := r.d; simp only [Around.in1_depth]; lia, by have := r.u; simp only [Around.in1_units]; lia⟩
theorem Room.deeper {k : Nat} {A : Around} {env : Env} (r : Room (k + 1) A) : Room k (A.deeper env) := ⟨r.h, by have := r.d; have e : (A.deeper env).depth = A.depth + 1 := rfl; lia, by have := r.u; simp only [Around.deeper_units]; lia⟩

noncomputable def Post {α β : Type} (C : FC) (R : FH → β → α → Prop) (Q : β → St → Prop) (z : FH) (v : α) (s : Shared) : Prop :=
  ∃ d σ z', FH.le z z' ∧ Rel C z' σ s ∧ R z' d v ∧ Q d σ

theorem Post.le {α β : Type} {C : FC} {R : FH → β → α → Prop} {Q : β → St → Prop} {z z1 : FH} {v : α} {s : Shared} (h : FH.le z z1) (p : Post C R Q z1 v s) : Post C R Q z v s :=
  let ⟨d, σ, z', a, b⟩ := p; ⟨d, σ, z', h.trans a, b⟩
theorem Post.imp {α β : Type} {C : FC} {R : FH → β → α → Prop} {Q Q' : β → St → Prop} {z : FH} {v : α} {s : Shared} (p : Post C R Q z v s) (h : ∀ d σ, Q d σ → Q' d σ) : Post C R Q' z v s :=
  let ⟨d, σ, z', a, b, c, e⟩ := p; ⟨d, σ, z', a, b, c, h _ _ e⟩

noncomputable abbrev Mo (C : FC) : Model := model C.T.prog C.T.w
noncomputable abbrev NoE : Value → Shared → Prop := fun zu zu => False

noncomputable def WT {α β : Type} (k : Nat) (C : FC) (t : Sem α) (R : FH → β → α → Prop) (Q : β → St → Prop) (σ : St) : Prop :=
  ∀ A z s, Room k A → Rel C z σ s → wpAny (Mo C) A t (Post C R Q z) NoE s

inductive Fl where
  | next | brk | cont | ret (d : V)
inductive RepF (z : FH) : Fl → Flow → Prop where
  | next : RepF z .next .next
  | brk : RepF z .brk .brk
  | cont : RepF z .cont .cont
  | ret {d : V} {v : Value} : Rep z d v → RepF z (.ret d) (.ret v)

noncomputable def RepB (_ : FH) (b b' : Bool) : Prop := b = b'

noncomputable def WE (k : Nat) (C : FC) (e : Expr) (Q : V → St → Prop) (σ : St) : Prop := WT k C (eval e C.env) Rep Q σ
noncomputable def WA (k : Nat) (C : FC) (es : List Expr) (pos : Pos) (Q : List V → St → Prop) (σ : St) : Prop := WT k C (spliced (backTo pos (starEach es C.env))) Reps Q σ
noncomputable def WB (k : Nat) (C : FC) (e : Expr) (Q : Bool → St → Prop) (σ : St) : Prop := WT k C (isTrue e C.env (eval e C.env)) RepB Q σ
noncomputable def WS (k : Nat) (C : FC) (st : Stmt) (Q : Fl → St → Prop) (σ : St) : Prop := WT k C (exec st C.env) RepF Q σ
noncomputable def WSs (k : Nat) (C : FC) (sts : List Stmt) (Q : Fl → St → Prop) (σ : St) : Prop := WT k C (execs sts C.env) RepF Q σ

theorem WT.imp {α β : Type} {k : Nat} {C : FC} {t : Sem α} {R : FH → β → α → Prop} {Q Q' : β → St → Prop} {σ : St} (h : WT k C t R Q σ) (hq : ∀ d σ, Q d σ → Q' d σ) : WT k C t R Q' σ :=
  fun A z s hA hR => wpAny_mono (h A z s hA hR) (fun zu zu p => p.imp hq) fun zu zu x => x
theorem WT.less {α β : Type} {k k' : Nat} {C : FC} {t : Sem α} {R : FH → β → α → Prop} {Q : β → St → Prop} {σ : St} (h : WT k' C t R Q σ) (hk : k' ≤ k) : WT k C t R Q σ :=
  fun A z s hA hR => h A z s (hA.less hk) hR

section rel
variable {C : FC} {z z' : FH} {σ σ' : St} {s s' : Shared}

theorem Rel.gd (r : Rel C z σ s) : GdH C.T s.heap := r.ok.gd _ r.keep

theorem Rel.same (r : Rel C z σ s) (h : s'.heap = s.heap) (g : s'.gens = s.gens) (o : s'.os = s.os) : Rel C z σ s' where
  ok := r.ok
  ns := h ▸ r.ns
  cel := h ▸ r.cel
  frz := h ▸ r.frz
  zK := r.zK
  zP := r.zP
  zL := r.zL
  zC := r.zC
  hC := h ▸ r.hC
  zin := r.zin
  keep := h ▸ r.keep
  mem := h ▸ r.mem
  memnd := r.memnd
  raw := h ▸ r.raw
  tab := h ▸ r.tab
  bare := g ▸ r.bare
  os := o.trans r.os

theorem Rel.base_none (r : Rel C z σ s) {a : Addr} (h : s.heap.get? a = none) : C.base a = none := by
  cases e : C.base a with
  | none => rfl
  | some o => have := r.keep _ _ e; rw [h] at this; cases this
theorem Rel.ne_P (r : Rel C z σ s) {a : Addr} (h : s.heap.get? a = none) : a ≠ C.P := by
  rintro rfl
  obtain ⟨ps, e, _⟩ := r.tab
  rw [h] at e; cases e
theorem Rel.z_none (r : Rel C z σ s) {a : Addr} (h : s.heap.get? a = none) : z a = none := by
  cases e : z a with
  | none => rfl
  | some o => have := r.frz _ _ e; rw [h] at this; cases this

theorem Rel.ext (r : Rel C z σ s) (hk : ∀ a o, a ≠ C.P → s.heap.get? a = some o → s'.heap.get? a = some o) (hz : FH.le z z')
    (hf : ∀ a o, z' a = some o → s'.heap.get? a = some o) (hn : ∀ a o, z' a = some o → z a = some o ∨ s.heap.get? a = none)
    (ht : Tab s'.heap C.P) (hg : AllBare s'.gens) (ho : s'.os = s.os) : Rel C z' σ s' where
  ok := r.ok
  ns := by
    obtain ⟨m, ⟨o, es, ep, h1, h2⟩, h3⟩ := r.ns
    exact ⟨m, ⟨o, es, ep, hk _ _ r.ok.LP h1, h2⟩, fun i x d a b c e => let ⟨v, p, q⟩ := h3 i x d a b c e; ⟨v, p, q.mono hz⟩⟩
  cel := fun i x d a b c => by
    obtain ⟨ce, ov, h1, ⟨o, h2, h3⟩, h4⟩ := r.cel i x d a b c
    refine ⟨ce, ov, h1, ⟨o, hk _ _ ?_ h2, h3⟩, fun hd => let ⟨v, p, q⟩ := h4 hd; ⟨v, p, q.mono hz⟩⟩
    rintro rfl
    obtain ⟨ps, e, _⟩ := r.tab
    rw [e] at h2; cases h2; cases h3
  frz := hf
  zK := fun a o e => hz _ _ (r.zK a o e)
  zP := by
    cases e : z' C.P with
    | none => rfl
    | some o =>
      rcases hn _ _ e with h | h
      · rw [r.zP] at h; cases h
      · obtain ⟨ps, q, _⟩ := r.tab; rw [h] at q; cases q
  zL := by
    cases e : z' C.env.locals with
    | none => rfl
    | some o =>
      rcases hn _ _ e with h | h
      · rw [r.zL] at h; cases h
      · obtain ⟨m, ⟨o, es, ep, h1, _⟩, _⟩ := r.ns; rw [h] at h1; cases h1
  zC := fun ho x c hc => by
    cases e : z' c with
    | none => rfl
    | some o =>
      rcases hn _ _ e with h | h
      · rw [r.zC ho x c hc] at h; cases h
      · obtain ⟨o', h', _⟩ := r.hC x c hc; rw [h] at h'; cases h'
  hC := fun x c hc => by
    obtain ⟨o, h, ov, hd⟩ := r.hC x c hc
    refine ⟨o, hk _ _ ?_ h, ov, hd⟩
    rintro rfl
    obtain ⟨ps, e, _⟩ := r.tab
    rw [e] at h; cases h; cases hd
  zin := fun a o e => by
    rcases hn _ _ e with h | h
    · exact r.zin _ _ h
    · exact .inr ⟨r.base_none h, r.ne_P h⟩
  keep := fun b o e => hk _ _ (fun q => by rw [q, r.ok.bP] at e; cases e) (r.keep _ _ e)
  mem := fun a xs hm => by
    obtain ⟨h1, h2, h3, vs, n, h4, h5⟩ := r.mem a xs hm
    refine ⟨?_, h2, h3, vs, n, hk _ _ h3 h4, h5.mono hz⟩
    cases e : z' a with
    | none => rfl
    | some o =>
      rcases hn _ _ e with h | h
      · rw [h1] at h; cases h
      · rw [h] at h4; cases h4
  memnd := r.memnd
  raw := fun a o hm => by
    obtain ⟨h1, h2, h3, h4, h5⟩ := r.raw a o hm
    refine ⟨hk _ _ h4 h1, ?_, h3, h4, h5⟩
    cases e : z' a with
    | none => rfl
    | some o =>
      rcases hn _ _ e with h | h
      · rw [h2] at h; cases h
      · rw [h] at h1; cases h1
  tab := ht
  bare := hg
  os := ho.trans r.os

theorem push_get {h : Heap} {o : Obj} {a : Addr} {o' : Obj} (e : (h.push o).get? a = some o') : h.get? a = some o' ∨ (a = h.objs.size ∧ o' = o) := by
  rcases Nat.lt_trichotomy a h.objs.size with hlt | heq | hgt
  · left
    obtain ⟨e1, e2⟩ := Heap.get?_some_iff.mp e
    refine Heap.get?_some_iff.mpr ⟨?_, e2⟩
    have := Nat.ne_of_lt hlt
    cases h; simpa [Heap.push, Array.getElem?_push, this] using e1
  · right
    subst heq
    obtain ⟨e1, e2⟩ := Heap.get?_some_iff.mp e
    refine ⟨rfl, ?_⟩
    cases h; simp [Heap.push] at e1; exact e1.symm
  · have := Heap.lt_size e
    rw [Heap.size_push] at this
    exact absurd (Nat.le_of_lt_succ this) (Nat.not_le.mpr hgt)
theorem get_size_none (h : Heap) : h.get? h.objs.size = none := by
  cases e : h.get? h.objs.size with
  | none => rfl
  | some o => exact absurd (Heap.lt_size e) (Nat.lt_irrefl _)

noncomputable def FH.add (z : FH) (a : Addr) (o : Obj) : FH := fun b => if b = a then some o else z b
theorem FH.add_self (z : FH) (a : Addr) (o : Obj) : z.add a o a = some o := by simp [FH.add]
theorem FH.le_add {z : FH} {a : Addr} {o : Obj} (h : z a = none) : FH.le z (z.add a o) := fun b o' e => by
  unfold FH.add
  split
  · subst_vars; rw [h] at e; cases e
  · exact e

theorem Tab.keeps {h h' : Heap} {P : Addr} (t : Tab h P) (k : ∀ a o, h.get? a = some o → h'.get? a = some o) : Tab h' P :=
  let ⟨ps, e, r⟩ := t; ⟨ps, k _ _ e, r⟩

theorem Rel.alloc (r : Rel C z σ s) {o : Obj} (hf : o.isFreed = false) (h : s'.heap = s.heap.push o) (g : s'.gens = s.gens) (os : s'.os = s.os) :
    FH.le z (z.add s.heap.objs.size o) ∧ Rel C (z.add s.heap.objs.size o) σ s' := by
  have hn := get_size_none s.heap
  have hz := r.z_none hn
  have hk : ∀ a o', s.heap.get? a = some o' → s'.heap.get? a = some o' := fun a o' e => by rw [h]; exact Heap.get?_push_of_some _ e
  refine ⟨FH.le_add hz, r.ext (fun a o' zu e => hk a o' e) (FH.le_add hz) (fun a o' e => ?_) (fun a o' e => ?_) (r.tab.keeps hk) (g ▸ r.bare) os⟩
  · unfold FH.add at e
    split at e
    · subst_vars; cases e; rw [h]; exact Heap.get?_push_size _ hf
    · exact hk _ _ (r.frz _ _ e)
  · unfold FH.add at e
    split at e
    · subst_vars; exact .inr hn
    · exact .inl e
theorem Rel.junk (r : Rel C z σ s) {o : Obj} (h : s'.heap = s.heap.push o) (g : s'.gens = s.gens) (os : s'.os = s.os) : Rel C z σ s' := by
  have hk : ∀ a o', s.heap.get? a = some o' → s'.heap.get? a = some o' := fun a o' e => by rw [h]; exact Heap.get?_push_of_some _ e
  exact r.ext (fun a o' zu e => hk a o' e) (.refl z) (fun a o' e => hk _ _ (r.frz _ _ e)) (fun a o' e => .inl e) (r.tab.keeps hk) (g ▸ r.bare) os

theorem Rel.allocMut (r : Rel C z σ s) {vs : List Value} {xs : List V} {n : Nat} (hx : Reps z xs vs) (h : s'.heap = s.heap.push (lstO vs.toArray n)) (g : s'.gens = s.gens) (os : s'.os = s.os) :
    Rel C z { σ with mem := (s.heap.objs.size, xs) :: σ.mem } s' := by
  have hn := get_size_none s.heap
  have j := r.junk h g os
  exact { j with
    mem := fun a ys hm => by
      rcases List.mem_cons.mp hm with e | hm
      · cases e
        exact ⟨r.z_none hn, r.base_none hn, r.ne_P hn, vs, n, by rw [h]; exact Heap.get?_push_size _ rfl, hx⟩
      · exact j.mem a ys hm
    memnd := by
      simp only [List.map_cons, List.nodup_cons]
      refine ⟨fun hm => ?_, r.memnd⟩
      obtain ⟨⟨a, ys⟩, hm, e⟩ := List.mem_map.mp hm
      obtain ⟨_, _, _, vs, n, h4, _⟩ := r.mem a ys hm
      simp only at e; rw [e, hn] at h4; cases h4
    raw := fun a o hm => by
      obtain ⟨h1, h2, h3, h4, h5, h6, h7⟩ := j.raw a o hm
      refine ⟨h1, h2, h3, h4, h5, h6, fun q => ?_⟩
      rcases List.mem_cons.mp q with e | q
      · have := (r.raw a o hm).1; rw [show a = s.heap.objs.size from e, hn] at this; cases this
      · exact h7 q }

theorem Rel.setL (r : Rel C z σ s) {i : Nat} {x : Str} {d : V} {v : Value} (hi : C.names[i]? = some x) (hk : C.env.kindOf x = some .local) (hv : Rep z d v)
    (hm : ∀ m, s.heap.Ns C.env.locals m → s'.heap.Ns C.env.locals (fun y => if y = x then some v else m y)) (hs : Heap.SameBut C.env.locals s.heap s'.heap) (g : s'.gens = s.gens) (os : s'.os = s.os) :
    Rel C z { σ with vars := σ.vars.set i d } s' := by
  have hne : ∀ a, C.env.locals ≠ a → s'.heap.get? a = s.heap.get? a := fun a h => hs.2 a h.symm
  have hLd : ∀ o, s.heap.get? C.env.locals = some o → ∃ es ep, o.data = .dict es ep := by
    obtain ⟨m, ⟨o, es, ep, h1, h2, _⟩, _⟩ := r.ns
    intro o' e; rw [h1] at e; cases e; exact ⟨es, ep, h2⟩
  exact {
    ok := r.ok
    ns := by
      obtain ⟨m, h1, h2⟩ := r.ns
      refine ⟨_, hm m h1, fun j y d' e1 e2 e3 e4 => ?_⟩
      simp only at e2
      by_cases hy : y = x
      · subst hy
        have hij : j = i := by
          exact (List.getElem?_inj (List.getElem?_eq_some_iff.mp e1).1 r.ok.nd).mp (e1.trans hi.symm)
        subst hij
        rw [List.getElem?_set] at e2
        simp only [if_true] at e2
        split at e2
        · cases e2; exact ⟨v, by simp, hv⟩
        · cases e2
      · have hij : i ≠ j := fun q => hy (by subst q; rw [hi] at e1; exact (Option.some.inj e1).symm)
        rw [List.getElem?_set_ne hij] at e2
        obtain ⟨v', p, q⟩ := h2 j y d' e1 e2 e3 e4
        exact ⟨v', by simp [hy, p], q⟩
    cel := fun j y d' e1 e2 e3 => by
      simp only at e2
      have hij : i ≠ j := fun q => by subst q; rw [hi] at e1; cases e1; rw [hk] at e3; cases e3
      rw [List.getElem?_set_ne hij] at e2
      obtain ⟨c, ov, h1, ⟨o, h2, h3⟩, h4⟩ := r.cel j y d' e1 e2 e3
      refine ⟨c, ov, h1, ⟨o, ?_, h3⟩, h4⟩
      rw [hne]; exact h2
      rintro rfl
      obtain ⟨es, ep, q⟩ := hLd _ h2
      rw [q] at h3; cases h3
    frz := fun a o e => by
      rw [hne]; exact r.frz _ _ e
      rintro rfl; rw [r.zL] at e; cases e
    zK := r.zK
    zP := r.zP
    zL := r.zL
    zC := r.zC
    hC := fun y c hc => by
      obtain ⟨o, h, ov, hd⟩ := r.hC y c hc
      refine ⟨o, ?_, ov, hd⟩
      rw [hne]; exact h
      rintro rfl
      obtain ⟨es, ep, q⟩ := hLd _ h
      rw [q] at hd; cases hd
    zin := r.zin
    keep := fun b o e => by
      rw [hne]; exact r.keep _ _ e
      rintro rfl; rw [r.ok.bL] at e; cases e
    mem := fun a xs hm => by
      obtain ⟨h1, h2, h3, vs, n, h4, h5⟩ := r.mem a xs hm
      refine ⟨h1, h2, h3, vs, n, ?_, h5⟩
      rw [hne]; exact h4
      rintro rfl
      obtain ⟨es, ep, q⟩ := hLd _ h4
      cases q
    memnd := r.memnd
    raw := fun a o hm => by
      obtain ⟨h1, h2, h3, h4, h5, h6⟩ := r.raw a o hm
      exact ⟨by rw [hne _ h5.symm]; exact h1, h2, h3, h4, h5, h6⟩
    tab := by
      obtain ⟨ps, e, q⟩ := r.tab
      exact ⟨ps, by rw [hne _ r.ok.LP]; exact e, q⟩
    bare := g ▸ r.bare
    os := os.trans r.os }

theorem Rel.setC (r : Rel C z σ s) {i : Nat} {x : Str} {c : Addr} {d : V} {v : Value} (hw : C.own = true) (hi : C.names[i]? = some x) (hk : isCel (C.env.kindOf x) = true) (hc : C.env.cells.lookup x = some c) (hv : Rep z d v)
    (hm : s'.heap.IsCell c (some v)) (h0 : ∃ ov, s.heap.IsCell c ov) (hs : Heap.SameBut c s.heap s'.heap) (g : s'.gens = s.gens) (os : s'.os = s.os) :
    Rel C z { σ with vars := σ.vars.set i d } s' := by
  have hne : ∀ a, c ≠ a → s'.heap.get? a = s.heap.get? a := fun a h => hs.2 a h.symm
  obtain ⟨ov, oc, hoc, hod⟩ := h0
  have hLc : c ≠ C.env.locals := by
    rintro rfl
    obtain ⟨m, ⟨o, es, ep, h1, h2, _⟩, _⟩ := r.ns
    rw [hoc] at h1; cases h1; rw [hod] at h2; cases h2
  exact {
    ok := r.ok
    ns := by
      obtain ⟨m, h1, h2⟩ := r.ns
      refine ⟨m, h1.sameBut hs hLc.symm, fun j y d' e1 e2 e3 e4 => ?_⟩
      simp only at e2
      have hij : i ≠ j := fun q => by subst q; rw [hi] at e1; cases e1; rw [e4] at hk; cases hk
      rw [List.getElem?_set_ne hij] at e2
      exact h2 j y d' e1 e2 e3 e4
    cel := fun j y d' e1 e2 e3 => by
      simp only at e2
      by_cases hy : y = x
      · subst hy
        have hij : j = i := by
          exact (List.getElem?_inj (List.getElem?_eq_some_iff.mp e1).1 r.ok.nd).mp (e1.trans hi.symm)
        subst hij
        rw [List.getElem?_set] at e2
        simp only [if_true] at e2
        split at e2
        · cases e2; exact ⟨c, some v, hc, hm, fun zu => ⟨v, rfl, hv⟩⟩
        · cases e2
      · have hij : i ≠ j := fun q => hy (by subst q; rw [hi] at e1; exact (Option.some.inj e1).symm)
        rw [List.getElem?_set_ne hij] at e2
        obtain ⟨c', ov', h1, ⟨o, h2, h3⟩, h4⟩ := r.cel j y d' e1 e2 e3
        refine ⟨c', ov', h1, ⟨o, ?_, h3⟩, h4⟩
        rw [hne]; exact h2
        rintro rfl
        exact hy (r.ok.iC _ _ _ h1 hc)
    frz := fun a o e => by
      rw [hne]; exact r.frz _ _ e
      rintro rfl; rw [r.zC hw _ _ hc] at e; cases e
    zK := r.zK
    zP := r.zP
    zL := r.zL
    zC := r.zC
    hC := fun y c' hc' => by
      by_cases hq : c = c'
      · obtain ⟨o, h, hd⟩ := hm; exact ⟨o, hq ▸ h, _, hd⟩
      · rw [hne _ hq]; exact r.hC y c' hc'
    zin := r.zin
    keep := fun b o e => by
      rw [hne]; exact r.keep _ _ e
      rintro rfl; rw [(r.ok.bC hw _ _ hc).1] at e; cases e
    mem := fun a xs hm => by
      obtain ⟨h1, h2, h3, vs, n, h4, h5⟩ := r.mem a xs hm
      refine ⟨h1, h2, h3, vs, n, ?_, h5⟩
      rw [hne]; exact h4
      rintro rfl
      rw [hoc] at h4; cases h4; cases hod
    memnd := r.memnd
    raw := fun a o hm => by
      obtain ⟨h1, h2, h3, h4, h5, h6, h7⟩ := r.raw a o hm
      exact ⟨by rw [hne _ (h6 _ _ hc).symm]; exact h1, h2, h3, h4, h5, h6, h7⟩
    tab := by
      obtain ⟨ps, e, q⟩ := r.tab
      exact ⟨ps, by rw [hne _ (r.ok.bC hw _ _ hc).2]; exact e, q⟩
    bare := g ▸ r.bare
    os := os.trans r.os }

noncomputable def memSet : List (Addr × List V) → Addr → List V → List (Addr × List V)
  | [], _, _ => []
  | (b, ys) :: r, a, xs => if b = a then (b, xs) :: r else (b, ys) :: memSet r a xs
noncomputable def memGet : List (Addr × List V) → Addr → Option (List V)
  | [], _ => none
  | (b, ys) :: r, a => if b = a then some ys else memGet r a
theorem memGet_mem : ∀ {l : List (Addr × List V)} {a : Addr} {xs : List V}, memGet l a = some xs → (a, xs) ∈ l
  | (b, ys) :: r, a, xs, e => by
    unfold memGet at e
    split at e
    · subst_vars; cases e; exact .head _
    · exact .tail _ (memGet_mem e)
theorem memSet_keys : ∀ (l : List (Addr × List V)) (a : Addr) (xs : List V), (memSet l a xs).map (·.1) = l.map (·.1)
  | [], _, _ => rfl
  | (b, ys) :: r, a, xs => by
    unfold memSet
    split
    · rfl
    · simp only [List.map_cons, memSet_keys r]
set_option tactic.hygienic true in
theorem memSet_mem : ∀ {l : List (Addr × List V)} {a b : Addr} {xs ys : List V}, (l.map (·.1)).Nodup → (b, ys) ∈ memSet l a xs → (b = a ∧ ys = xs) ∨ (b ≠ a ∧ (b, ys) ∈ l)
  | [], _, _, _, _, _, h => nomatch h
  | (c, zs) :: r, a, b, xs, ys, nd, h => by
    simp only [List.map_cons, List.nodup_cons] at nd
    unfold memSet at h
    split at h
    · rename_i hca
      rcases List.mem_cons.mp h with e | h
      · cases e; exact .inl ⟨hca, rfl⟩
      · refine .inr ⟨fun q => nd.1 ?_, .tail _ h⟩
        rw [hca, ← q]; exact List.mem_map_of_mem (f := (·.1)) h
    · rename_i hca
      rcases List.mem_cons.mp h with e | h
      · cases e; exact .inr ⟨hca, .head _⟩
      · rcases memSet_mem nd.2 h with q | ⟨q1, q2⟩
        · exact .inl q
        · exact .inr ⟨q1, .tail _ q2⟩

theorem Rel.upd (r : Rel C z σ s) {a : Addr} {xs ys : List V} {vs : List Value} {n : Nat} (hx : memGet σ.mem a = some xs) (hy : Reps z ys vs)
    (hm : s'.heap.get? a = some (lstO vs.toArray n)) (hs : Heap.SameBut a s.heap s'.heap) (g : s'.gens = s.gens) (os : s'.os = s.os) :
    Rel C z { σ with mem := memSet σ.mem a ys } s' := by
  have hne : ∀ b, a ≠ b → s'.heap.get? b = s.heap.get? b := fun b h => hs.2 b h.symm
  obtain ⟨q1, q2, q3, vs0, n0, q4, q5⟩ := r.mem a xs (memGet_mem hx)
  have hLa : a ≠ C.env.locals := by
    rintro rfl
    obtain ⟨m, ⟨o, es, ep, h1, h2, _⟩, _⟩ := r.ns
    rw [q4] at h1; cases h1; cases h2
  exact {
    ok := r.ok
    ns := by
      obtain ⟨m, h1, h2⟩ := r.ns
      exact ⟨m, h1.sameBut hs hLa.symm, h2⟩
    cel := fun j y d' e1 e2 e3 => by
      obtain ⟨c, ov, h1, ⟨o, h2, h3⟩, h4⟩ := r.cel j y d' e1 e2 e3
      refine ⟨c, ov, h1, ⟨o, ?_, h3⟩, h4⟩
      rw [hne]; exact h2
      rintro rfl
      rw [q4] at h2; cases h2; cases h3
    frz := fun b o e => by
      rw [hne]; exact r.frz _ _ e
      rintro rfl; rw [q1] at e; cases e
    zK := r.zK
    zP := r.zP
    zL := r.zL
    zC := r.zC
    hC := fun y c hc => by
      obtain ⟨o, h, ov, hd⟩ := r.hC y c hc
      refine ⟨o, ?_, ov, hd⟩
      rw [hne]; exact h
      rintro rfl
      rw [q4] at h; cases h; cases hd
    zin := r.zin
    keep := fun b o e => by
      rw [hne]; exact r.keep _ _ e
      rintro rfl; rw [q2] at e; cases e
    mem := fun b ws hb => by
      rcases memSet_mem r.memnd hb with ⟨rfl, rfl⟩ | ⟨hba, hb⟩
      · exact ⟨q1, q2, q3, vs, n, hm, hy⟩
      · obtain ⟨h1, h2, h3, us, n', h4, h5⟩ := r.mem b ws hb
        exact ⟨h1, h2, h3, us, n', by rw [hne _ hba.symm]; exact h4, h5⟩
    memnd := by rw [show (St.mem { σ with mem := memSet σ.mem a ys }) = memSet σ.mem a ys from rfl, memSet_keys]; exact r.memnd
    raw := fun b o hb => by
      obtain ⟨h1, h2, h3, h4, h5, h6, h7⟩ := r.raw b o hb
      refine ⟨?_, h2, h3, h4, h5, h6, by rw [memSet_keys]; exact h7⟩
      rw [hne]; exact h1
      rintro rfl
      exact h7 (List.mem_map_of_mem (f := (·.1)) (memGet_mem hx))
    tab := by
      obtain ⟨ps, e, q⟩ := r.tab
      exact ⟨ps, by rw [hne _ q3]; exact e, q⟩
    bare := g ▸ r.bare
    os := os.trans r.os }

theorem Rel.rawOn (r : Rel C z σ s) {a : Addr} {o : Obj} (h1 : s.heap.get? a = some o) (h2 : z a = none) (h3 : C.base a = none) (h4 : a ≠ C.P) (h5 : a ≠ C.env.locals) (h6 : ∀ x c, C.env.cells.lookup x = some c → a ≠ c) (h7 : a ∉ σ.mem.map (·.1)) :
    Rel C z { σ with raw := (a, o) :: σ.raw } s :=
  { r with
    raw := fun b o' hb => by
      rcases List.mem_cons.mp hb with e | hb
      · cases e; exact ⟨h1, h2, h3, h4, h5, h6, h7⟩
      · exact r.raw b o' hb }
theorem Rel.rawNew (r : Rel C z σ s) {o : Obj} (hf : o.isFreed = false) (h : s'.heap = s.heap.push o) (g : s'.gens = s.gens) (os : s'.os = s.os) : Rel C z { σ with raw := (s.heap.objs.size, o) :: σ.raw } s' := by
  have hn := get_size_none s.heap
  refine (r.junk h g os).rawOn (by rw [h]; exact Heap.get?_push_size _ hf) (r.z_none hn) (r.base_none hn) (r.ne_P hn) ?_ ?_ ?_
  · intro q
    obtain ⟨m, ⟨o, es, ep, h1, _⟩, _⟩ := r.ns
    rw [← q, hn] at h1; cases h1
  · intro x c hc q
    obtain ⟨o, h1, _⟩ := r.hC x c hc
    rw [← q, hn] at h1; cases h1
  · intro hm
    obtain ⟨⟨a, ys⟩, hm, e⟩ := List.mem_map.mp hm
    obtain ⟨_, _, _, vs, n, h4, _⟩ := r.mem a ys hm
    simp only at e; rw [e, hn] at h4; cases h4
theorem Rel.rawOff {vars : List V} {mem : List (Addr × List V)} {a : Addr} {o : Obj} {rw : List (Addr × Obj)} (r : Rel C z ⟨vars, mem, (a, o) :: rw⟩ s) (hne : ∀ p ∈ rw, p.1 ≠ a)
    (hk : ∀ b o, b ≠ a → s.heap.get? b = some o → s'.heap.get? b = some o) (g : s'.gens = s.gens) (os : s'.os = s.os) : Rel C z ⟨vars, mem, rw⟩ s' := by
  obtain ⟨q1, q2, q3, q4, q5, q6, q7⟩ := r.raw a o (.head _)
  exact {
    ok := r.ok
    ns := by
      obtain ⟨m, ⟨o, es, ep, h1, h2⟩, h3⟩ := r.ns
      exact ⟨m, ⟨o, es, ep, hk _ _ q5.symm h1, h2⟩, h3⟩
    cel := fun j y d' e1 e2 e3 => by
      obtain ⟨c, ov, h1, ⟨o, h2, h3⟩, h4⟩ := r.cel j y d' e1 e2 e3
      exact ⟨c, ov, h1, ⟨o, hk _ _ (q6 _ _ h1).symm h2, h3⟩, h4⟩
    frz := fun b o e => hk _ _ (fun q => by subst q; rw [q2] at e; cases e) (r.frz _ _ e)
    zK := r.zK
    zP := r.zP
    zL := r.zL
    zC := r.zC
    hC := fun y c hc => by obtain ⟨o, h, hd⟩ := r.hC y c hc; exact ⟨o, hk _ _ (q6 _ _ hc).symm h, hd⟩
    zin := r.zin
    keep := fun b o e => hk _ _ (fun q => by subst q; rw [q3] at e; cases e) (r.keep _ _ e)
    mem := fun b xs hm => by
      obtain ⟨h1, h2, h3, vs, n, h4, h5⟩ := r.mem b xs hm
      exact ⟨h1, h2, h3, vs, n, hk _ _ (fun q => q7 (by subst q; exact List.mem_map_of_mem (f := (·.1)) hm)) h4, h5⟩
    memnd := r.memnd
    raw := fun b o' hb => by
      obtain ⟨h1, h2⟩ := r.raw b o' (.tail _ hb)
      exact ⟨hk _ _ (hne _ hb) h1, h2⟩
    tab := by
      obtain ⟨ps, e, q⟩ := r.tab
      exact ⟨ps, hk _ _ q4.symm e, q⟩
    bare := g ▸ r.bare
    os := os.trans r.os }
end rel
end Mine
namespace Mine
noncomputable abbrev pw : Program := PySem.Challenge.pw_ij0049_01
noncomputable def hb : List Stmt := behindTheImports pw
noncomputable def fA (k : Nat) : Arguments := match hb.drop k with | .FunctionDef _ a _ _ _ _ _ _ _ _ :: _ => a | _ => { posonlyargs := [], args := [], vararg := none, kwonlyargs := [], kw_defaults := [], kwarg := none, defaults := [] }
noncomputable def fB (k : Nat) : List Stmt := match hb.drop k with | .FunctionDef _ _ b _ _ _ _ _ _ _ :: _ => b | _ => []
noncomputable def fS (k : Nat) : Scope := match hb.drop k with | .FunctionDef _ _ _ _ _ _ s _ _ _ :: _ => s | _ => pw.main.scope
noncomputable def o1_1 (p : Params) : Obj := ⟨(.type "dict"), none, (.dict #[⟨PyData.keyHash p (S [98, 117, 105, 108, 116, 105, 110, 115]), (.str (S [98, 117, 105, 108, 116, 105, 110, 115]) 162), (.ref 4)⟩, ⟨PyData.keyHash p (S [95, 95, 109, 97, 105, 110, 95, 95]), (.str (S [95, 95, 109, 97, 105, 110, 95, 95]) 163), (.ref 5)⟩, ⟨PyData.keyHash p (S [95, 115, 114, 101]), (.str (S [95, 115, 114, 101]) 244), (.ref 12)⟩] 3), #[]⟩
noncomputable def o2_1 (p : Params) : Obj := ⟨.none, none, (.dict #[⟨PyData.keyHash p (S [105, 109, 112, 111, 114, 116, 46, 108, 111, 97, 100, 101, 100, 46, 95, 115, 114, 101]), (.str (S [105, 109, 112, 111, 114, 116, 46, 108, 111, 97, 100, 101, 100, 46, 95, 115, 114, 101]) 183), (.bool true)⟩, ⟨PyData.keyHash p (S [99, 108, 97, 115, 115, 46, 95, 102, 114, 111, 122, 101, 110, 95, 105, 109, 112, 111, 114, 116, 108, 105, 98, 46, 66, 117, 105, 108, 116, 105, 110, 73, 109, 112, 111, 114, 116, 101, 114]), (.str (S [99, 108, 97, 115, 115, 46, 95, 102, 114, 111, 122, 101, 110, 95, 105, 109, 112, 111, 114, 116, 108, 105, 98, 46, 66, 117, 105, 108, 116, 105, 110, 73, 109, 112, 111, 114, 116, 101, 114]) 185), (.ref 14)⟩, ⟨PyData.keyHash p (S [119, 97, 116, 99, 104, 101, 100, 46, 105, 109, 112, 111, 114, 116]), (.str (S [119, 97, 116, 99, 104, 101, 100, 46, 105, 109, 112, 111, 114, 116]) 206), (.ref 18)⟩, ⟨PyData.keyHash p (S [99, 108, 97, 115, 115, 46, 95, 102, 114, 111, 122, 101, 110, 95, 105, 109, 112, 111, 114, 116, 108, 105, 98, 46, 77, 111, 100, 117, 108, 101, 83, 112, 101, 99]), (.str (S [99, 108, 97, 115, 115, 46, 95, 102, 114, 111, 122, 101, 110, 95, 105, 109, 112, 111, 114, 116, 108, 105, 98, 46, 77, 111, 100, 117, 108, 101, 83, 112, 101, 99]) 216), (.ref 22)⟩, ⟨PyData.keyHash p (S [115, 121, 115, 46, 109, 111, 100, 117, 108, 101, 115, 46, 98, 111, 111, 107, 101, 100, 45, 101, 112, 111, 99, 104]), (.str (S [115, 121, 115, 46, 109, 111, 100, 117, 108, 101, 115, 46, 98, 111, 111, 107, 101, 100, 45, 101, 112, 111, 99, 104]) 245), (.int 3 0)⟩, ⟨PyData.keyHash p (S [105, 109, 112, 111, 114, 116, 46, 108, 97, 116, 101, 114, 45, 108, 97, 105, 100, 46, 95, 115, 114, 101]), (.str (S [105, 109, 112, 111, 114, 116, 46, 108, 97, 116, 101, 114, 45, 108, 97, 105, 100, 46, 95, 115, 114, 101]) 270), (.bool true)⟩, ⟨PyData.keyHash p (S [119, 97, 116, 99, 104, 101, 100, 46, 108, 105, 98, 114, 97, 114, 121]), (.str (S [119, 97, 116, 99, 104, 101, 100, 46, 108, 105, 98, 114, 97, 114, 121]) 272), (.ref 27)⟩, ⟨PyData.keyHash p (S [119, 97, 116, 99, 104, 101, 100, 46, 108, 105, 98, 114, 97, 114, 121, 45, 111, 98, 106, 101, 99, 116, 115]), (.str (S [119, 97, 116, 99, 104, 101, 100, 46, 108, 105, 98, 114, 97, 114, 121, 45, 111, 98, 106, 101, 99, 116, 115]) 0), (.str (S [12]) 0)⟩, ⟨PyData.keyHash p (S [119, 97, 116, 99, 104, 101, 100, 46, 108, 105, 98, 114, 97, 114, 121, 45, 100, 101, 101, 112, 46, 95, 115, 114, 101]), (.str (S [119, 97, 116, 99, 104, 101, 100, 46, 108, 105, 98, 114, 97, 114, 121, 45, 100, 101, 101, 112, 46, 95, 115, 114, 101]) 273), (.str (S [4, 0, 0, 11, 4, 0, 0, 11, 4, 0, 0, 3, 4, 0, 0, 11, 8, 4, 100, 105, 99, 116, 2]) 0)⟩] 9), #[]⟩
noncomputable def o3_1 (p : Params) : Obj := ⟨(.type "dict"), none, (.dict #[⟨PyData.keyHash p (S [95, 95, 110, 97, 109, 101, 95, 95]), (.str (S [95, 95, 110, 97, 109, 101, 95, 95]) 165), (.str (S [95, 95, 109, 97, 105, 110, 95, 95]) 164)⟩, ⟨PyData.keyHash p (S [95, 95, 100, 111, 99, 95, 95]), (.str (S [95, 95, 100, 111, 99, 95, 95]) 166), .none⟩, ⟨PyData.keyHash p (S [95, 95, 112, 97, 99, 107, 97, 103, 101, 95, 95]), (.str (S [95, 95, 112, 97, 99, 107, 97, 103, 101, 95, 95]) 167), .none⟩, ⟨PyData.keyHash p (S [95, 95, 108, 111, 97, 100, 101, 114, 95, 95]), (.str (S [95, 95, 108, 111, 97, 100, 101, 114, 95, 95]) 168), (.builtin "__main__.__loader__#opaque")⟩, ⟨PyData.keyHash p (S [95, 95, 115, 112, 101, 99, 95, 95]), (.str (S [95, 95, 115, 112, 101, 99, 95, 95]) 169), .none⟩, ⟨PyData.keyHash p (S [95, 95, 97, 110, 110, 111, 116, 97, 116, 105, 111, 110, 115, 95, 95]), (.str (S [95, 95, 97, 110, 110, 111, 116, 97, 116, 105, 111, 110, 115, 95, 95]) 170), (.ref 6)⟩, ⟨PyData.keyHash p (S [95, 95, 98, 117, 105, 108, 116, 105, 110, 115, 95, 95]), (.str (S [95, 95, 98, 117, 105, 108, 116, 105, 110, 115, 95, 95]) 171), (.ref 4)⟩, ⟨PyData.keyHash p (S [95, 95, 102, 105, 108, 101, 95, 95]), (.str (S [95, 95, 102, 105, 108, 101, 95, 95]) 173), (.str (S [47, 99, 108, 97, 105, 109, 47, 99, 117, 116, 46, 112, 121]) 172)⟩, ⟨PyData.keyHash p (S [95, 95, 99, 97, 99, 104, 101, 100, 95, 95]), (.str (S [95, 95, 99, 97, 99, 104, 101, 100, 95, 95]) 174), .none⟩, ⟨PyData.keyHash p (S [95, 115, 114, 101]), (.str (S [95, 115, 114, 101]) 275), (.ref 12)⟩] 10), #[]⟩
noncomputable def o11_0 (p : Params) : Obj := ⟨(.type "dict"), none, (.dict #[⟨PyData.keyHash p (S [95, 95, 110, 97, 109, 101, 95, 95]), (.str (S [95, 95, 110, 97, 109, 101, 95, 95]) 247), (.str (S [95, 115, 114, 101]) 246)⟩, ⟨PyData.keyHash p (S [95, 95, 100, 111, 99, 95, 95]), (.str (S [95, 95, 100, 111, 99, 95, 95]) 248), .none⟩, ⟨PyData.keyHash p (S [95, 95, 112, 97, 99, 107, 97, 103, 101, 95, 95]), (.str (S [95, 95, 112, 97, 99, 107, 97, 103, 101, 95, 95]) 250), (.str (S []) 249)⟩, ⟨PyData.keyHash p (S [95, 95, 108, 111, 97, 100, 101, 114, 95, 95]), (.str (S [95, 95, 108, 111, 97, 100, 101, 114, 95, 95]) 251), (.ref 14)⟩, ⟨PyData.keyHash p (S [95, 95, 115, 112, 101, 99, 95, 95]), (.str (S [95, 95, 115, 112, 101, 99, 95, 95]) 252), (.ref 26)⟩, ⟨PyData.keyHash p (S [99, 111, 109, 112, 105, 108, 101]), (.str (S [99, 111, 109, 112, 105, 108, 101]) 253), (.builtin "_sre.compile")⟩, ⟨PyData.keyHash p (S [116, 101, 109, 112, 108, 97, 116, 101]), (.str (S [116, 101, 109, 112, 108, 97, 116, 101]) 254), (.builtin "_sre.template")⟩, ⟨PyData.keyHash p (S [103, 101, 116, 99, 111, 100, 101, 115, 105, 122, 101]), (.str (S [103, 101, 116, 99, 111, 100, 101, 115, 105, 122, 101]) 255), (.builtin "_sre.getcodesize")⟩, ⟨PyData.keyHash p (S [97, 115, 99, 105, 105, 95, 105, 115, 99, 97, 115, 101, 100]), (.str (S [97, 115, 99, 105, 105, 95, 105, 115, 99, 97, 115, 101, 100]) 256), (.builtin "_sre.ascii_iscased")⟩, ⟨PyData.keyHash p (S [117, 110, 105, 99, 111, 100, 101, 95, 105, 115, 99, 97, 115, 101, 100]), (.str (S [117, 110, 105, 99, 111, 100, 101, 95, 105, 115, 99, 97, 115, 101, 100]) 257), (.builtin "_sre.unicode_iscased")⟩, ⟨PyData.keyHash p (S [97, 115, 99, 105, 105, 95, 116, 111, 108, 111, 119, 101, 114]), (.str (S [97, 115, 99, 105, 105, 95, 116, 111, 108, 111, 119, 101, 114]) 258), (.builtin "_sre.ascii_tolower")⟩, ⟨PyData.keyHash p (S [117, 110, 105, 99, 111, 100, 101, 95, 116, 111, 108, 111, 119, 101, 114]), (.str (S [117, 110, 105, 99, 111, 100, 101, 95, 116, 111, 108, 111, 119, 101, 114]) 259), (.builtin "_sre.unicode_tolower")⟩, ⟨PyData.keyHash p (S [77, 65, 71, 73, 67]), (.str (S [77, 65, 71, 73, 67]) 261), (.int 20230612 260)⟩, ⟨PyData.keyHash p (S [67, 79, 68, 69, 83, 73, 90, 69]), (.str (S [67, 79, 68, 69, 83, 73, 90, 69]) 263), (.int 4 262)⟩, ⟨PyData.keyHash p (S [77, 65, 88, 82, 69, 80, 69, 65, 84]), (.str (S [77, 65, 88, 82, 69, 80, 69, 65, 84]) 265), (.int 4294967295 264)⟩, ⟨PyData.keyHash p (S [77, 65, 88, 71, 82, 79, 85, 80, 83]), (.str (S [77, 65, 88, 71, 82, 79, 85, 80, 83]) 267), (.int 1073741823 266)⟩, ⟨PyData.keyHash p (S [99, 111, 112, 121, 114, 105, 103, 104, 116]), (.str (S [99, 111, 112, 121, 114, 105, 103, 104, 116]) 269), (.str (S [32, 83, 82, 69, 32, 50, 46, 50, 46, 50, 32, 67, 111, 112, 121, 114, 105, 103, 104, 116, 32, 40, 99, 41, 32, 49, 57, 57, 55, 45, 50, 48, 48, 50, 32, 98, 121, 32, 83, 101, 99, 114, 101, 116, 32, 76, 97, 98, 115, 32, 65, 66, 32]) 268)⟩] 17), #[]⟩
noncomputable def o12_0 (p : Params) : Obj := ⟨(.type "module"), some 11, .plain, #[]⟩
noncomputable def o13_0 (p : Params) : Obj := ⟨(.type "dict"), none, (.dict #[⟨PyData.keyHash p (S [95, 95, 109, 111, 100, 117, 108, 101, 95, 95]), (.str (S [95, 95, 109, 111, 100, 117, 108, 101, 95, 95]) 189), (.str (S [95, 102, 114, 111, 122, 101, 110, 95, 105, 109, 112, 111, 114, 116, 108, 105, 98]) 186)⟩, ⟨PyData.keyHash p (S [95, 95, 102, 105, 114, 115, 116, 108, 105, 110, 101, 110, 111, 95, 95]), (.str (S [95, 95, 102, 105, 114, 115, 116, 108, 105, 110, 101, 110, 111, 95, 95]) 190), (.int 971 187)⟩, ⟨PyData.keyHash p (S [95, 95, 100, 111, 99, 95, 95]), (.str (S [95, 95, 100, 111, 99, 95, 95]) 191), (.builtin "_frozen_importlib.BuiltinImporter.__doc__:str#opaque")⟩, ⟨PyData.keyHash p (S [95, 79, 82, 73, 71, 73, 78]), (.str (S [95, 79, 82, 73, 71, 73, 78]) 192), (.str (S [98, 117, 105, 108, 116, 45, 105, 110]) 188)⟩, ⟨PyData.keyHash p (S [102, 105, 110, 100, 95, 115, 112, 101, 99]), (.str (S [102, 105, 110, 100, 95, 115, 112, 101, 99]) 193), (.builtin "_frozen_importlib.BuiltinImporter.find_spec#opaque")⟩, ⟨PyData.keyHash p (S [99, 114, 101, 97, 116, 101, 95, 109, 111, 100, 117, 108, 101]), (.str (S [99, 114, 101, 97, 116, 101, 95, 109, 111, 100, 117, 108, 101]) 194), (.builtin "_frozen_importlib.BuiltinImporter.create_module#opaque")⟩, ⟨PyData.keyHash p (S [101, 120, 101, 99, 95, 109, 111, 100, 117, 108, 101]), (.str (S [101, 120, 101, 99, 95, 109, 111, 100, 117, 108, 101]) 195), (.builtin "_frozen_importlib.BuiltinImporter.exec_module#opaque")⟩, ⟨PyData.keyHash p (S [103, 101, 116, 95, 99, 111, 100, 101]), (.str (S [103, 101, 116, 95, 99, 111, 100, 101]) 196), (.builtin "_frozen_importlib.BuiltinImporter.get_code#opaque")⟩, ⟨PyData.keyHash p (S [103, 101, 116, 95, 115, 111, 117, 114, 99, 101]), (.str (S [103, 101, 116, 95, 115, 111, 117, 114, 99, 101]) 197), (.builtin "_frozen_importlib.BuiltinImporter.get_source#opaque")⟩, ⟨PyData.keyHash p (S [105, 115, 95, 112, 97, 99, 107, 97, 103, 101]), (.str (S [105, 115, 95, 112, 97, 99, 107, 97, 103, 101]) 198), (.builtin "_frozen_importlib.BuiltinImporter.is_package#opaque")⟩, ⟨PyData.keyHash p (S [108, 111, 97, 100, 95, 109, 111, 100, 117, 108, 101]), (.str (S [108, 111, 97, 100, 95, 109, 111, 100, 117, 108, 101]) 199), (.builtin "_frozen_importlib.BuiltinImporter.load_module#opaque")⟩, ⟨PyData.keyHash p (S [95, 95, 115, 116, 97, 116, 105, 99, 95, 97, 116, 116, 114, 105, 98, 117, 116, 101, 115, 95, 95]), (.str (S [95, 95, 115, 116, 97, 116, 105, 99, 95, 97, 116, 116, 114, 105, 98, 117, 116, 101, 115, 95, 95]) 200), (.ref 15)⟩, ⟨PyData.keyHash p (S [95, 95, 100, 105, 99, 116, 95, 95]), (.str (S [95, 95, 100, 105, 99, 116, 95, 95]) 202), (.ref 16)⟩, ⟨PyData.keyHash p (S [95, 95, 119, 101, 97, 107, 114, 101, 102, 95, 95]), (.str (S [95, 95, 119, 101, 97, 107, 114, 101, 102, 95, 95]) 204), (.ref 17)⟩] 14), #[]⟩
noncomputable def o14_0 (p : Params) : Obj := ⟨(.type "type"), none, (.cls { name := (S [66, 117, 105, 108, 116, 105, 110, 73, 109, 112, 111, 114, 116, 101, 114]), bases := [(.type "object")], mro := [(.ref 14), (.type "object")], ns := 13, qualname := (S [66, 117, 105, 108, 116, 105, 110, 73, 109, 112, 111, 114, 116, 101, 114]) }), #[]⟩
noncomputable def o15_0 (p : Params) : Obj := ⟨(.type "tuple"), none, (.seq #[] 0), #[]⟩
noncomputable def o16_0 (p : Params) : Obj := ⟨(.type "getset_descriptor"), none, (.fields #[(.str (S [95, 95, 100, 105, 99, 116, 95, 95]) 201), (.ref 14), (.builtin "function.__dict__"), (.builtin "function.__dict__#set")]), #[]⟩
noncomputable def o17_0 (p : Params) : Obj := ⟨(.type "getset_descriptor"), none, (.fields #[(.str (S [95, 95, 119, 101, 97, 107, 114, 101, 102, 95, 95]) 203), (.ref 14), (.builtin "ExceptionGroup.__weakref__"), .none]), #[]⟩
noncomputable def o18_0 (p : Params) : Obj := ⟨.none, none, (.seq #[(.int 13 0), (.str (S [6, 189, 10, 95, 95, 109, 111, 100, 117, 108, 101, 95, 95, 6, 186, 17, 95, 102, 114, 111, 122, 101, 110, 95, 105, 109, 112, 111, 114, 116, 108, 105, 98, 6, 190, 15, 95, 95, 102, 105, 114, 115, 116, 108, 105, 110, 101, 110, 111, 95, 95, 4, 187, 0, 971, 6, 191, 7, 95, 95, 100, 111, 99, 95, 95, 9, 52, 95, 102, 114, 111, 122, 101, 110, 95, 105, 109, 112, 111, 114, 116, 108, 105, 98, 46, 66, 117, 105, 108, 116, 105, 110, 73, 109, 112, 111, 114, 116, 101, 114, 46, 95, 95, 100, 111, 99, 95, 95, 58, 115, 116, 114, 35, 111, 112, 97, 113, 117, 101, 6, 192, 7, 95, 79, 82, 73, 71, 73, 78, 6, 188, 8, 98, 117, 105, 108, 116, 45, 105, 110, 6, 193, 9, 102, 105, 110, 100, 95, 115, 112, 101, 99, 9, 50, 95, 102, 114, 111, 122, 101, 110, 95, 105, 109, 112, 111, 114, 116, 108, 105, 98, 46, 66, 117, 105, 108, 116, 105, 110, 73, 109, 112, 111, 114, 116, 101, 114, 46, 102, 105, 110, 100, 95, 115, 112, 101, 99, 35, 111, 112, 97, 113, 117, 101, 6, 194, 13, 99, 114, 101, 97, 116, 101, 95, 109, 111, 100, 117, 108, 101, 9, 54, 95, 102, 114, 111, 122, 101, 110, 95, 105, 109, 112, 111, 114, 116, 108, 105, 98, 46, 66, 117, 105, 108, 116, 105, 110, 73, 109, 112, 111, 114, 116, 101, 114, 46, 99, 114, 101, 97, 116, 101, 95, 109, 111, 100, 117, 108, 101, 35, 111, 112, 97, 113, 117, 101, 6, 195, 11, 101, 120, 101, 99, 95, 109, 111, 100, 117, 108, 101, 9, 52, 95, 102, 114, 111, 122, 101, 110, 95, 105, 109, 112, 111, 114, 116, 108, 105, 98, 46, 66, 117, 105, 108, 116, 105, 110, 73, 109, 112, 111, 114, 116, 101, 114, 46, 101, 120, 101, 99, 95, 109, 111, 100, 117, 108, 101, 35, 111, 112, 97, 113, 117, 101, 6, 196, 8, 103, 101, 116, 95, 99, 111, 100, 101, 9, 49, 95, 102, 114, 111, 122, 101, 110, 95, 105, 109, 112, 111, 114, 116, 108, 105, 98, 46, 66, 117, 105, 108, 116, 105, 110, 73, 109, 112, 111, 114, 116, 101, 114, 46, 103, 101, 116, 95, 99, 111, 100, 101, 35, 111, 112, 97, 113, 117, 101, 6, 197, 10, 103, 101, 116, 95, 115, 111, 117, 114, 99, 101, 9, 51, 95, 102, 114, 111, 122, 101, 110, 95, 105, 109, 112, 111, 114, 116, 108, 105, 98, 46, 66, 117, 105, 108, 116, 105, 110, 73, 109, 112, 111, 114, 116, 101, 114, 46, 103, 101, 116, 95, 115, 111, 117, 114, 99, 101, 35, 111, 112, 97, 113, 117, 101, 6, 198, 10, 105, 115, 95, 112, 97, 99, 107, 97, 103, 101, 9, 51, 95, 102, 114, 111, 122, 101, 110, 95, 105, 109, 112, 111, 114, 116, 108, 105, 98, 46, 66, 117, 105, 108, 116, 105, 110, 73, 109, 112, 111, 114, 116, 101, 114, 46, 105, 115, 95, 112, 97, 99, 107, 97, 103, 101, 35, 111, 112, 97, 113, 117, 101, 6, 199, 11, 108, 111, 97, 100, 95, 109, 111, 100, 117, 108, 101, 9, 52, 95, 102, 114, 111, 122, 101, 110, 95, 105, 109, 112, 111, 114, 116, 108, 105, 98, 46, 66, 117, 105, 108, 116, 105, 110, 73, 109, 112, 111, 114, 116, 101, 114, 46, 108, 111, 97, 100, 95, 109, 111, 100, 117, 108, 101, 35, 111, 112, 97, 113, 117, 101, 6, 200, 21, 95, 95, 115, 116, 97, 116, 105, 99, 95, 97, 116, 116, 114, 105, 98, 117, 116, 101, 115, 95, 95, 4, 0, 0, 15, 6, 202, 8, 95, 95, 100, 105, 99, 116, 95, 95, 4, 0, 0, 16, 6, 204, 11, 95, 95, 119, 101, 97, 107, 114, 101, 102, 95, 95, 4, 0, 0, 17]) 0), (.bool true), (.bool true), (.str (S []) 205), (.int 21 0), (.str (S [6, 227, 10, 95, 95, 109, 111, 100, 117, 108, 101, 95, 95, 6, 217, 17, 95, 102, 114, 111, 122, 101, 110, 95, 105, 109, 112, 111, 114, 116, 108, 105, 98, 6, 228, 15, 95, 95, 102, 105, 114, 115, 116, 108, 105, 110, 101, 110, 111, 95, 95, 4, 218, 0, 562, 6, 229, 7, 95, 95, 100, 111, 99, 95, 95, 9, 47, 95, 102, 114, 111, 122, 101, 110, 95, 105, 109, 112, 111, 114, 116, 108, 105, 98, 46, 77, 111, 100, 117, 108, 101, 83, 112, 101, 99, 46, 95, 95, 100, 111, 99, 95, 95, 58, 115, 116, 114, 35, 111, 112, 97, 113, 117, 101, 6, 230, 8, 95, 95, 105, 110, 105, 116, 95, 95, 9, 44, 95, 102, 114, 111, 122, 101, 110, 95, 105, 109, 112, 111, 114, 116, 108, 105, 98, 46, 77, 111, 100, 117, 108, 101, 83, 112, 101, 99, 46, 95, 95, 105, 110, 105, 116, 95, 95, 35, 111, 112, 97, 113, 117, 101, 6, 231, 8, 95, 95, 114, 101, 112, 114, 95, 95, 9, 44, 95, 102, 114, 111, 122, 101, 110, 95, 105, 109, 112, 111, 114, 116, 108, 105, 98, 46, 77, 111, 100, 117, 108, 101, 83, 112, 101, 99, 46, 95, 95, 114, 101, 112, 114, 95, 95, 35, 111, 112, 97, 113, 117, 101, 6, 232, 6, 95, 95, 101, 113, 95, 95, 9, 42, 95, 102, 114, 111, 122, 101, 110, 95, 105, 109, 112, 111, 114, 116, 108, 105, 98, 46, 77, 111, 100, 117, 108, 101, 83, 112, 101, 99, 46, 95, 95, 101, 113, 95, 95, 35, 111, 112, 97, 113, 117, 101, 6, 233, 6, 99, 97, 99, 104, 101, 100, 9, 42, 95, 102, 114, 111, 122, 101, 110, 95, 105, 109, 112, 111, 114, 116, 108, 105, 98, 46, 77, 111, 100, 117, 108, 101, 83, 112, 101, 99, 46, 99, 97, 99, 104, 101, 100, 35, 111, 112, 97, 113, 117, 101, 6, 234, 6, 112, 97, 114, 101, 110, 116, 9, 42, 95, 102, 114, 111, 122, 101, 110, 95, 105, 109, 112, 111, 114, 116, 108, 105, 98, 46, 77, 111, 100, 117, 108, 101, 83, 112, 101, 99, 46, 112, 97, 114, 101, 110, 116, 35, 111, 112, 97, 113, 117, 101, 6, 235, 12, 104, 97, 115, 95, 108, 111, 99, 97, 116, 105, 111, 110, 9, 48, 95, 102, 114, 111, 122, 101, 110, 95, 105, 109, 112, 111, 114, 116, 108, 105, 98, 46, 77, 111, 100, 117, 108, 101, 83, 112, 101, 99, 46, 104, 97, 115, 95, 108, 111, 99, 97, 116, 105, 111, 110, 35, 111, 112, 97, 113, 117, 101, 6, 236, 21, 95, 95, 115, 116, 97, 116, 105, 99, 95, 97, 116, 116, 114, 105, 98, 117, 116, 101, 115, 95, 95, 4, 0, 0, 23, 6, 238, 8, 95, 95, 100, 105, 99, 116, 95, 95, 4, 0, 0, 24, 6, 240, 11, 95, 95, 119, 101, 97, 107, 114, 101, 102, 95, 95, 4, 0, 0, 25, 6, 241, 8, 95, 95, 104, 97, 115, 104, 95, 95, 0]) 0), (.bool true), (.bool true), (.str (S []) 242)] 1), #[]⟩
noncomputable def o19_0 (p : Params) : Obj := ⟨(.type "list"), none, (.seq #[] 0), #[]⟩
noncomputable def o20_0 (p : Params) : Obj := ⟨(.type "dict"), none, (.dict #[⟨PyData.keyHash p (S [110, 97, 109, 101]), (.str (S [110, 97, 109, 101]) 208), (.str (S [95, 115, 114, 101]) 207)⟩, ⟨PyData.keyHash p (S [108, 111, 97, 100, 101, 114]), (.str (S [108, 111, 97, 100, 101, 114]) 209), (.ref 14)⟩, ⟨PyData.keyHash p (S [111, 114, 105, 103, 105, 110]), (.str (S [111, 114, 105, 103, 105, 110]) 210), (.str (S [98, 117, 105, 108, 116, 45, 105, 110]) 184)⟩, ⟨PyData.keyHash p (S [108, 111, 97, 100, 101, 114, 95, 115, 116, 97, 116, 101]), (.str (S [108, 111, 97, 100, 101, 114, 95, 115, 116, 97, 116, 101]) 211), .none⟩, ⟨PyData.keyHash p (S [115, 117, 98, 109, 111, 100, 117, 108, 101, 95, 115, 101, 97, 114, 99, 104, 95, 108, 111, 99, 97, 116, 105, 111, 110, 115]), (.str (S [115, 117, 98, 109, 111, 100, 117, 108, 101, 95, 115, 101, 97, 114, 99, 104, 95, 108, 111, 99, 97, 116, 105, 111, 110, 115]) 212), .none⟩, ⟨PyData.keyHash p (S [95, 117, 110, 105, 110, 105, 116, 105, 97, 108, 105, 122, 101, 100, 95, 115, 117, 98, 109, 111, 100, 117, 108, 101, 115]), (.str (S [95, 117, 110, 105, 110, 105, 116, 105, 97, 108, 105, 122, 101, 100, 95, 115, 117, 98, 109, 111, 100, 117, 108, 101, 115]) 213), (.ref 19)⟩, ⟨PyData.keyHash p (S [95, 115, 101, 116, 95, 102, 105, 108, 101, 97, 116, 116, 114]), (.str (S [95, 115, 101, 116, 95, 102, 105, 108, 101, 97, 116, 116, 114]) 214), (.bool false)⟩, ⟨PyData.keyHash p (S [95, 99, 97, 99, 104, 101, 100]), (.str (S [95, 99, 97, 99, 104, 101, 100]) 215), .none⟩, ⟨PyData.keyHash p (S [95, 105, 110, 105, 116, 105, 97, 108, 105, 122, 105, 110, 103]), (.str (S [95, 105, 110, 105, 116, 105, 97, 108, 105, 122, 105, 110, 103]) 243), (.bool false)⟩] 9), #[]⟩
noncomputable def o21_0 (p : Params) : Obj := ⟨(.type "dict"), none, (.dict #[⟨PyData.keyHash p (S [95, 95, 109, 111, 100, 117, 108, 101, 95, 95]), (.str (S [95, 95, 109, 111, 100, 117, 108, 101, 95, 95]) 227), (.str (S [95, 102, 114, 111, 122, 101, 110, 95, 105, 109, 112, 111, 114, 116, 108, 105, 98]) 217)⟩, ⟨PyData.keyHash p (S [95, 95, 102, 105, 114, 115, 116, 108, 105, 110, 101, 110, 111, 95, 95]), (.str (S [95, 95, 102, 105, 114, 115, 116, 108, 105, 110, 101, 110, 111, 95, 95]) 228), (.int 562 218)⟩, ⟨PyData.keyHash p (S [95, 95, 100, 111, 99, 95, 95]), (.str (S [95, 95, 100, 111, 99, 95, 95]) 229), (.builtin "_frozen_importlib.ModuleSpec.__doc__:str#opaque")⟩, ⟨PyData.keyHash p (S [95, 95, 105, 110, 105, 116, 95, 95]), (.str (S [95, 95, 105, 110, 105, 116, 95, 95]) 230), (.builtin "_frozen_importlib.ModuleSpec.__init__#opaque")⟩, ⟨PyData.keyHash p (S [95, 95, 114, 101, 112, 114, 95, 95]), (.str (S [95, 95, 114, 101, 112, 114, 95, 95]) 231), (.builtin "_frozen_importlib.ModuleSpec.__repr__#opaque")⟩, ⟨PyData.keyHash p (S [95, 95, 101, 113, 95, 95]), (.str (S [95, 95, 101, 113, 95, 95]) 232), (.builtin "_frozen_importlib.ModuleSpec.__eq__#opaque")⟩, ⟨PyData.keyHash p (S [99, 97, 99, 104, 101, 100]), (.str (S [99, 97, 99, 104, 101, 100]) 233), (.builtin "_frozen_importlib.ModuleSpec.cached#opaque")⟩, ⟨PyData.keyHash p (S [112, 97, 114, 101, 110, 116]), (.str (S [112, 97, 114, 101, 110, 116]) 234), (.builtin "_frozen_importlib.ModuleSpec.parent#opaque")⟩, ⟨PyData.keyHash p (S [104, 97, 115, 95, 108, 111, 99, 97, 116, 105, 111, 110]), (.str (S [104, 97, 115, 95, 108, 111, 99, 97, 116, 105, 111, 110]) 235), (.builtin "_frozen_importlib.ModuleSpec.has_location#opaque")⟩, ⟨PyData.keyHash p (S [95, 95, 115, 116, 97, 116, 105, 99, 95, 97, 116, 116, 114, 105, 98, 117, 116, 101, 115, 95, 95]), (.str (S [95, 95, 115, 116, 97, 116, 105, 99, 95, 97, 116, 116, 114, 105, 98, 117, 116, 101, 115, 95, 95]) 236), (.ref 23)⟩, ⟨PyData.keyHash p (S [95, 95, 100, 105, 99, 116, 95, 95]), (.str (S [95, 95, 100, 105, 99, 116, 95, 95]) 238), (.ref 24)⟩, ⟨PyData.keyHash p (S [95, 95, 119, 101, 97, 107, 114, 101, 102, 95, 95]), (.str (S [95, 95, 119, 101, 97, 107, 114, 101, 102, 95, 95]) 240), (.ref 25)⟩, ⟨PyData.keyHash p (S [95, 95, 104, 97, 115, 104, 95, 95]), (.str (S [95, 95, 104, 97, 115, 104, 95, 95]) 241), .none⟩] 13), #[]⟩
noncomputable def o22_0 (p : Params) : Obj := ⟨(.type "type"), none, (.cls { name := (S [77, 111, 100, 117, 108, 101, 83, 112, 101, 99]), bases := [(.type "object")], mro := [(.ref 22), (.type "object")], ns := 21, qualname := (S [77, 111, 100, 117, 108, 101, 83, 112, 101, 99]) }), #[]⟩
noncomputable def o23_0 (p : Params) : Obj := ⟨(.type "tuple"), none, (.seq #[(.str (S [95, 99, 97, 99, 104, 101, 100]) 219), (.str (S [95, 115, 101, 116, 95, 102, 105, 108, 101, 97, 116, 116, 114]) 220), (.str (S [95, 117, 110, 105, 110, 105, 116, 105, 97, 108, 105, 122, 101, 100, 95, 115, 117, 98, 109, 111, 100, 117, 108, 101, 115]) 221), (.str (S [108, 111, 97, 100, 101, 114]) 222), (.str (S [108, 111, 97, 100, 101, 114, 95, 115, 116, 97, 116, 101]) 223), (.str (S [110, 97, 109, 101]) 224), (.str (S [111, 114, 105, 103, 105, 110]) 225), (.str (S [115, 117, 98, 109, 111, 100, 117, 108, 101, 95, 115, 101, 97, 114, 99, 104, 95, 108, 111, 99, 97, 116, 105, 111, 110, 115]) 226)] 0), #[]⟩
noncomputable def o24_0 (p : Params) : Obj := ⟨(.type "getset_descriptor"), none, (.fields #[(.str (S [95, 95, 100, 105, 99, 116, 95, 95]) 237), (.ref 22), (.builtin "function.__dict__"), (.builtin "function.__dict__#set")]), #[]⟩
noncomputable def o25_0 (p : Params) : Obj := ⟨(.type "getset_descriptor"), none, (.fields #[(.str (S [95, 95, 119, 101, 97, 107, 114, 101, 102, 95, 95]) 239), (.ref 22), (.builtin "ExceptionGroup.__weakref__"), .none]), #[]⟩
noncomputable def o26_0 (p : Params) : Obj := ⟨(.ref 22), some 20, .plain, #[]⟩
noncomputable def o27_0 (p : Params) : Obj := ⟨.none, none, (.seq #[(.int 11 0), (.str (S [6, 247, 8, 95, 95, 110, 97, 109, 101, 95, 95, 6, 246, 4, 95, 115, 114, 101, 6, 248, 7, 95, 95, 100, 111, 99, 95, 95, 0, 6, 250, 11, 95, 95, 112, 97, 99, 107, 97, 103, 101, 95, 95, 6, 249, 0, 6, 251, 10, 95, 95, 108, 111, 97, 100, 101, 114, 95, 95, 4, 0, 0, 14, 6, 252, 8, 95, 95, 115, 112, 101, 99, 95, 95, 4, 0, 0, 26, 6, 253, 7, 99, 111, 109, 112, 105, 108, 101, 9, 12, 95, 115, 114, 101, 46, 99, 111, 109, 112, 105, 108, 101, 6, 254, 8, 116, 101, 109, 112, 108, 97, 116, 101, 9, 13, 95, 115, 114, 101, 46, 116, 101, 109, 112, 108, 97, 116, 101, 6, 255, 11, 103, 101, 116, 99, 111, 100, 101, 115, 105, 122, 101, 9, 16, 95, 115, 114, 101, 46, 103, 101, 116, 99, 111, 100, 101, 115, 105, 122, 101, 6, 256, 13, 97, 115, 99, 105, 105, 95, 105, 115, 99, 97, 115, 101, 100, 9, 18, 95, 115, 114, 101, 46, 97, 115, 99, 105, 105, 95, 105, 115, 99, 97, 115, 101, 100, 6, 257, 15, 117, 110, 105, 99, 111, 100, 101, 95, 105, 115, 99, 97, 115, 101, 100, 9, 20, 95, 115, 114, 101, 46, 117, 110, 105, 99, 111, 100, 101, 95, 105, 115, 99, 97, 115, 101, 100, 6, 258, 13, 97, 115, 99, 105, 105, 95, 116, 111, 108, 111, 119, 101, 114, 9, 18, 95, 115, 114, 101, 46, 97, 115, 99, 105, 105, 95, 116, 111, 108, 111, 119, 101, 114, 6, 259, 15, 117, 110, 105, 99, 111, 100, 101, 95, 116, 111, 108, 111, 119, 101, 114, 9, 20, 95, 115, 114, 101, 46, 117, 110, 105, 99, 111, 100, 101, 95, 116, 111, 108, 111, 119, 101, 114, 6, 261, 5, 77, 65, 71, 73, 67, 4, 260, 0, 20230612, 6, 263, 8, 67, 79, 68, 69, 83, 73, 90, 69, 4, 262, 0, 4, 6, 265, 9, 77, 65, 88, 82, 69, 80, 69, 65, 84, 4, 264, 0, 4294967295, 6, 267, 9, 77, 65, 88, 71, 82, 79, 85, 80, 83, 4, 266, 0, 1073741823, 6, 269, 9, 99, 111, 112, 121, 114, 105, 103, 104, 116, 6, 268, 53, 32, 83, 82, 69, 32, 50, 46, 50, 46, 50, 32, 67, 111, 112, 121, 114, 105, 103, 104, 116, 32, 40, 99, 41, 32, 49, 57, 57, 55, 45, 50, 48, 48, 50, 32, 98, 121, 32, 83, 101, 99, 114, 101, 116, 32, 76, 97, 98, 115, 32, 65, 66, 32]) 0), (.bool true), (.bool false), (.str (S [95, 115, 114, 101]) 271)] 0), #[]⟩
noncomputable def he (p : Params) : Heap := ⟨⟨[(boot_o_0 p), (o1_1 p), (o2_1 p), (o3_1 p), (boot_o_4 p), (boot_o_5 p), (boot_o_6 p), (boot_o_7 p), (boot_o_8 p), (boot_o_9 p), (boot_o_10 p), (o11_0 p), (o12_0 p), (o13_0 p), (o14_0 p), (o15_0 p), (o16_0 p), (o17_0 p), (o18_0 p), (o19_0 p), (o20_0 p), (o21_0 p), (o22_0 p), (o23_0 p), (o24_0 p), (o25_0 p), (o26_0 p), (o27_0 p)]⟩, { known := 0 }⟩
noncomputable def o11_1 (p : Params) : Obj := ⟨(.type "dict"), none, (.dict #[⟨PyData.keyHash p (S [95, 95, 110, 97, 109, 101, 95, 95]), (.str (S [95, 95, 110, 97, 109, 101, 95, 95]) 247), (.str (S [95, 115, 114, 101]) 246)⟩, ⟨PyData.keyHash p (S [95, 95, 100, 111, 99, 95, 95]), (.str (S [95, 95, 100, 111, 99, 95, 95]) 248), .none⟩, ⟨PyData.keyHash p (S [95, 95, 112, 97, 99, 107, 97, 103, 101, 95, 95]), (.str (S [95, 95, 112, 97, 99, 107, 97, 103, 101, 95, 95]) 250), (.str (S []) 249)⟩, ⟨PyData.keyHash p (S [95, 95, 108, 111, 97, 100, 101, 114, 95, 95]), (.str (S [95, 95, 108, 111, 97, 100, 101, 114, 95, 95]) 251), (.builtin "off-the-table:_sre.__loader__:shared#opaque")⟩, ⟨PyData.keyHash p (S [95, 95, 115, 112, 101, 99, 95, 95]), (.str (S [95, 95, 115, 112, 101, 99, 95, 95]) 252), (.builtin "off-the-table:_sre.__spec__:shared#opaque")⟩, ⟨PyData.keyHash p (S [99, 111, 109, 112, 105, 108, 101]), (.str (S [99, 111, 109, 112, 105, 108, 101]) 253), (.builtin "_sre.compile")⟩, ⟨PyData.keyHash p (S [116, 101, 109, 112, 108, 97, 116, 101]), (.str (S [116, 101, 109, 112, 108, 97, 116, 101]) 254), (.builtin "off-the-table:_sre.template:shared#opaque")⟩, ⟨PyData.keyHash p (S [103, 101, 116, 99, 111, 100, 101, 115, 105, 122, 101]), (.str (S [103, 101, 116, 99, 111, 100, 101, 115, 105, 122, 101]) 255), (.builtin "off-the-table:_sre.getcodesize:shared#opaque")⟩, ⟨PyData.keyHash p (S [97, 115, 99, 105, 105, 95, 105, 115, 99, 97, 115, 101, 100]), (.str (S [97, 115, 99, 105, 105, 95, 105, 115, 99, 97, 115, 101, 100]) 256), (.builtin "off-the-table:_sre.ascii_iscased:shared#opaque")⟩, ⟨PyData.keyHash p (S [117, 110, 105, 99, 111, 100, 101, 95, 105, 115, 99, 97, 115, 101, 100]), (.str (S [117, 110, 105, 99, 111, 100, 101, 95, 105, 115, 99, 97, 115, 101, 100]) 257), (.builtin "off-the-table:_sre.unicode_iscased:shared#opaque")⟩, ⟨PyData.keyHash p (S [97, 115, 99, 105, 105, 95, 116, 111, 108, 111, 119, 101, 114]), (.str (S [97, 115, 99, 105, 105, 95, 116, 111, 108, 111, 119, 101, 114]) 258), (.builtin "off-the-table:_sre.ascii_tolower:shared#opaque")⟩, ⟨PyData.keyHash p (S [117, 110, 105, 99, 111, 100, 101, 95, 116, 111, 108, 111, 119, 101, 114]), (.str (S [117, 110, 105, 99, 111, 100, 101, 95, 116, 111, 108, 111, 119, 101, 114]) 259), (.builtin "off-the-table:_sre.unicode_tolower:shared#opaque")⟩, ⟨PyData.keyHash p (S [77, 65, 71, 73, 67]), (.str (S [77, 65, 71, 73, 67]) 261), (.int 20230612 260)⟩, ⟨PyData.keyHash p (S [67, 79, 68, 69, 83, 73, 90, 69]), (.str (S [67, 79, 68, 69, 83, 73, 90, 69]) 263), (.int 4 262)⟩, ⟨PyData.keyHash p (S [77, 65, 88, 82, 69, 80, 69, 65, 84]), (.str (S [77, 65, 88, 82, 69, 80, 69, 65, 84]) 265), (.int 4294967295 264)⟩, ⟨PyData.keyHash p (S [77, 65, 88, 71, 82, 79, 85, 80, 83]), (.str (S [77, 65, 88, 71, 82, 79, 85, 80, 83]) 267), (.int 1073741823 266)⟩, ⟨PyData.keyHash p (S [99, 111, 112, 121, 114, 105, 103, 104, 116]), (.str (S [99, 111, 112, 121, 114, 105, 103, 104, 116]) 269), (.str (S [32, 83, 82, 69, 32, 50, 46, 50, 46, 50, 32, 67, 111, 112, 121, 114, 105, 103, 104, 116, 32, 40, 99, 41, 32, 49, 57, 57, 55, 45, 50, 48, 48, 50, 32, 98, 121, 32, 83, 101, 99, 114, 101, 116, 32, 76, 97, 98, 115, 32, 65, 66, 32]) 268)⟩] 17), #[]⟩
noncomputable def h0 (p : Params) : Heap := ⟨⟨[(boot_o_0 p), (o1_1 p), (o2_1 p), (o3_1 p), (boot_o_4 p), (boot_o_5 p), (boot_o_6 p), (boot_o_7 p), (boot_o_8 p), (boot_o_9 p), (boot_o_10 p), (o11_1 p), (o12_0 p), (o13_0 p), (o14_0 p), (o15_0 p), (o16_0 p), (o17_0 p), (o18_0 p), (o19_0 p), (o20_0 p), (o21_0 p), (o22_0 p), (o23_0 p), (o24_0 p), (o25_0 p), (o26_0 p), (o27_0 p)]⟩, { known := 0 }⟩
noncomputable def o28_0 (p : Params) : Obj := ⟨(.type "tuple"), none, (.seq #[] 0), #[]⟩
noncomputable def o29_0 (p : Params) : Obj := ⟨.none, none, (.fields #[]), #[]⟩
noncomputable def o30_0 (p : Params) : Obj := ⟨(.type "code"), none, (.fields #[(.str (S [60, 109, 111, 100, 117, 108, 101, 62]) 277), (.str (S [60, 109, 111, 100, 117, 108, 101, 62]) 278), (.str (S [47, 99, 108, 97, 105, 109, 47, 99, 117, 116, 46, 112, 121]) 279), (.int 1 0), (.int 0 0), (.int 0 0), (.int 0 0), (.int 0 0), (.ref 28), (.bool false), (.int 276 0), (.ref 29), .none, .none, .none, .none, (.int 280 0), (.int 1 0), (.str (S [47, 99, 108, 97, 105, 109, 47, 99, 117, 116, 46, 112, 121]) 281)]), #[]⟩
noncomputable def o31_0 (p : Params) : Obj := ⟨(.type "frame"), none, .plain, #[some (.ref 30), some (.ref 3), some (.ref 3), none, some (.str (S [95, 95, 109, 97, 105, 110, 95, 95]) 164), none, some (.ref 0)]⟩
noncomputable def ha (p : Params) : Heap := ⟨⟨[(boot_o_0 p), (o1_1 p), (o2_1 p), (o3_1 p), (boot_o_4 p), (boot_o_5 p), (boot_o_6 p), (boot_o_7 p), (boot_o_8 p), (boot_o_9 p), (boot_o_10 p), (o11_1 p), (o12_0 p), (o13_0 p), (o14_0 p), (o15_0 p), (o16_0 p), (o17_0 p), (o18_0 p), (o19_0 p), (o20_0 p), (o21_0 p), (o22_0 p), (o23_0 p), (o24_0 p), (o25_0 p), (o26_0 p), (o27_0 p), (o28_0 p), (o29_0 p), (o30_0 p), (o31_0 p)]⟩, { known := 0 }⟩
noncomputable def s0_t (p : Params) : BT := (.node (boot_o_0 p) (.node (o1_1 p) (.node (o3_1 p) (.node (boot_o_7 p) (.node (o15_0 p) (.node (o31_0 p) .nil .nil) .nil) (.node (o23_0 p) .nil .nil)) (.node (o11_1 p) (.node (o19_0 p) .nil .nil) (.node (o27_0 p) .nil .nil))) (.node (boot_o_5 p) (.node (boot_o_9 p) (.node (o17_0 p) .nil .nil) (.node (o25_0 p) .nil .nil)) (.node (o13_0 p) (.node (o21_0 p) .nil .nil) (.node (o29_0 p) .nil .nil)))) (.node (o2_1 p) (.node (boot_o_4 p) (.node (boot_o_8 p) (.node (o16_0 p) .nil .nil) (.node (o24_0 p) .nil .nil)) (.node (o12_0 p) (.node (o20_0 p) .nil .nil) (.node (o28_0 p) .nil .nil))) (.node (boot_o_6 p) (.node (boot_o_10 p) (.node (o18_0 p) .nil .nil) (.node (o26_0 p) .nil .nil)) (.node (o14_0 p) (.node (o22_0 p) .nil .nil) (.node (o30_0 p) .nil .nil)))))
noncomputable def s0_ (w : World) (os : OsState) : SharedT := ⟨s0_t w.params, 32, { known := 0 }, ⟨[]⟩, ⟨0, 0, 0, 0⟩, 282, os⟩
noncomputable def o3_2 (p : Params) : Obj := ⟨(.type "dict"), none, (.dict #[⟨PyData.keyHash p (S [95, 95, 110, 97, 109, 101, 95, 95]), (.str (S [95, 95, 110, 97, 109, 101, 95, 95]) 165), (.str (S [95, 95, 109, 97, 105, 110, 95, 95]) 164)⟩, ⟨PyData.keyHash p (S [95, 95, 100, 111, 99, 95, 95]), (.str (S [95, 95, 100, 111, 99, 95, 95]) 166), .none⟩, ⟨PyData.keyHash p (S [95, 95, 112, 97, 99, 107, 97, 103, 101, 95, 95]), (.str (S [95, 95, 112, 97, 99, 107, 97, 103, 101, 95, 95]) 167), .none⟩, ⟨PyData.keyHash p (S [95, 95, 108, 111, 97, 100, 101, 114, 95, 95]), (.str (S [95, 95, 108, 111, 97, 100, 101, 114, 95, 95]) 168), (.builtin "__main__.__loader__#opaque")⟩, ⟨PyData.keyHash p (S [95, 95, 115, 112, 101, 99, 95, 95]), (.str (S [95, 95, 115, 112, 101, 99, 95, 95]) 169), .none⟩, ⟨PyData.keyHash p (S [95, 95, 97, 110, 110, 111, 116, 97, 116, 105, 111, 110, 115, 95, 95]), (.str (S [95, 95, 97, 110, 110, 111, 116, 97, 116, 105, 111, 110, 115, 95, 95]) 170), (.ref 6)⟩, ⟨PyData.keyHash p (S [95, 95, 98, 117, 105, 108, 116, 105, 110, 115, 95, 95]), (.str (S [95, 95, 98, 117, 105, 108, 116, 105, 110, 115, 95, 95]) 171), (.ref 4)⟩, ⟨PyData.keyHash p (S [95, 95, 102, 105, 108, 101, 95, 95]), (.str (S [95, 95, 102, 105, 108, 101, 95, 95]) 173), (.str (S [47, 99, 108, 97, 105, 109, 47, 99, 117, 116, 46, 112, 121]) 172)⟩, ⟨PyData.keyHash p (S [95, 95, 99, 97, 99, 104, 101, 100, 95, 95]), (.str (S [95, 95, 99, 97, 99, 104, 101, 100, 95, 95]) 174), .none⟩, ⟨PyData.keyHash p (S [95, 115, 114, 101]), (.str (S [95, 115, 114, 101]) 275), (.ref 12)⟩, ⟨PyData.keyHash p (S [67, 82, 76, 70]), (.str (S [67, 82, 76, 70]) 283), (.str (S [13, 10]) 282)⟩, ⟨PyData.keyHash p (S [78, 76]), (.str (S [78, 76]) 285), (.str (S [10]) 284)⟩] 12), #[]⟩
noncomputable def s1_t (p : Params) : BT := (.node (boot_o_0 p) (.node (o1_1 p) (.node (o3_2 p) (.node (boot_o_7 p) (.node (o15_0 p) (.node (o31_0 p) .nil .nil) .nil) (.node (o23_0 p) .nil .nil)) (.node (o11_1 p) (.node (o19_0 p) .nil .nil) (.node (o27_0 p) .nil .nil))) (.node (boot_o_5 p) (.node (boot_o_9 p) (.node (o17_0 p) .nil .nil) (.node (o25_0 p) .nil .nil)) (.node (o13_0 p) (.node (o21_0 p) .nil .nil) (.node (o29_0 p) .nil .nil)))) (.node (o2_1 p) (.node (boot_o_4 p) (.node (boot_o_8 p) (.node (o16_0 p) .nil .nil) (.node (o24_0 p) .nil .nil)) (.node (o12_0 p) (.node (o20_0 p) .nil .nil) (.node (o28_0 p) .nil .nil))) (.node (boot_o_6 p) (.node (boot_o_10 p) (.node (o18_0 p) .nil .nil) (.node (o26_0 p) .nil .nil)) (.node (o14_0 p) (.node (o22_0 p) .nil .nil) (.node (o30_0 p) .nil .nil)))))
noncomputable def s1_ (w : World) (os : OsState) : SharedT := ⟨s1_t w.params, 32, { known := 0 }, ⟨[]⟩, ⟨0, 0, 0, 0⟩, 286, os⟩
noncomputable def o3_3 (p : Params) : Obj := ⟨(.type "dict"), none, (.dict #[⟨PyData.keyHash p (S [95, 95, 110, 97, 109, 101, 95, 95]), (.str (S [95, 95, 110, 97, 109, 101, 95, 95]) 165), (.str (S [95, 95, 109, 97, 105, 110, 95, 95]) 164)⟩, ⟨PyData.keyHash p (S [95, 95, 100, 111, 99, 95, 95]), (.str (S [95, 95, 100, 111, 99, 95, 95]) 166), .none⟩, ⟨PyData.keyHash p (S [95, 95, 112, 97, 99, 107, 97, 103, 101, 95, 95]), (.str (S [95, 95, 112, 97, 99, 107, 97, 103, 101, 95, 95]) 167), .none⟩, ⟨PyData.keyHash p (S [95, 95, 108, 111, 97, 100, 101, 114, 95, 95]), (.str (S [95, 95, 108, 111, 97, 100, 101, 114, 95, 95]) 168), (.builtin "__main__.__loader__#opaque")⟩, ⟨PyData.keyHash p (S [95, 95, 115, 112, 101, 99, 95, 95]), (.str (S [95, 95, 115, 112, 101, 99, 95, 95]) 169), .none⟩, ⟨PyData.keyHash p (S [95, 95, 97, 110, 110, 111, 116, 97, 116, 105, 111, 110, 115, 95, 95]), (.str (S [95, 95, 97, 110, 110, 111, 116, 97, 116, 105, 111, 110, 115, 95, 95]) 170), (.ref 6)⟩, ⟨PyData.keyHash p (S [95, 95, 98, 117, 105, 108, 116, 105, 110, 115, 95, 95]), (.str (S [95, 95, 98, 117, 105, 108, 116, 105, 110, 115, 95, 95]) 171), (.ref 4)⟩, ⟨PyData.keyHash p (S [95, 95, 102, 105, 108, 101, 95, 95]), (.str (S [95, 95, 102, 105, 108, 101, 95, 95]) 173), (.str (S [47, 99, 108, 97, 105, 109, 47, 99, 117, 116, 46, 112, 121]) 172)⟩, ⟨PyData.keyHash p (S [95, 95, 99, 97, 99, 104, 101, 100, 95, 95]), (.str (S [95, 95, 99, 97, 99, 104, 101, 100, 95, 95]) 174), .none⟩, ⟨PyData.keyHash p (S [95, 115, 114, 101]), (.str (S [95, 115, 114, 101]) 275), (.ref 12)⟩, ⟨PyData.keyHash p (S [67, 82, 76, 70]), (.str (S [67, 82, 76, 70]) 283), (.str (S [13, 10]) 282)⟩, ⟨PyData.keyHash p (S [78, 76]), (.str (S [78, 76]) 285), (.str (S [10]) 284)⟩, ⟨PyData.keyHash p (S [95, 81, 85, 79, 80, 82, 73, 95, 77, 65, 80]), (.str (S [95, 81, 85, 79, 80, 82, 73, 95, 77, 65, 80]) 1313), (.ref 34)⟩] 13), #[]⟩
noncomputable def o32_0 (p : Params) : Obj := ⟨(.type "range"), none, (.fields #[(.int 0 287), (.int 256 286), (.int 1 288)]), #[]⟩
noncomputable def o33_0 (p : Params) : Obj := ⟨(.type "range_iterator"), none, (.fields #[(.int 256 0), (.int 0 0), (.int 1 0)]), #[]⟩
noncomputable def o34_0 (p : Params) : Obj := ⟨(.type "list"), none, (.seq #[(.str (S [61, 48, 48]) 292), (.str (S [61, 48, 49]) 296), (.str (S [61, 48, 50]) 300), (.str (S [61, 48, 51]) 304), (.str (S [61, 48, 52]) 308), (.str (S [61, 48, 53]) 312), (.str (S [61, 48, 54]) 316), (.str (S [61, 48, 55]) 320), (.str (S [61, 48, 56]) 324), (.str (S [61, 48, 57]) 328), (.str (S [61, 48, 65]) 332), (.str (S [61, 48, 66]) 336), (.str (S [61, 48, 67]) 340), (.str (S [61, 48, 68]) 344), (.str (S [61, 48, 69]) 348), (.str (S [61, 48, 70]) 352), (.str (S [61, 49, 48]) 356), (.str (S [61, 49, 49]) 360), (.str (S [61, 49, 50]) 364), (.str (S [61, 49, 51]) 368), (.str (S [61, 49, 52]) 372), (.str (S [61, 49, 53]) 376), (.str (S [61, 49, 54]) 380), (.str (S [61, 49, 55]) 384), (.str (S [61, 49, 56]) 388), (.str (S [61, 49, 57]) 392), (.str (S [61, 49, 65]) 396), (.str (S [61, 49, 66]) 400), (.str (S [61, 49, 67]) 404), (.str (S [61, 49, 68]) 408), (.str (S [61, 49, 69]) 412), (.str (S [61, 49, 70]) 416), (.str (S [61, 50, 48]) 420), (.str (S [61, 50, 49]) 424), (.str (S [61, 50, 50]) 428), (.str (S [61, 50, 51]) 432), (.str (S [61, 50, 52]) 436), (.str (S [61, 50, 53]) 440), (.str (S [61, 50, 54]) 444), (.str (S [61, 50, 55]) 448), (.str (S [61, 50, 56]) 452), (.str (S [61, 50, 57]) 456), (.str (S [61, 50, 65]) 460), (.str (S [61, 50, 66]) 464), (.str (S [61, 50, 67]) 468), (.str (S [61, 50, 68]) 472), (.str (S [61, 50, 69]) 476), (.str (S [61, 50, 70]) 480), (.str (S [61, 51, 48]) 484), (.str (S [61, 51, 49]) 488), (.str (S [61, 51, 50]) 492), (.str (S [61, 51, 51]) 496), (.str (S [61, 51, 52]) 500), (.str (S [61, 51, 53]) 504), (.str (S [61, 51, 54]) 508), (.str (S [61, 51, 55]) 512), (.str (S [61, 51, 56]) 516), (.str (S [61, 51, 57]) 520), (.str (S [61, 51, 65]) 524), (.str (S [61, 51, 66]) 528), (.str (S [61, 51, 67]) 532), (.str (S [61, 51, 68]) 536), (.str (S [61, 51, 69]) 540), (.str (S [61, 51, 70]) 544), (.str (S [61, 52, 48]) 548), (.str (S [61, 52, 49]) 552), (.str (S [61, 52, 50]) 556), (.str (S [61, 52, 51]) 560), (.str (S [61, 52, 52]) 564), (.str (S [61, 52, 53]) 568), (.str (S [61, 52, 54]) 572), (.str (S [61, 52, 55]) 576), (.str (S [61, 52, 56]) 580), (.str (S [61, 52, 57]) 584), (.str (S [61, 52, 65]) 588), (.str (S [61, 52, 66]) 592), (.str (S [61, 52, 67]) 596), (.str (S [61, 52, 68]) 600), (.str (S [61, 52, 69]) 604), (.str (S [61, 52, 70]) 608), (.str (S [61, 53, 48]) 612), (.str (S [61, 53, 49]) 616), (.str (S [61, 53, 50]) 620), (.str (S [61, 53, 51]) 624), (.str (S [61, 53, 52]) 628), (.str (S [61, 53, 53]) 632), (.str (S [61, 53, 54]) 636), (.str (S [61, 53, 55]) 640), (.str (S [61, 53, 56]) 644), (.str (S [61, 53, 57]) 648), (.str (S [61, 53, 65]) 652), (.str (S [61, 53, 66]) 656), (.str (S [61, 53, 67]) 660), (.str (S [61, 53, 68]) 664), (.str (S [61, 53, 69]) 668), (.str (S [61, 53, 70]) 672), (.str (S [61, 54, 48]) 676), (.str (S [61, 54, 49]) 680), (.str (S [61, 54, 50]) 684), (.str (S [61, 54, 51]) 688), (.str (S [61, 54, 52]) 692), (.str (S [61, 54, 53]) 696), (.str (S [61, 54, 54]) 700), (.str (S [61, 54, 55]) 704), (.str (S [61, 54, 56]) 708), (.str (S [61, 54, 57]) 712), (.str (S [61, 54, 65]) 716), (.str (S [61, 54, 66]) 720), (.str (S [61, 54, 67]) 724), (.str (S [61, 54, 68]) 728), (.str (S [61, 54, 69]) 732), (.str (S [61, 54, 70]) 736), (.str (S [61, 55, 48]) 740), (.str (S [61, 55, 49]) 744), (.str (S [61, 55, 50]) 748), (.str (S [61, 55, 51]) 752), (.str (S [61, 55, 52]) 756), (.str (S [61, 55, 53]) 760), (.str (S [61, 55, 54]) 764), (.str (S [61, 55, 55]) 768), (.str (S [61, 55, 56]) 772), (.str (S [61, 55, 57]) 776), (.str (S [61, 55, 65]) 780), (.str (S [61, 55, 66]) 784), (.str (S [61, 55, 67]) 788), (.str (S [61, 55, 68]) 792), (.str (S [61, 55, 69]) 796), (.str (S [61, 55, 70]) 800), (.str (S [61, 56, 48]) 804), (.str (S [61, 56, 49]) 808), (.str (S [61, 56, 50]) 812), (.str (S [61, 56, 51]) 816), (.str (S [61, 56, 52]) 820), (.str (S [61, 56, 53]) 824), (.str (S [61, 56, 54]) 828), (.str (S [61, 56, 55]) 832), (.str (S [61, 56, 56]) 836), (.str (S [61, 56, 57]) 840), (.str (S [61, 56, 65]) 844), (.str (S [61, 56, 66]) 848), (.str (S [61, 56, 67]) 852), (.str (S [61, 56, 68]) 856), (.str (S [61, 56, 69]) 860), (.str (S [61, 56, 70]) 864), (.str (S [61, 57, 48]) 868), (.str (S [61, 57, 49]) 872), (.str (S [61, 57, 50]) 876), (.str (S [61, 57, 51]) 880), (.str (S [61, 57, 52]) 884), (.str (S [61, 57, 53]) 888), (.str (S [61, 57, 54]) 892), (.str (S [61, 57, 55]) 896), (.str (S [61, 57, 56]) 900), (.str (S [61, 57, 57]) 904), (.str (S [61, 57, 65]) 908), (.str (S [61, 57, 66]) 912), (.str (S [61, 57, 67]) 916), (.str (S [61, 57, 68]) 920), (.str (S [61, 57, 69]) 924), (.str (S [61, 57, 70]) 928), (.str (S [61, 65, 48]) 932), (.str (S [61, 65, 49]) 936), (.str (S [61, 65, 50]) 940), (.str (S [61, 65, 51]) 944), (.str (S [61, 65, 52]) 948), (.str (S [61, 65, 53]) 952), (.str (S [61, 65, 54]) 956), (.str (S [61, 65, 55]) 960), (.str (S [61, 65, 56]) 964), (.str (S [61, 65, 57]) 968), (.str (S [61, 65, 65]) 972), (.str (S [61, 65, 66]) 976), (.str (S [61, 65, 67]) 980), (.str (S [61, 65, 68]) 984), (.str (S [61, 65, 69]) 988), (.str (S [61, 65, 70]) 992), (.str (S [61, 66, 48]) 996), (.str (S [61, 66, 49]) 1000), (.str (S [61, 66, 50]) 1004), (.str (S [61, 66, 51]) 1008), (.str (S [61, 66, 52]) 1012), (.str (S [61, 66, 53]) 1016), (.str (S [61, 66, 54]) 1020), (.str (S [61, 66, 55]) 1024), (.str (S [61, 66, 56]) 1028), (.str (S [61, 66, 57]) 1032), (.str (S [61, 66, 65]) 1036), (.str (S [61, 66, 66]) 1040), (.str (S [61, 66, 67]) 1044), (.str (S [61, 66, 68]) 1048), (.str (S [61, 66, 69]) 1052), (.str (S [61, 66, 70]) 1056), (.str (S [61, 67, 48]) 1060), (.str (S [61, 67, 49]) 1064), (.str (S [61, 67, 50]) 1068), (.str (S [61, 67, 51]) 1072), (.str (S [61, 67, 52]) 1076), (.str (S [61, 67, 53]) 1080), (.str (S [61, 67, 54]) 1084), (.str (S [61, 67, 55]) 1088), (.str (S [61, 67, 56]) 1092), (.str (S [61, 67, 57]) 1096), (.str (S [61, 67, 65]) 1100), (.str (S [61, 67, 66]) 1104), (.str (S [61, 67, 67]) 1108), (.str (S [61, 67, 68]) 1112), (.str (S [61, 67, 69]) 1116), (.str (S [61, 67, 70]) 1120), (.str (S [61, 68, 48]) 1124), (.str (S [61, 68, 49]) 1128), (.str (S [61, 68, 50]) 1132), (.str (S [61, 68, 51]) 1136), (.str (S [61, 68, 52]) 1140), (.str (S [61, 68, 53]) 1144), (.str (S [61, 68, 54]) 1148), (.str (S [61, 68, 55]) 1152), (.str (S [61, 68, 56]) 1156), (.str (S [61, 68, 57]) 1160), (.str (S [61, 68, 65]) 1164), (.str (S [61, 68, 66]) 1168), (.str (S [61, 68, 67]) 1172), (.str (S [61, 68, 68]) 1176), (.str (S [61, 68, 69]) 1180), (.str (S [61, 68, 70]) 1184), (.str (S [61, 69, 48]) 1188), (.str (S [61, 69, 49]) 1192), (.str (S [61, 69, 50]) 1196), (.str (S [61, 69, 51]) 1200), (.str (S [61, 69, 52]) 1204), (.str (S [61, 69, 53]) 1208), (.str (S [61, 69, 54]) 1212), (.str (S [61, 69, 55]) 1216), (.str (S [61, 69, 56]) 1220), (.str (S [61, 69, 57]) 1224), (.str (S [61, 69, 65]) 1228), (.str (S [61, 69, 66]) 1232), (.str (S [61, 69, 67]) 1236), (.str (S [61, 69, 68]) 1240), (.str (S [61, 69, 69]) 1244), (.str (S [61, 69, 70]) 1248), (.str (S [61, 70, 48]) 1252), (.str (S [61, 70, 49]) 1256), (.str (S [61, 70, 50]) 1260), (.str (S [61, 70, 51]) 1264), (.str (S [61, 70, 52]) 1268), (.str (S [61, 70, 53]) 1272), (.str (S [61, 70, 54]) 1276), (.str (S [61, 70, 55]) 1280), (.str (S [61, 70, 56]) 1284), (.str (S [61, 70, 57]) 1288), (.str (S [61, 70, 65]) 1292), (.str (S [61, 70, 66]) 1296), (.str (S [61, 70, 67]) 1300), (.str (S [61, 70, 68]) 1304), (.str (S [61, 70, 69]) 1308), (.str (S [61, 70, 70]) 1312)] 256), #[]⟩
noncomputable def o35_0 (p : Params) : Obj := ⟨(.type "dict"), none, (.dict #[] 2), #[]⟩
noncomputable def o36_0 (p : Params) : Obj := ⟨(.type "tuple"), none, (.seq #[] 0), #[]⟩
noncomputable def o37_0 (p : Params) : Obj := ⟨(.type "StopIteration"), none, (.fields #[(.ref 36), .none, .none, .none, (.bool false), .none]), #[]⟩
noncomputable def s2_t (p : Params) : BT := (.node (boot_o_0 p) (.node (o1_1 p) (.node (o3_3 p) (.node (boot_o_7 p) (.node (o15_0 p) (.node (o31_0 p) .nil .nil) .nil) (.node (o23_0 p) .nil .nil)) (.node (o11_1 p) (.node (o19_0 p) (.node (o35_0 p) .nil .nil) .nil) (.node (o27_0 p) .nil .nil))) (.node (boot_o_5 p) (.node (boot_o_9 p) (.node (o17_0 p) (.node (o33_0 p) .nil .nil) .nil) (.node (o25_0 p) .nil .nil)) (.node (o13_0 p) (.node (o21_0 p) (.node (o37_0 p) .nil .nil) .nil) (.node (o29_0 p) .nil .nil)))) (.node (o2_1 p) (.node (boot_o_4 p) (.node (boot_o_8 p) (.node (o16_0 p) (.node (o32_0 p) .nil .nil) .nil) (.node (o24_0 p) .nil .nil)) (.node (o12_0 p) (.node (o20_0 p) (.node (o36_0 p) .nil .nil) .nil) (.node (o28_0 p) .nil .nil))) (.node (boot_o_6 p) (.node (boot_o_10 p) (.node (o18_0 p) (.node (o34_0 p) .nil .nil) .nil) (.node (o26_0 p) .nil .nil)) (.node (o14_0 p) (.node (o22_0 p) .nil .nil) (.node (o30_0 p) .nil .nil)))))
noncomputable def s2_ (w : World) (os : OsState) : SharedT := ⟨s2_t w.params, 38, { known := 0 }, ⟨[]⟩, ⟨0, 0, 0, 0⟩, 1314, os⟩
noncomputable def o3_4 (p : Params) : Obj := ⟨(.type "dict"), none, (.dict #[⟨PyData.keyHash p (S [95, 95, 110, 97, 109, 101, 95, 95]), (.str (S [95, 95, 110, 97, 109, 101, 95, 95]) 165), (.str (S [99, 112, 121, 51, 49, 51, 46, 101, 109, 97, 105, 108, 46, 113, 117, 111, 112, 114, 105, 109, 105, 109, 101]) 1329)⟩, ⟨PyData.keyHash p (S [95, 95, 100, 111, 99, 95, 95]), (.str (S [95, 95, 100, 111, 99, 95, 95]) 166), .none⟩, ⟨PyData.keyHash p (S [95, 95, 112, 97, 99, 107, 97, 103, 101, 95, 95]), (.str (S [95, 95, 112, 97, 99, 107, 97, 103, 101, 95, 95]) 167), .none⟩, ⟨PyData.keyHash p (S [95, 95, 108, 111, 97, 100, 101, 114, 95, 95]), (.str (S [95, 95, 108, 111, 97, 100, 101, 114, 95, 95]) 168), (.builtin "__main__.__loader__#opaque")⟩, ⟨PyData.keyHash p (S [95, 95, 115, 112, 101, 99, 95, 95]), (.str (S [95, 95, 115, 112, 101, 99, 95, 95]) 169), .none⟩, ⟨PyData.keyHash p (S [95, 95, 97, 110, 110, 111, 116, 97, 116, 105, 111, 110, 115, 95, 95]), (.str (S [95, 95, 97, 110, 110, 111, 116, 97, 116, 105, 111, 110, 115, 95, 95]) 170), (.ref 6)⟩, ⟨PyData.keyHash p (S [95, 95, 98, 117, 105, 108, 116, 105, 110, 115, 95, 95]), (.str (S [95, 95, 98, 117, 105, 108, 116, 105, 110, 115, 95, 95]) 171), (.ref 4)⟩, ⟨PyData.keyHash p (S [95, 95, 102, 105, 108, 101, 95, 95]), (.str (S [95, 95, 102, 105, 108, 101, 95, 95]) 173), (.str (S [47, 99, 108, 97, 105, 109, 47, 99, 117, 116, 46, 112, 121]) 172)⟩, ⟨PyData.keyHash p (S [95, 95, 99, 97, 99, 104, 101, 100, 95, 95]), (.str (S [95, 95, 99, 97, 99, 104, 101, 100, 95, 95]) 174), .none⟩, ⟨PyData.keyHash p (S [95, 115, 114, 101]), (.str (S [95, 115, 114, 101]) 275), (.ref 12)⟩, ⟨PyData.keyHash p (S [67, 82, 76, 70]), (.str (S [67, 82, 76, 70]) 283), (.str (S [13, 10]) 282)⟩, ⟨PyData.keyHash p (S [78, 76]), (.str (S [78, 76]) 285), (.str (S [10]) 284)⟩, ⟨PyData.keyHash p (S [95, 81, 85, 79, 80, 82, 73, 95, 77, 65, 80]), (.str (S [95, 81, 85, 79, 80, 82, 73, 95, 77, 65, 80]) 1313), (.ref 34)⟩, ⟨PyData.keyHash p (S [95, 81, 85, 79, 80, 82, 73, 95, 72, 69, 65, 68, 69, 82, 95, 77, 65, 80]), (.str (S [95, 81, 85, 79, 80, 82, 73, 95, 72, 69, 65, 68, 69, 82, 95, 77, 65, 80]) 1314), (.ref 39)⟩, ⟨PyData.keyHash p (S [95, 81, 85, 79, 80, 82, 73, 95, 66, 79, 68, 89, 95, 77, 65, 80]), (.str (S [95, 81, 85, 79, 80, 82, 73, 95, 66, 79, 68, 89, 95, 77, 65, 80]) 1315), (.ref 41)⟩, ⟨PyData.keyHash p (S [97, 115, 99, 105, 105, 95, 108, 111, 119, 101, 114, 99, 97, 115, 101]), (.str (S [97, 115, 99, 105, 105, 95, 108, 111, 119, 101, 114, 99, 97, 115, 101]) 1317), (.str (S [97, 98, 99, 100, 101, 102, 103, 104, 105, 106, 107, 108, 109, 110, 111, 112, 113, 114, 115, 116, 117, 118, 119, 120, 121, 122]) 1316)⟩, ⟨PyData.keyHash p (S [97, 115, 99, 105, 105, 95, 117, 112, 112, 101, 114, 99, 97, 115, 101]), (.str (S [97, 115, 99, 105, 105, 95, 117, 112, 112, 101, 114, 99, 97, 115, 101]) 1319), (.str (S [65, 66, 67, 68, 69, 70, 71, 72, 73, 74, 75, 76, 77, 78, 79, 80, 81, 82, 83, 84, 85, 86, 87, 88, 89, 90]) 1318)⟩, ⟨PyData.keyHash p (S [97, 115, 99, 105, 105, 95, 108, 101, 116, 116, 101, 114, 115]), (.str (S [97, 115, 99, 105, 105, 95, 108, 101, 116, 116, 101, 114, 115]) 1321), (.str (S [97, 98, 99, 100, 101, 102, 103, 104, 105, 106, 107, 108, 109, 110, 111, 112, 113, 114, 115, 116, 117, 118, 119, 120, 121, 122, 65, 66, 67, 68, 69, 70, 71, 72, 73, 74, 75, 76, 77, 78, 79, 80, 81, 82, 83, 84, 85, 86, 87, 88, 89, 90]) 1320)⟩, ⟨PyData.keyHash p (S [100, 105, 103, 105, 116, 115]), (.str (S [100, 105, 103, 105, 116, 115]) 1323), (.str (S [48, 49, 50, 51, 52, 53, 54, 55, 56, 57]) 1322)⟩, ⟨PyData.keyHash p (S [104, 101, 120, 100, 105, 103, 105, 116, 115]), (.str (S [104, 101, 120, 100, 105, 103, 105, 116, 115]) 1328), (.str (S [48, 49, 50, 51, 52, 53, 54, 55, 56, 57, 97, 98, 99, 100, 101, 102, 65, 66, 67, 68, 69, 70]) 1327)⟩] 20), #[]⟩
noncomputable def o38_0 (p : Params) : Obj := ⟨(.type "slice"), none, (.fields #[.none, .none, .none]), #[]⟩
noncomputable def o39_0 (p : Params) : Obj := ⟨(.type "list"), none, (.seq #[(.str (S [61, 48, 48]) 292), (.str (S [61, 48, 49]) 296), (.str (S [61, 48, 50]) 300), (.str (S [61, 48, 51]) 304), (.str (S [61, 48, 52]) 308), (.str (S [61, 48, 53]) 312), (.str (S [61, 48, 54]) 316), (.str (S [61, 48, 55]) 320), (.str (S [61, 48, 56]) 324), (.str (S [61, 48, 57]) 328), (.str (S [61, 48, 65]) 332), (.str (S [61, 48, 66]) 336), (.str (S [61, 48, 67]) 340), (.str (S [61, 48, 68]) 344), (.str (S [61, 48, 69]) 348), (.str (S [61, 48, 70]) 352), (.str (S [61, 49, 48]) 356), (.str (S [61, 49, 49]) 360), (.str (S [61, 49, 50]) 364), (.str (S [61, 49, 51]) 368), (.str (S [61, 49, 52]) 372), (.str (S [61, 49, 53]) 376), (.str (S [61, 49, 54]) 380), (.str (S [61, 49, 55]) 384), (.str (S [61, 49, 56]) 388), (.str (S [61, 49, 57]) 392), (.str (S [61, 49, 65]) 396), (.str (S [61, 49, 66]) 400), (.str (S [61, 49, 67]) 404), (.str (S [61, 49, 68]) 408), (.str (S [61, 49, 69]) 412), (.str (S [61, 49, 70]) 416), (.str (S [61, 50, 48]) 420), (.str (S [61, 50, 49]) 424), (.str (S [61, 50, 50]) 428), (.str (S [61, 50, 51]) 432), (.str (S [61, 50, 52]) 436), (.str (S [61, 50, 53]) 440), (.str (S [61, 50, 54]) 444), (.str (S [61, 50, 55]) 448), (.str (S [61, 50, 56]) 452), (.str (S [61, 50, 57]) 456), (.str (S [61, 50, 65]) 460), (.str (S [61, 50, 66]) 464), (.str (S [61, 50, 67]) 468), (.str (S [61, 50, 68]) 472), (.str (S [61, 50, 69]) 476), (.str (S [61, 50, 70]) 480), (.str (S [61, 51, 48]) 484), (.str (S [61, 51, 49]) 488), (.str (S [61, 51, 50]) 492), (.str (S [61, 51, 51]) 496), (.str (S [61, 51, 52]) 500), (.str (S [61, 51, 53]) 504), (.str (S [61, 51, 54]) 508), (.str (S [61, 51, 55]) 512), (.str (S [61, 51, 56]) 516), (.str (S [61, 51, 57]) 520), (.str (S [61, 51, 65]) 524), (.str (S [61, 51, 66]) 528), (.str (S [61, 51, 67]) 532), (.str (S [61, 51, 68]) 536), (.str (S [61, 51, 69]) 540), (.str (S [61, 51, 70]) 544), (.str (S [61, 52, 48]) 548), (.str (S [61, 52, 49]) 552), (.str (S [61, 52, 50]) 556), (.str (S [61, 52, 51]) 560), (.str (S [61, 52, 52]) 564), (.str (S [61, 52, 53]) 568), (.str (S [61, 52, 54]) 572), (.str (S [61, 52, 55]) 576), (.str (S [61, 52, 56]) 580), (.str (S [61, 52, 57]) 584), (.str (S [61, 52, 65]) 588), (.str (S [61, 52, 66]) 592), (.str (S [61, 52, 67]) 596), (.str (S [61, 52, 68]) 600), (.str (S [61, 52, 69]) 604), (.str (S [61, 52, 70]) 608), (.str (S [61, 53, 48]) 612), (.str (S [61, 53, 49]) 616), (.str (S [61, 53, 50]) 620), (.str (S [61, 53, 51]) 624), (.str (S [61, 53, 52]) 628), (.str (S [61, 53, 53]) 632), (.str (S [61, 53, 54]) 636), (.str (S [61, 53, 55]) 640), (.str (S [61, 53, 56]) 644), (.str (S [61, 53, 57]) 648), (.str (S [61, 53, 65]) 652), (.str (S [61, 53, 66]) 656), (.str (S [61, 53, 67]) 660), (.str (S [61, 53, 68]) 664), (.str (S [61, 53, 69]) 668), (.str (S [61, 53, 70]) 672), (.str (S [61, 54, 48]) 676), (.str (S [61, 54, 49]) 680), (.str (S [61, 54, 50]) 684), (.str (S [61, 54, 51]) 688), (.str (S [61, 54, 52]) 692), (.str (S [61, 54, 53]) 696), (.str (S [61, 54, 54]) 700), (.str (S [61, 54, 55]) 704), (.str (S [61, 54, 56]) 708), (.str (S [61, 54, 57]) 712), (.str (S [61, 54, 65]) 716), (.str (S [61, 54, 66]) 720), (.str (S [61, 54, 67]) 724), (.str (S [61, 54, 68]) 728), (.str (S [61, 54, 69]) 732), (.str (S [61, 54, 70]) 736), (.str (S [61, 55, 48]) 740), (.str (S [61, 55, 49]) 744), (.str (S [61, 55, 50]) 748), (.str (S [61, 55, 51]) 752), (.str (S [61, 55, 52]) 756), (.str (S [61, 55, 53]) 760), (.str (S [61, 55, 54]) 764), (.str (S [61, 55, 55]) 768), (.str (S [61, 55, 56]) 772), (.str (S [61, 55, 57]) 776), (.str (S [61, 55, 65]) 780), (.str (S [61, 55, 66]) 784), (.str (S [61, 55, 67]) 788), (.str (S [61, 55, 68]) 792), (.str (S [61, 55, 69]) 796), (.str (S [61, 55, 70]) 800), (.str (S [61, 56, 48]) 804), (.str (S [61, 56, 49]) 808), (.str (S [61, 56, 50]) 812), (.str (S [61, 56, 51]) 816), (.str (S [61, 56, 52]) 820), (.str (S [61, 56, 53]) 824), (.str (S [61, 56, 54]) 828), (.str (S [61, 56, 55]) 832), (.str (S [61, 56, 56]) 836), (.str (S [61, 56, 57]) 840), (.str (S [61, 56, 65]) 844), (.str (S [61, 56, 66]) 848), (.str (S [61, 56, 67]) 852), (.str (S [61, 56, 68]) 856), (.str (S [61, 56, 69]) 860), (.str (S [61, 56, 70]) 864), (.str (S [61, 57, 48]) 868), (.str (S [61, 57, 49]) 872), (.str (S [61, 57, 50]) 876), (.str (S [61, 57, 51]) 880), (.str (S [61, 57, 52]) 884), (.str (S [61, 57, 53]) 888), (.str (S [61, 57, 54]) 892), (.str (S [61, 57, 55]) 896), (.str (S [61, 57, 56]) 900), (.str (S [61, 57, 57]) 904), (.str (S [61, 57, 65]) 908), (.str (S [61, 57, 66]) 912), (.str (S [61, 57, 67]) 916), (.str (S [61, 57, 68]) 920), (.str (S [61, 57, 69]) 924), (.str (S [61, 57, 70]) 928), (.str (S [61, 65, 48]) 932), (.str (S [61, 65, 49]) 936), (.str (S [61, 65, 50]) 940), (.str (S [61, 65, 51]) 944), (.str (S [61, 65, 52]) 948), (.str (S [61, 65, 53]) 952), (.str (S [61, 65, 54]) 956), (.str (S [61, 65, 55]) 960), (.str (S [61, 65, 56]) 964), (.str (S [61, 65, 57]) 968), (.str (S [61, 65, 65]) 972), (.str (S [61, 65, 66]) 976), (.str (S [61, 65, 67]) 980), (.str (S [61, 65, 68]) 984), (.str (S [61, 65, 69]) 988), (.str (S [61, 65, 70]) 992), (.str (S [61, 66, 48]) 996), (.str (S [61, 66, 49]) 1000), (.str (S [61, 66, 50]) 1004), (.str (S [61, 66, 51]) 1008), (.str (S [61, 66, 52]) 1012), (.str (S [61, 66, 53]) 1016), (.str (S [61, 66, 54]) 1020), (.str (S [61, 66, 55]) 1024), (.str (S [61, 66, 56]) 1028), (.str (S [61, 66, 57]) 1032), (.str (S [61, 66, 65]) 1036), (.str (S [61, 66, 66]) 1040), (.str (S [61, 66, 67]) 1044), (.str (S [61, 66, 68]) 1048), (.str (S [61, 66, 69]) 1052), (.str (S [61, 66, 70]) 1056), (.str (S [61, 67, 48]) 1060), (.str (S [61, 67, 49]) 1064), (.str (S [61, 67, 50]) 1068), (.str (S [61, 67, 51]) 1072), (.str (S [61, 67, 52]) 1076), (.str (S [61, 67, 53]) 1080), (.str (S [61, 67, 54]) 1084), (.str (S [61, 67, 55]) 1088), (.str (S [61, 67, 56]) 1092), (.str (S [61, 67, 57]) 1096), (.str (S [61, 67, 65]) 1100), (.str (S [61, 67, 66]) 1104), (.str (S [61, 67, 67]) 1108), (.str (S [61, 67, 68]) 1112), (.str (S [61, 67, 69]) 1116), (.str (S [61, 67, 70]) 1120), (.str (S [61, 68, 48]) 1124), (.str (S [61, 68, 49]) 1128), (.str (S [61, 68, 50]) 1132), (.str (S [61, 68, 51]) 1136), (.str (S [61, 68, 52]) 1140), (.str (S [61, 68, 53]) 1144), (.str (S [61, 68, 54]) 1148), (.str (S [61, 68, 55]) 1152), (.str (S [61, 68, 56]) 1156), (.str (S [61, 68, 57]) 1160), (.str (S [61, 68, 65]) 1164), (.str (S [61, 68, 66]) 1168), (.str (S [61, 68, 67]) 1172), (.str (S [61, 68, 68]) 1176), (.str (S [61, 68, 69]) 1180), (.str (S [61, 68, 70]) 1184), (.str (S [61, 69, 48]) 1188), (.str (S [61, 69, 49]) 1192), (.str (S [61, 69, 50]) 1196), (.str (S [61, 69, 51]) 1200), (.str (S [61, 69, 52]) 1204), (.str (S [61, 69, 53]) 1208), (.str (S [61, 69, 54]) 1212), (.str (S [61, 69, 55]) 1216), (.str (S [61, 69, 56]) 1220), (.str (S [61, 69, 57]) 1224), (.str (S [61, 69, 65]) 1228), (.str (S [61, 69, 66]) 1232), (.str (S [61, 69, 67]) 1236), (.str (S [61, 69, 68]) 1240), (.str (S [61, 69, 69]) 1244), (.str (S [61, 69, 70]) 1248), (.str (S [61, 70, 48]) 1252), (.str (S [61, 70, 49]) 1256), (.str (S [61, 70, 50]) 1260), (.str (S [61, 70, 51]) 1264), (.str (S [61, 70, 52]) 1268), (.str (S [61, 70, 53]) 1272), (.str (S [61, 70, 54]) 1276), (.str (S [61, 70, 55]) 1280), (.str (S [61, 70, 56]) 1284), (.str (S [61, 70, 57]) 1288), (.str (S [61, 70, 65]) 1292), (.str (S [61, 70, 66]) 1296), (.str (S [61, 70, 67]) 1300), (.str (S [61, 70, 68]) 1304), (.str (S [61, 70, 69]) 1308), (.str (S [61, 70, 70]) 1312)] 0), #[]⟩
noncomputable def o40_0 (p : Params) : Obj := ⟨(.type "slice"), none, (.fields #[.none, .none, .none]), #[]⟩
noncomputable def o41_0 (p : Params) : Obj := ⟨(.type "list"), none, (.seq #[(.str (S [61, 48, 48]) 292), (.str (S [61, 48, 49]) 296), (.str (S [61, 48, 50]) 300), (.str (S [61, 48, 51]) 304), (.str (S [61, 48, 52]) 308), (.str (S [61, 48, 53]) 312), (.str (S [61, 48, 54]) 316), (.str (S [61, 48, 55]) 320), (.str (S [61, 48, 56]) 324), (.str (S [61, 48, 57]) 328), (.str (S [61, 48, 65]) 332), (.str (S [61, 48, 66]) 336), (.str (S [61, 48, 67]) 340), (.str (S [61, 48, 68]) 344), (.str (S [61, 48, 69]) 348), (.str (S [61, 48, 70]) 352), (.str (S [61, 49, 48]) 356), (.str (S [61, 49, 49]) 360), (.str (S [61, 49, 50]) 364), (.str (S [61, 49, 51]) 368), (.str (S [61, 49, 52]) 372), (.str (S [61, 49, 53]) 376), (.str (S [61, 49, 54]) 380), (.str (S [61, 49, 55]) 384), (.str (S [61, 49, 56]) 388), (.str (S [61, 49, 57]) 392), (.str (S [61, 49, 65]) 396), (.str (S [61, 49, 66]) 400), (.str (S [61, 49, 67]) 404), (.str (S [61, 49, 68]) 408), (.str (S [61, 49, 69]) 412), (.str (S [61, 49, 70]) 416), (.str (S [61, 50, 48]) 420), (.str (S [61, 50, 49]) 424), (.str (S [61, 50, 50]) 428), (.str (S [61, 50, 51]) 432), (.str (S [61, 50, 52]) 436), (.str (S [61, 50, 53]) 440), (.str (S [61, 50, 54]) 444), (.str (S [61, 50, 55]) 448), (.str (S [61, 50, 56]) 452), (.str (S [61, 50, 57]) 456), (.str (S [61, 50, 65]) 460), (.str (S [61, 50, 66]) 464), (.str (S [61, 50, 67]) 468), (.str (S [61, 50, 68]) 472), (.str (S [61, 50, 69]) 476), (.str (S [61, 50, 70]) 480), (.str (S [61, 51, 48]) 484), (.str (S [61, 51, 49]) 488), (.str (S [61, 51, 50]) 492), (.str (S [61, 51, 51]) 496), (.str (S [61, 51, 52]) 500), (.str (S [61, 51, 53]) 504), (.str (S [61, 51, 54]) 508), (.str (S [61, 51, 55]) 512), (.str (S [61, 51, 56]) 516), (.str (S [61, 51, 57]) 520), (.str (S [61, 51, 65]) 524), (.str (S [61, 51, 66]) 528), (.str (S [61, 51, 67]) 532), (.str (S [61, 51, 68]) 536), (.str (S [61, 51, 69]) 540), (.str (S [61, 51, 70]) 544), (.str (S [61, 52, 48]) 548), (.str (S [61, 52, 49]) 552), (.str (S [61, 52, 50]) 556), (.str (S [61, 52, 51]) 560), (.str (S [61, 52, 52]) 564), (.str (S [61, 52, 53]) 568), (.str (S [61, 52, 54]) 572), (.str (S [61, 52, 55]) 576), (.str (S [61, 52, 56]) 580), (.str (S [61, 52, 57]) 584), (.str (S [61, 52, 65]) 588), (.str (S [61, 52, 66]) 592), (.str (S [61, 52, 67]) 596), (.str (S [61, 52, 68]) 600), (.str (S [61, 52, 69]) 604), (.str (S [61, 52, 70]) 608), (.str (S [61, 53, 48]) 612), (.str (S [61, 53, 49]) 616), (.str (S [61, 53, 50]) 620), (.str (S [61, 53, 51]) 624), (.str (S [61, 53, 52]) 628), (.str (S [61, 53, 53]) 632), (.str (S [61, 53, 54]) 636), (.str (S [61, 53, 55]) 640), (.str (S [61, 53, 56]) 644), (.str (S [61, 53, 57]) 648), (.str (S [61, 53, 65]) 652), (.str (S [61, 53, 66]) 656), (.str (S [61, 53, 67]) 660), (.str (S [61, 53, 68]) 664), (.str (S [61, 53, 69]) 668), (.str (S [61, 53, 70]) 672), (.str (S [61, 54, 48]) 676), (.str (S [61, 54, 49]) 680), (.str (S [61, 54, 50]) 684), (.str (S [61, 54, 51]) 688), (.str (S [61, 54, 52]) 692), (.str (S [61, 54, 53]) 696), (.str (S [61, 54, 54]) 700), (.str (S [61, 54, 55]) 704), (.str (S [61, 54, 56]) 708), (.str (S [61, 54, 57]) 712), (.str (S [61, 54, 65]) 716), (.str (S [61, 54, 66]) 720), (.str (S [61, 54, 67]) 724), (.str (S [61, 54, 68]) 728), (.str (S [61, 54, 69]) 732), (.str (S [61, 54, 70]) 736), (.str (S [61, 55, 48]) 740), (.str (S [61, 55, 49]) 744), (.str (S [61, 55, 50]) 748), (.str (S [61, 55, 51]) 752), (.str (S [61, 55, 52]) 756), (.str (S [61, 55, 53]) 760), (.str (S [61, 55, 54]) 764), (.str (S [61, 55, 55]) 768), (.str (S [61, 55, 56]) 772), (.str (S [61, 55, 57]) 776), (.str (S [61, 55, 65]) 780), (.str (S [61, 55, 66]) 784), (.str (S [61, 55, 67]) 788), (.str (S [61, 55, 68]) 792), (.str (S [61, 55, 69]) 796), (.str (S [61, 55, 70]) 800), (.str (S [61, 56, 48]) 804), (.str (S [61, 56, 49]) 808), (.str (S [61, 56, 50]) 812), (.str (S [61, 56, 51]) 816), (.str (S [61, 56, 52]) 820), (.str (S [61, 56, 53]) 824), (.str (S [61, 56, 54]) 828), (.str (S [61, 56, 55]) 832), (.str (S [61, 56, 56]) 836), (.str (S [61, 56, 57]) 840), (.str (S [61, 56, 65]) 844), (.str (S [61, 56, 66]) 848), (.str (S [61, 56, 67]) 852), (.str (S [61, 56, 68]) 856), (.str (S [61, 56, 69]) 860), (.str (S [61, 56, 70]) 864), (.str (S [61, 57, 48]) 868), (.str (S [61, 57, 49]) 872), (.str (S [61, 57, 50]) 876), (.str (S [61, 57, 51]) 880), (.str (S [61, 57, 52]) 884), (.str (S [61, 57, 53]) 888), (.str (S [61, 57, 54]) 892), (.str (S [61, 57, 55]) 896), (.str (S [61, 57, 56]) 900), (.str (S [61, 57, 57]) 904), (.str (S [61, 57, 65]) 908), (.str (S [61, 57, 66]) 912), (.str (S [61, 57, 67]) 916), (.str (S [61, 57, 68]) 920), (.str (S [61, 57, 69]) 924), (.str (S [61, 57, 70]) 928), (.str (S [61, 65, 48]) 932), (.str (S [61, 65, 49]) 936), (.str (S [61, 65, 50]) 940), (.str (S [61, 65, 51]) 944), (.str (S [61, 65, 52]) 948), (.str (S [61, 65, 53]) 952), (.str (S [61, 65, 54]) 956), (.str (S [61, 65, 55]) 960), (.str (S [61, 65, 56]) 964), (.str (S [61, 65, 57]) 968), (.str (S [61, 65, 65]) 972), (.str (S [61, 65, 66]) 976), (.str (S [61, 65, 67]) 980), (.str (S [61, 65, 68]) 984), (.str (S [61, 65, 69]) 988), (.str (S [61, 65, 70]) 992), (.str (S [61, 66, 48]) 996), (.str (S [61, 66, 49]) 1000), (.str (S [61, 66, 50]) 1004), (.str (S [61, 66, 51]) 1008), (.str (S [61, 66, 52]) 1012), (.str (S [61, 66, 53]) 1016), (.str (S [61, 66, 54]) 1020), (.str (S [61, 66, 55]) 1024), (.str (S [61, 66, 56]) 1028), (.str (S [61, 66, 57]) 1032), (.str (S [61, 66, 65]) 1036), (.str (S [61, 66, 66]) 1040), (.str (S [61, 66, 67]) 1044), (.str (S [61, 66, 68]) 1048), (.str (S [61, 66, 69]) 1052), (.str (S [61, 66, 70]) 1056), (.str (S [61, 67, 48]) 1060), (.str (S [61, 67, 49]) 1064), (.str (S [61, 67, 50]) 1068), (.str (S [61, 67, 51]) 1072), (.str (S [61, 67, 52]) 1076), (.str (S [61, 67, 53]) 1080), (.str (S [61, 67, 54]) 1084), (.str (S [61, 67, 55]) 1088), (.str (S [61, 67, 56]) 1092), (.str (S [61, 67, 57]) 1096), (.str (S [61, 67, 65]) 1100), (.str (S [61, 67, 66]) 1104), (.str (S [61, 67, 67]) 1108), (.str (S [61, 67, 68]) 1112), (.str (S [61, 67, 69]) 1116), (.str (S [61, 67, 70]) 1120), (.str (S [61, 68, 48]) 1124), (.str (S [61, 68, 49]) 1128), (.str (S [61, 68, 50]) 1132), (.str (S [61, 68, 51]) 1136), (.str (S [61, 68, 52]) 1140), (.str (S [61, 68, 53]) 1144), (.str (S [61, 68, 54]) 1148), (.str (S [61, 68, 55]) 1152), (.str (S [61, 68, 56]) 1156), (.str (S [61, 68, 57]) 1160), (.str (S [61, 68, 65]) 1164), (.str (S [61, 68, 66]) 1168), (.str (S [61, 68, 67]) 1172), (.str (S [61, 68, 68]) 1176), (.str (S [61, 68, 69]) 1180), (.str (S [61, 68, 70]) 1184), (.str (S [61, 69, 48]) 1188), (.str (S [61, 69, 49]) 1192), (.str (S [61, 69, 50]) 1196), (.str (S [61, 69, 51]) 1200), (.str (S [61, 69, 52]) 1204), (.str (S [61, 69, 53]) 1208), (.str (S [61, 69, 54]) 1212), (.str (S [61, 69, 55]) 1216), (.str (S [61, 69, 56]) 1220), (.str (S [61, 69, 57]) 1224), (.str (S [61, 69, 65]) 1228), (.str (S [61, 69, 66]) 1232), (.str (S [61, 69, 67]) 1236), (.str (S [61, 69, 68]) 1240), (.str (S [61, 69, 69]) 1244), (.str (S [61, 69, 70]) 1248), (.str (S [61, 70, 48]) 1252), (.str (S [61, 70, 49]) 1256), (.str (S [61, 70, 50]) 1260), (.str (S [61, 70, 51]) 1264), (.str (S [61, 70, 52]) 1268), (.str (S [61, 70, 53]) 1272), (.str (S [61, 70, 54]) 1276), (.str (S [61, 70, 55]) 1280), (.str (S [61, 70, 56]) 1284), (.str (S [61, 70, 57]) 1288), (.str (S [61, 70, 65]) 1292), (.str (S [61, 70, 66]) 1296), (.str (S [61, 70, 67]) 1300), (.str (S [61, 70, 68]) 1304), (.str (S [61, 70, 69]) 1308), (.str (S [61, 70, 70]) 1312)] 0), #[]⟩
noncomputable def s3_t (p : Params) : BT := (.node (boot_o_0 p) (.node (o1_1 p) (.node (o3_4 p) (.node (boot_o_7 p) (.node (o15_0 p) (.node (o31_0 p) .nil .nil) .nil) (.node (o23_0 p) (.node (o39_0 p) .nil .nil) .nil)) (.node (o11_1 p) (.node (o19_0 p) (.node (o35_0 p) .nil .nil) .nil) (.node (o27_0 p) .nil .nil))) (.node (boot_o_5 p) (.node (boot_o_9 p) (.node (o17_0 p) (.node (o33_0 p) .nil .nil) .nil) (.node (o25_0 p) (.node (o41_0 p) .nil .nil) .nil)) (.node (o13_0 p) (.node (o21_0 p) (.node (o37_0 p) .nil .nil) .nil) (.node (o29_0 p) .nil .nil)))) (.node (o2_1 p) (.node (boot_o_4 p) (.node (boot_o_8 p) (.node (o16_0 p) (.node (o32_0 p) .nil .nil) .nil) (.node (o24_0 p) (.node (o40_0 p) .nil .nil) .nil)) (.node (o12_0 p) (.node (o20_0 p) (.node (o36_0 p) .nil .nil) .nil) (.node (o28_0 p) .nil .nil))) (.node (boot_o_6 p) (.node (boot_o_10 p) (.node (o18_0 p) (.node (o34_0 p) .nil .nil) .nil) (.node (o26_0 p) .nil .nil)) (.node (o14_0 p) (.node (o22_0 p) (.node (o38_0 p) .nil .nil) .nil) (.node (o30_0 p) .nil .nil)))))
noncomputable def s3_ (w : World) (os : OsState) : SharedT := ⟨s3_t w.params, 42, { known := 0 }, ⟨[]⟩, ⟨0, 0, 0, 0⟩, 1331, os⟩
noncomputable def o3_5 (p : Params) : Obj := ⟨(.type "dict"), none, (.dict #[⟨PyData.keyHash p (S [95, 95, 110, 97, 109, 101, 95, 95]), (.str (S [95, 95, 110, 97, 109, 101, 95, 95]) 165), (.str (S [99, 112, 121, 51, 49, 51, 46, 101, 109, 97, 105, 108, 46, 113, 117, 111, 112, 114, 105, 109, 105, 109, 101]) 1329)⟩, ⟨PyData.keyHash p (S [95, 95, 100, 111, 99, 95, 95]), (.str (S [95, 95, 100, 111, 99, 95, 95]) 166), .none⟩, ⟨PyData.keyHash p (S [95, 95, 112, 97, 99, 107, 97, 103, 101, 95, 95]), (.str (S [95, 95, 112, 97, 99, 107, 97, 103, 101, 95, 95]) 167), .none⟩, ⟨PyData.keyHash p (S [95, 95, 108, 111, 97, 100, 101, 114, 95, 95]), (.str (S [95, 95, 108, 111, 97, 100, 101, 114, 95, 95]) 168), (.builtin "__main__.__loader__#opaque")⟩, ⟨PyData.keyHash p (S [95, 95, 115, 112, 101, 99, 95, 95]), (.str (S [95, 95, 115, 112, 101, 99, 95, 95]) 169), .none⟩, ⟨PyData.keyHash p (S [95, 95, 97, 110, 110, 111, 116, 97, 116, 105, 111, 110, 115, 95, 95]), (.str (S [95, 95, 97, 110, 110, 111, 116, 97, 116, 105, 111, 110, 115, 95, 95]) 170), (.ref 6)⟩, ⟨PyData.keyHash p (S [95, 95, 98, 117, 105, 108, 116, 105, 110, 115, 95, 95]), (.str (S [95, 95, 98, 117, 105, 108, 116, 105, 110, 115, 95, 95]) 171), (.ref 4)⟩, ⟨PyData.keyHash p (S [95, 95, 102, 105, 108, 101, 95, 95]), (.str (S [95, 95, 102, 105, 108, 101, 95, 95]) 173), (.str (S [47, 99, 108, 97, 105, 109, 47, 99, 117, 116, 46, 112, 121]) 172)⟩, ⟨PyData.keyHash p (S [95, 95, 99, 97, 99, 104, 101, 100, 95, 95]), (.str (S [95, 95, 99, 97, 99, 104, 101, 100, 95, 95]) 174), .none⟩, ⟨PyData.keyHash p (S [95, 115, 114, 101]), (.str (S [95, 115, 114, 101]) 275), (.ref 12)⟩, ⟨PyData.keyHash p (S [67, 82, 76, 70]), (.str (S [67, 82, 76, 70]) 283), (.str (S [13, 10]) 282)⟩, ⟨PyData.keyHash p (S [78, 76]), (.str (S [78, 76]) 285), (.str (S [10]) 284)⟩, ⟨PyData.keyHash p (S [95, 81, 85, 79, 80, 82, 73, 95, 77, 65, 80]), (.str (S [95, 81, 85, 79, 80, 82, 73, 95, 77, 65, 80]) 1313), (.ref 34)⟩, ⟨PyData.keyHash p (S [95, 81, 85, 79, 80, 82, 73, 95, 72, 69, 65, 68, 69, 82, 95, 77, 65, 80]), (.str (S [95, 81, 85, 79, 80, 82, 73, 95, 72, 69, 65, 68, 69, 82, 95, 77, 65, 80]) 1314), (.ref 39)⟩, ⟨PyData.keyHash p (S [95, 81, 85, 79, 80, 82, 73, 95, 66, 79, 68, 89, 95, 77, 65, 80]), (.str (S [95, 81, 85, 79, 80, 82, 73, 95, 66, 79, 68, 89, 95, 77, 65, 80]) 1315), (.ref 41)⟩, ⟨PyData.keyHash p (S [97, 115, 99, 105, 105, 95, 108, 111, 119, 101, 114, 99, 97, 115, 101]), (.str (S [97, 115, 99, 105, 105, 95, 108, 111, 119, 101, 114, 99, 97, 115, 101]) 1317), (.str (S [97, 98, 99, 100, 101, 102, 103, 104, 105, 106, 107, 108, 109, 110, 111, 112, 113, 114, 115, 116, 117, 118, 119, 120, 121, 122]) 1316)⟩, ⟨PyData.keyHash p (S [97, 115, 99, 105, 105, 95, 117, 112, 112, 101, 114, 99, 97, 115, 101]), (.str (S [97, 115, 99, 105, 105, 95, 117, 112, 112, 101, 114, 99, 97, 115, 101]) 1319), (.str (S [65, 66, 67, 68, 69, 70, 71, 72, 73, 74, 75, 76, 77, 78, 79, 80, 81, 82, 83, 84, 85, 86, 87, 88, 89, 90]) 1318)⟩, ⟨PyData.keyHash p (S [97, 115, 99, 105, 105, 95, 108, 101, 116, 116, 101, 114, 115]), (.str (S [97, 115, 99, 105, 105, 95, 108, 101, 116, 116, 101, 114, 115]) 1321), (.str (S [97, 98, 99, 100, 101, 102, 103, 104, 105, 106, 107, 108, 109, 110, 111, 112, 113, 114, 115, 116, 117, 118, 119, 120, 121, 122, 65, 66, 67, 68, 69, 70, 71, 72, 73, 74, 75, 76, 77, 78, 79, 80, 81, 82, 83, 84, 85, 86, 87, 88, 89, 90]) 1320)⟩, ⟨PyData.keyHash p (S [100, 105, 103, 105, 116, 115]), (.str (S [100, 105, 103, 105, 116, 115]) 1323), (.str (S [48, 49, 50, 51, 52, 53, 54, 55, 56, 57]) 1322)⟩, ⟨PyData.keyHash p (S [104, 101, 120, 100, 105, 103, 105, 116, 115]), (.str (S [104, 101, 120, 100, 105, 103, 105, 116, 115]) 1328), (.str (S [48, 49, 50, 51, 52, 53, 54, 55, 56, 57, 97, 98, 99, 100, 101, 102, 65, 66, 67, 68, 69, 70]) 1327)⟩, ⟨PyData.keyHash p (S [99]), (.str (S [99]) 1339), (.int 57 1536)⟩] 21), #[]⟩
noncomputable def o39_1 (p : Params) : Obj := ⟨(.type "list"), none, (.seq #[(.str (S [61, 48, 48]) 292), (.str (S [61, 48, 49]) 296), (.str (S [61, 48, 50]) 300), (.str (S [61, 48, 51]) 304), (.str (S [61, 48, 52]) 308), (.str (S [61, 48, 53]) 312), (.str (S [61, 48, 54]) 316), (.str (S [61, 48, 55]) 320), (.str (S [61, 48, 56]) 324), (.str (S [61, 48, 57]) 328), (.str (S [61, 48, 65]) 332), (.str (S [61, 48, 66]) 336), (.str (S [61, 48, 67]) 340), (.str (S [61, 48, 68]) 344), (.str (S [61, 48, 69]) 348), (.str (S [61, 48, 70]) 352), (.str (S [61, 49, 48]) 356), (.str (S [61, 49, 49]) 360), (.str (S [61, 49, 50]) 364), (.str (S [61, 49, 51]) 368), (.str (S [61, 49, 52]) 372), (.str (S [61, 49, 53]) 376), (.str (S [61, 49, 54]) 380), (.str (S [61, 49, 55]) 384), (.str (S [61, 49, 56]) 388), (.str (S [61, 49, 57]) 392), (.str (S [61, 49, 65]) 396), (.str (S [61, 49, 66]) 400), (.str (S [61, 49, 67]) 404), (.str (S [61, 49, 68]) 408), (.str (S [61, 49, 69]) 412), (.str (S [61, 49, 70]) 416), (.str (S [61, 50, 48]) 420), (.str (S [33]) 1343), (.str (S [61, 50, 50]) 428), (.str (S [61, 50, 51]) 432), (.str (S [61, 50, 52]) 436), (.str (S [61, 50, 53]) 440), (.str (S [61, 50, 54]) 444), (.str (S [61, 50, 55]) 448), (.str (S [61, 50, 56]) 452), (.str (S [61, 50, 57]) 456), (.str (S [42]) 1346), (.str (S [43]) 1349), (.str (S [61, 50, 67]) 468), (.str (S [45]) 1340), (.str (S [61, 50, 69]) 476), (.str (S [47]) 1352), (.str (S [48]) 1511), (.str (S [49]) 1514), (.str (S [50]) 1517), (.str (S [51]) 1520), (.str (S [52]) 1523), (.str (S [53]) 1526), (.str (S [54]) 1529), (.str (S [55]) 1532), (.str (S [56]) 1535), (.str (S [57]) 1538), (.str (S [61, 51, 65]) 524), (.str (S [61, 51, 66]) 528), (.str (S [61, 51, 67]) 532), (.str (S [61, 51, 68]) 536), (.str (S [61, 51, 69]) 540), (.str (S [61, 51, 70]) 544), (.str (S [61, 52, 48]) 548), (.str (S [65]) 1433), (.str (S [66]) 1436), (.str (S [67]) 1439), (.str (S [68]) 1442), (.str (S [69]) 1445), (.str (S [70]) 1448), (.str (S [71]) 1451), (.str (S [72]) 1454), (.str (S [73]) 1457), (.str (S [74]) 1460), (.str (S [75]) 1463), (.str (S [76]) 1466), (.str (S [77]) 1469), (.str (S [78]) 1472), (.str (S [79]) 1475), (.str (S [80]) 1478), (.str (S [81]) 1481), (.str (S [82]) 1484), (.str (S [83]) 1487), (.str (S [84]) 1490), (.str (S [85]) 1493), (.str (S [86]) 1496), (.str (S [87]) 1499), (.str (S [88]) 1502), (.str (S [89]) 1505), (.str (S [90]) 1508), (.str (S [61, 53, 66]) 656), (.str (S [61, 53, 67]) 660), (.str (S [61, 53, 68]) 664), (.str (S [61, 53, 69]) 668), (.str (S [61, 53, 70]) 672), (.str (S [61, 54, 48]) 676), (.str (S [97]) 1355), (.str (S [98]) 1358), (.str (S [99]) 1361), (.str (S [100]) 1364), (.str (S [101]) 1367), (.str (S [102]) 1370), (.str (S [103]) 1373), (.str (S [104]) 1376), (.str (S [105]) 1379), (.str (S [106]) 1382), (.str (S [107]) 1385), (.str (S [108]) 1388), (.str (S [109]) 1391), (.str (S [110]) 1394), (.str (S [111]) 1397), (.str (S [112]) 1400), (.str (S [113]) 1403), (.str (S [114]) 1406), (.str (S [115]) 1409), (.str (S [116]) 1412), (.str (S [117]) 1415), (.str (S [118]) 1418), (.str (S [119]) 1421), (.str (S [120]) 1424), (.str (S [121]) 1427), (.str (S [122]) 1430), (.str (S [61, 55, 66]) 784), (.str (S [61, 55, 67]) 788), (.str (S [61, 55, 68]) 792), (.str (S [61, 55, 69]) 796), (.str (S [61, 55, 70]) 800), (.str (S [61, 56, 48]) 804), (.str (S [61, 56, 49]) 808), (.str (S [61, 56, 50]) 812), (.str (S [61, 56, 51]) 816), (.str (S [61, 56, 52]) 820), (.str (S [61, 56, 53]) 824), (.str (S [61, 56, 54]) 828), (.str (S [61, 56, 55]) 832), (.str (S [61, 56, 56]) 836), (.str (S [61, 56, 57]) 840), (.str (S [61, 56, 65]) 844), (.str (S [61, 56, 66]) 848), (.str (S [61, 56, 67]) 852), (.str (S [61, 56, 68]) 856), (.str (S [61, 56, 69]) 860), (.str (S [61, 56, 70]) 864), (.str (S [61, 57, 48]) 868), (.str (S [61, 57, 49]) 872), (.str (S [61, 57, 50]) 876), (.str (S [61, 57, 51]) 880), (.str (S [61, 57, 52]) 884), (.str (S [61, 57, 53]) 888), (.str (S [61, 57, 54]) 892), (.str (S [61, 57, 55]) 896), (.str (S [61, 57, 56]) 900), (.str (S [61, 57, 57]) 904), (.str (S [61, 57, 65]) 908), (.str (S [61, 57, 66]) 912), (.str (S [61, 57, 67]) 916), (.str (S [61, 57, 68]) 920), (.str (S [61, 57, 69]) 924), (.str (S [61, 57, 70]) 928), (.str (S [61, 65, 48]) 932), (.str (S [61, 65, 49]) 936), (.str (S [61, 65, 50]) 940), (.str (S [61, 65, 51]) 944), (.str (S [61, 65, 52]) 948), (.str (S [61, 65, 53]) 952), (.str (S [61, 65, 54]) 956), (.str (S [61, 65, 55]) 960), (.str (S [61, 65, 56]) 964), (.str (S [61, 65, 57]) 968), (.str (S [61, 65, 65]) 972), (.str (S [61, 65, 66]) 976), (.str (S [61, 65, 67]) 980), (.str (S [61, 65, 68]) 984), (.str (S [61, 65, 69]) 988), (.str (S [61, 65, 70]) 992), (.str (S [61, 66, 48]) 996), (.str (S [61, 66, 49]) 1000), (.str (S [61, 66, 50]) 1004), (.str (S [61, 66, 51]) 1008), (.str (S [61, 66, 52]) 1012), (.str (S [61, 66, 53]) 1016), (.str (S [61, 66, 54]) 1020), (.str (S [61, 66, 55]) 1024), (.str (S [61, 66, 56]) 1028), (.str (S [61, 66, 57]) 1032), (.str (S [61, 66, 65]) 1036), (.str (S [61, 66, 66]) 1040), (.str (S [61, 66, 67]) 1044), (.str (S [61, 66, 68]) 1048), (.str (S [61, 66, 69]) 1052), (.str (S [61, 66, 70]) 1056), (.str (S [61, 67, 48]) 1060), (.str (S [61, 67, 49]) 1064), (.str (S [61, 67, 50]) 1068), (.str (S [61, 67, 51]) 1072), (.str (S [61, 67, 52]) 1076), (.str (S [61, 67, 53]) 1080), (.str (S [61, 67, 54]) 1084), (.str (S [61, 67, 55]) 1088), (.str (S [61, 67, 56]) 1092), (.str (S [61, 67, 57]) 1096), (.str (S [61, 67, 65]) 1100), (.str (S [61, 67, 66]) 1104), (.str (S [61, 67, 67]) 1108), (.str (S [61, 67, 68]) 1112), (.str (S [61, 67, 69]) 1116), (.str (S [61, 67, 70]) 1120), (.str (S [61, 68, 48]) 1124), (.str (S [61, 68, 49]) 1128), (.str (S [61, 68, 50]) 1132), (.str (S [61, 68, 51]) 1136), (.str (S [61, 68, 52]) 1140), (.str (S [61, 68, 53]) 1144), (.str (S [61, 68, 54]) 1148), (.str (S [61, 68, 55]) 1152), (.str (S [61, 68, 56]) 1156), (.str (S [61, 68, 57]) 1160), (.str (S [61, 68, 65]) 1164), (.str (S [61, 68, 66]) 1168), (.str (S [61, 68, 67]) 1172), (.str (S [61, 68, 68]) 1176), (.str (S [61, 68, 69]) 1180), (.str (S [61, 68, 70]) 1184), (.str (S [61, 69, 48]) 1188), (.str (S [61, 69, 49]) 1192), (.str (S [61, 69, 50]) 1196), (.str (S [61, 69, 51]) 1200), (.str (S [61, 69, 52]) 1204), (.str (S [61, 69, 53]) 1208), (.str (S [61, 69, 54]) 1212), (.str (S [61, 69, 55]) 1216), (.str (S [61, 69, 56]) 1220), (.str (S [61, 69, 57]) 1224), (.str (S [61, 69, 65]) 1228), (.str (S [61, 69, 66]) 1232), (.str (S [61, 69, 67]) 1236), (.str (S [61, 69, 68]) 1240), (.str (S [61, 69, 69]) 1244), (.str (S [61, 69, 70]) 1248), (.str (S [61, 70, 48]) 1252), (.str (S [61, 70, 49]) 1256), (.str (S [61, 70, 50]) 1260), (.str (S [61, 70, 51]) 1264), (.str (S [61, 70, 52]) 1268), (.str (S [61, 70, 53]) 1272), (.str (S [61, 70, 54]) 1276), (.str (S [61, 70, 55]) 1280), (.str (S [61, 70, 56]) 1284), (.str (S [61, 70, 57]) 1288), (.str (S [61, 70, 65]) 1292), (.str (S [61, 70, 66]) 1296), (.str (S [61, 70, 67]) 1300), (.str (S [61, 70, 68]) 1304), (.str (S [61, 70, 69]) 1308), (.str (S [61, 70, 70]) 1312)] 0), #[]⟩
noncomputable def o42_0 (p : Params) : Obj := ⟨(.type "bytes_iterator"), none, (.fields #[.none, (.int 67 0)]), #[]⟩
noncomputable def o43_0 (p : Params) : Obj := ⟨(.type "tuple"), none, (.seq #[] 0), #[]⟩
noncomputable def o44_0 (p : Params) : Obj := ⟨(.type "StopIteration"), none, (.fields #[(.ref 43), .none, .none, .none, (.bool false), .none]), #[]⟩
noncomputable def s4_t (p : Params) : BT := (.node (boot_o_0 p) (.node (o1_1 p) (.node (o3_5 p) (.node (boot_o_7 p) (.node (o15_0 p) (.node (o31_0 p) .nil .nil) .nil) (.node (o23_0 p) (.node (o39_1 p) .nil .nil) .nil)) (.node (o11_1 p) (.node (o19_0 p) (.node (o35_0 p) .nil .nil) .nil) (.node (o27_0 p) (.node (o43_0 p) .nil .nil) .nil))) (.node (boot_o_5 p) (.node (boot_o_9 p) (.node (o17_0 p) (.node (o33_0 p) .nil .nil) .nil) (.node (o25_0 p) (.node (o41_0 p) .nil .nil) .nil)) (.node (o13_0 p) (.node (o21_0 p) (.node (o37_0 p) .nil .nil) .nil) (.node (o29_0 p) .nil .nil)))) (.node (o2_1 p) (.node (boot_o_4 p) (.node (boot_o_8 p) (.node (o16_0 p) (.node (o32_0 p) .nil .nil) .nil) (.node (o24_0 p) (.node (o40_0 p) .nil .nil) .nil)) (.node (o12_0 p) (.node (o20_0 p) (.node (o36_0 p) .nil .nil) .nil) (.node (o28_0 p) (.node (o44_0 p) .nil .nil) .nil))) (.node (boot_o_6 p) (.node (boot_o_10 p) (.node (o18_0 p) (.node (o34_0 p) .nil .nil) .nil) (.node (o26_0 p) (.node (o42_0 p) .nil .nil) .nil)) (.node (o14_0 p) (.node (o22_0 p) (.node (o38_0 p) .nil .nil) .nil) (.node (o30_0 p) .nil .nil)))))
noncomputable def s4_ (w : World) (os : OsState) : SharedT := ⟨s4_t w.params, 45, { known := 0 }, ⟨[]⟩, ⟨0, 0, 0, 0⟩, 1539, os⟩
noncomputable def o39_2 (p : Params) : Obj := ⟨(.type "list"), none, (.seq #[(.str (S [61, 48, 48]) 292), (.str (S [61, 48, 49]) 296), (.str (S [61, 48, 50]) 300), (.str (S [61, 48, 51]) 304), (.str (S [61, 48, 52]) 308), (.str (S [61, 48, 53]) 312), (.str (S [61, 48, 54]) 316), (.str (S [61, 48, 55]) 320), (.str (S [61, 48, 56]) 324), (.str (S [61, 48, 57]) 328), (.str (S [61, 48, 65]) 332), (.str (S [61, 48, 66]) 336), (.str (S [61, 48, 67]) 340), (.str (S [61, 48, 68]) 344), (.str (S [61, 48, 69]) 348), (.str (S [61, 48, 70]) 352), (.str (S [61, 49, 48]) 356), (.str (S [61, 49, 49]) 360), (.str (S [61, 49, 50]) 364), (.str (S [61, 49, 51]) 368), (.str (S [61, 49, 52]) 372), (.str (S [61, 49, 53]) 376), (.str (S [61, 49, 54]) 380), (.str (S [61, 49, 55]) 384), (.str (S [61, 49, 56]) 388), (.str (S [61, 49, 57]) 392), (.str (S [61, 49, 65]) 396), (.str (S [61, 49, 66]) 400), (.str (S [61, 49, 67]) 404), (.str (S [61, 49, 68]) 408), (.str (S [61, 49, 69]) 412), (.str (S [61, 49, 70]) 416), (.str (S [95]) 1539), (.str (S [33]) 1343), (.str (S [61, 50, 50]) 428), (.str (S [61, 50, 51]) 432), (.str (S [61, 50, 52]) 436), (.str (S [61, 50, 53]) 440), (.str (S [61, 50, 54]) 444), (.str (S [61, 50, 55]) 448), (.str (S [61, 50, 56]) 452), (.str (S [61, 50, 57]) 456), (.str (S [42]) 1346), (.str (S [43]) 1349), (.str (S [61, 50, 67]) 468), (.str (S [45]) 1340), (.str (S [61, 50, 69]) 476), (.str (S [47]) 1352), (.str (S [48]) 1511), (.str (S [49]) 1514), (.str (S [50]) 1517), (.str (S [51]) 1520), (.str (S [52]) 1523), (.str (S [53]) 1526), (.str (S [54]) 1529), (.str (S [55]) 1532), (.str (S [56]) 1535), (.str (S [57]) 1538), (.str (S [61, 51, 65]) 524), (.str (S [61, 51, 66]) 528), (.str (S [61, 51, 67]) 532), (.str (S [61, 51, 68]) 536), (.str (S [61, 51, 69]) 540), (.str (S [61, 51, 70]) 544), (.str (S [61, 52, 48]) 548), (.str (S [65]) 1433), (.str (S [66]) 1436), (.str (S [67]) 1439), (.str (S [68]) 1442), (.str (S [69]) 1445), (.str (S [70]) 1448), (.str (S [71]) 1451), (.str (S [72]) 1454), (.str (S [73]) 1457), (.str (S [74]) 1460), (.str (S [75]) 1463), (.str (S [76]) 1466), (.str (S [77]) 1469), (.str (S [78]) 1472), (.str (S [79]) 1475), (.str (S [80]) 1478), (.str (S [81]) 1481), (.str (S [82]) 1484), (.str (S [83]) 1487), (.str (S [84]) 1490), (.str (S [85]) 1493), (.str (S [86]) 1496), (.str (S [87]) 1499), (.str (S [88]) 1502), (.str (S [89]) 1505), (.str (S [90]) 1508), (.str (S [61, 53, 66]) 656), (.str (S [61, 53, 67]) 660), (.str (S [61, 53, 68]) 664), (.str (S [61, 53, 69]) 668), (.str (S [61, 53, 70]) 672), (.str (S [61, 54, 48]) 676), (.str (S [97]) 1355), (.str (S [98]) 1358), (.str (S [99]) 1361), (.str (S [100]) 1364), (.str (S [101]) 1367), (.str (S [102]) 1370), (.str (S [103]) 1373), (.str (S [104]) 1376), (.str (S [105]) 1379), (.str (S [106]) 1382), (.str (S [107]) 1385), (.str (S [108]) 1388), (.str (S [109]) 1391), (.str (S [110]) 1394), (.str (S [111]) 1397), (.str (S [112]) 1400), (.str (S [113]) 1403), (.str (S [114]) 1406), (.str (S [115]) 1409), (.str (S [116]) 1412), (.str (S [117]) 1415), (.str (S [118]) 1418), (.str (S [119]) 1421), (.str (S [120]) 1424), (.str (S [121]) 1427), (.str (S [122]) 1430), (.str (S [61, 55, 66]) 784), (.str (S [61, 55, 67]) 788), (.str (S [61, 55, 68]) 792), (.str (S [61, 55, 69]) 796), (.str (S [61, 55, 70]) 800), (.str (S [61, 56, 48]) 804), (.str (S [61, 56, 49]) 808), (.str (S [61, 56, 50]) 812), (.str (S [61, 56, 51]) 816), (.str (S [61, 56, 52]) 820), (.str (S [61, 56, 53]) 824), (.str (S [61, 56, 54]) 828), (.str (S [61, 56, 55]) 832), (.str (S [61, 56, 56]) 836), (.str (S [61, 56, 57]) 840), (.str (S [61, 56, 65]) 844), (.str (S [61, 56, 66]) 848), (.str (S [61, 56, 67]) 852), (.str (S [61, 56, 68]) 856), (.str (S [61, 56, 69]) 860), (.str (S [61, 56, 70]) 864), (.str (S [61, 57, 48]) 868), (.str (S [61, 57, 49]) 872), (.str (S [61, 57, 50]) 876), (.str (S [61, 57, 51]) 880), (.str (S [61, 57, 52]) 884), (.str (S [61, 57, 53]) 888), (.str (S [61, 57, 54]) 892), (.str (S [61, 57, 55]) 896), (.str (S [61, 57, 56]) 900), (.str (S [61, 57, 57]) 904), (.str (S [61, 57, 65]) 908), (.str (S [61, 57, 66]) 912), (.str (S [61, 57, 67]) 916), (.str (S [61, 57, 68]) 920), (.str (S [61, 57, 69]) 924), (.str (S [61, 57, 70]) 928), (.str (S [61, 65, 48]) 932), (.str (S [61, 65, 49]) 936), (.str (S [61, 65, 50]) 940), (.str (S [61, 65, 51]) 944), (.str (S [61, 65, 52]) 948), (.str (S [61, 65, 53]) 952), (.str (S [61, 65, 54]) 956), (.str (S [61, 65, 55]) 960), (.str (S [61, 65, 56]) 964), (.str (S [61, 65, 57]) 968), (.str (S [61, 65, 65]) 972), (.str (S [61, 65, 66]) 976), (.str (S [61, 65, 67]) 980), (.str (S [61, 65, 68]) 984), (.str (S [61, 65, 69]) 988), (.str (S [61, 65, 70]) 992), (.str (S [61, 66, 48]) 996), (.str (S [61, 66, 49]) 1000), (.str (S [61, 66, 50]) 1004), (.str (S [61, 66, 51]) 1008), (.str (S [61, 66, 52]) 1012), (.str (S [61, 66, 53]) 1016), (.str (S [61, 66, 54]) 1020), (.str (S [61, 66, 55]) 1024), (.str (S [61, 66, 56]) 1028), (.str (S [61, 66, 57]) 1032), (.str (S [61, 66, 65]) 1036), (.str (S [61, 66, 66]) 1040), (.str (S [61, 66, 67]) 1044), (.str (S [61, 66, 68]) 1048), (.str (S [61, 66, 69]) 1052), (.str (S [61, 66, 70]) 1056), (.str (S [61, 67, 48]) 1060), (.str (S [61, 67, 49]) 1064), (.str (S [61, 67, 50]) 1068), (.str (S [61, 67, 51]) 1072), (.str (S [61, 67, 52]) 1076), (.str (S [61, 67, 53]) 1080), (.str (S [61, 67, 54]) 1084), (.str (S [61, 67, 55]) 1088), (.str (S [61, 67, 56]) 1092), (.str (S [61, 67, 57]) 1096), (.str (S [61, 67, 65]) 1100), (.str (S [61, 67, 66]) 1104), (.str (S [61, 67, 67]) 1108), (.str (S [61, 67, 68]) 1112), (.str (S [61, 67, 69]) 1116), (.str (S [61, 67, 70]) 1120), (.str (S [61, 68, 48]) 1124), (.str (S [61, 68, 49]) 1128), (.str (S [61, 68, 50]) 1132), (.str (S [61, 68, 51]) 1136), (.str (S [61, 68, 52]) 1140), (.str (S [61, 68, 53]) 1144), (.str (S [61, 68, 54]) 1148), (.str (S [61, 68, 55]) 1152), (.str (S [61, 68, 56]) 1156), (.str (S [61, 68, 57]) 1160), (.str (S [61, 68, 65]) 1164), (.str (S [61, 68, 66]) 1168), (.str (S [61, 68, 67]) 1172), (.str (S [61, 68, 68]) 1176), (.str (S [61, 68, 69]) 1180), (.str (S [61, 68, 70]) 1184), (.str (S [61, 69, 48]) 1188), (.str (S [61, 69, 49]) 1192), (.str (S [61, 69, 50]) 1196), (.str (S [61, 69, 51]) 1200), (.str (S [61, 69, 52]) 1204), (.str (S [61, 69, 53]) 1208), (.str (S [61, 69, 54]) 1212), (.str (S [61, 69, 55]) 1216), (.str (S [61, 69, 56]) 1220), (.str (S [61, 69, 57]) 1224), (.str (S [61, 69, 65]) 1228), (.str (S [61, 69, 66]) 1232), (.str (S [61, 69, 67]) 1236), (.str (S [61, 69, 68]) 1240), (.str (S [61, 69, 69]) 1244), (.str (S [61, 69, 70]) 1248), (.str (S [61, 70, 48]) 1252), (.str (S [61, 70, 49]) 1256), (.str (S [61, 70, 50]) 1260), (.str (S [61, 70, 51]) 1264), (.str (S [61, 70, 52]) 1268), (.str (S [61, 70, 53]) 1272), (.str (S [61, 70, 54]) 1276), (.str (S [61, 70, 55]) 1280), (.str (S [61, 70, 56]) 1284), (.str (S [61, 70, 57]) 1288), (.str (S [61, 70, 65]) 1292), (.str (S [61, 70, 66]) 1296), (.str (S [61, 70, 67]) 1300), (.str (S [61, 70, 68]) 1304), (.str (S [61, 70, 69]) 1308), (.str (S [61, 70, 70]) 1312)] 0), #[]⟩
noncomputable def s5_t (p : Params) : BT := (.node (boot_o_0 p) (.node (o1_1 p) (.node (o3_5 p) (.node (boot_o_7 p) (.node (o15_0 p) (.node (o31_0 p) .nil .nil) .nil) (.node (o23_0 p) (.node (o39_2 p) .nil .nil) .nil)) (.node (o11_1 p) (.node (o19_0 p) (.node (o35_0 p) .nil .nil) .nil) (.node (o27_0 p) (.node (o43_0 p) .nil .nil) .nil))) (.node (boot_o_5 p) (.node (boot_o_9 p) (.node (o17_0 p) (.node (o33_0 p) .nil .nil) .nil) (.node (o25_0 p) (.node (o41_0 p) .nil .nil) .nil)) (.node (o13_0 p) (.node (o21_0 p) (.node (o37_0 p) .nil .nil) .nil) (.node (o29_0 p) .nil .nil)))) (.node (o2_1 p) (.node (boot_o_4 p) (.node (boot_o_8 p) (.node (o16_0 p) (.node (o32_0 p) .nil .nil) .nil) (.node (o24_0 p) (.node (o40_0 p) .nil .nil) .nil)) (.node (o12_0 p) (.node (o20_0 p) (.node (o36_0 p) .nil .nil) .nil) (.node (o28_0 p) (.node (o44_0 p) .nil .nil) .nil))) (.node (boot_o_6 p) (.node (boot_o_10 p) (.node (o18_0 p) (.node (o34_0 p) .nil .nil) .nil) (.node (o26_0 p) (.node (o42_0 p) .nil .nil) .nil)) (.node (o14_0 p) (.node (o22_0 p) (.node (o38_0 p) .nil .nil) .nil) (.node (o30_0 p) .nil .nil)))))
noncomputable def s5_ (w : World) (os : OsState) : SharedT := ⟨s5_t w.params, 45, { known := 0 }, ⟨[]⟩, ⟨0, 0, 0, 0⟩, 1542, os⟩
noncomputable def o3_6 (p : Params) : Obj := ⟨(.type "dict"), none, (.dict #[⟨PyData.keyHash p (S [95, 95, 110, 97, 109, 101, 95, 95]), (.str (S [95, 95, 110, 97, 109, 101, 95, 95]) 165), (.str (S [99, 112, 121, 51, 49, 51, 46, 101, 109, 97, 105, 108, 46, 113, 117, 111, 112, 114, 105, 109, 105, 109, 101]) 1329)⟩, ⟨PyData.keyHash p (S [95, 95, 100, 111, 99, 95, 95]), (.str (S [95, 95, 100, 111, 99, 95, 95]) 166), .none⟩, ⟨PyData.keyHash p (S [95, 95, 112, 97, 99, 107, 97, 103, 101, 95, 95]), (.str (S [95, 95, 112, 97, 99, 107, 97, 103, 101, 95, 95]) 167), .none⟩, ⟨PyData.keyHash p (S [95, 95, 108, 111, 97, 100, 101, 114, 95, 95]), (.str (S [95, 95, 108, 111, 97, 100, 101, 114, 95, 95]) 168), (.builtin "__main__.__loader__#opaque")⟩, ⟨PyData.keyHash p (S [95, 95, 115, 112, 101, 99, 95, 95]), (.str (S [95, 95, 115, 112, 101, 99, 95, 95]) 169), .none⟩, ⟨PyData.keyHash p (S [95, 95, 97, 110, 110, 111, 116, 97, 116, 105, 111, 110, 115, 95, 95]), (.str (S [95, 95, 97, 110, 110, 111, 116, 97, 116, 105, 111, 110, 115, 95, 95]) 170), (.ref 6)⟩, ⟨PyData.keyHash p (S [95, 95, 98, 117, 105, 108, 116, 105, 110, 115, 95, 95]), (.str (S [95, 95, 98, 117, 105, 108, 116, 105, 110, 115, 95, 95]) 171), (.ref 4)⟩, ⟨PyData.keyHash p (S [95, 95, 102, 105, 108, 101, 95, 95]), (.str (S [95, 95, 102, 105, 108, 101, 95, 95]) 173), (.str (S [47, 99, 108, 97, 105, 109, 47, 99, 117, 116, 46, 112, 121]) 172)⟩, ⟨PyData.keyHash p (S [95, 95, 99, 97, 99, 104, 101, 100, 95, 95]), (.str (S [95, 95, 99, 97, 99, 104, 101, 100, 95, 95]) 174), .none⟩, ⟨PyData.keyHash p (S [95, 115, 114, 101]), (.str (S [95, 115, 114, 101]) 275), (.ref 12)⟩, ⟨PyData.keyHash p (S [67, 82, 76, 70]), (.str (S [67, 82, 76, 70]) 283), (.str (S [13, 10]) 282)⟩, ⟨PyData.keyHash p (S [78, 76]), (.str (S [78, 76]) 285), (.str (S [10]) 284)⟩, ⟨PyData.keyHash p (S [95, 81, 85, 79, 80, 82, 73, 95, 77, 65, 80]), (.str (S [95, 81, 85, 79, 80, 82, 73, 95, 77, 65, 80]) 1313), (.ref 34)⟩, ⟨PyData.keyHash p (S [95, 81, 85, 79, 80, 82, 73, 95, 72, 69, 65, 68, 69, 82, 95, 77, 65, 80]), (.str (S [95, 81, 85, 79, 80, 82, 73, 95, 72, 69, 65, 68, 69, 82, 95, 77, 65, 80]) 1314), (.ref 39)⟩, ⟨PyData.keyHash p (S [95, 81, 85, 79, 80, 82, 73, 95, 66, 79, 68, 89, 95, 77, 65, 80]), (.str (S [95, 81, 85, 79, 80, 82, 73, 95, 66, 79, 68, 89, 95, 77, 65, 80]) 1315), (.ref 41)⟩, ⟨PyData.keyHash p (S [97, 115, 99, 105, 105, 95, 108, 111, 119, 101, 114, 99, 97, 115, 101]), (.str (S [97, 115, 99, 105, 105, 95, 108, 111, 119, 101, 114, 99, 97, 115, 101]) 1317), (.str (S [97, 98, 99, 100, 101, 102, 103, 104, 105, 106, 107, 108, 109, 110, 111, 112, 113, 114, 115, 116, 117, 118, 119, 120, 121, 122]) 1316)⟩, ⟨PyData.keyHash p (S [97, 115, 99, 105, 105, 95, 117, 112, 112, 101, 114, 99, 97, 115, 101]), (.str (S [97, 115, 99, 105, 105, 95, 117, 112, 112, 101, 114, 99, 97, 115, 101]) 1319), (.str (S [65, 66, 67, 68, 69, 70, 71, 72, 73, 74, 75, 76, 77, 78, 79, 80, 81, 82, 83, 84, 85, 86, 87, 88, 89, 90]) 1318)⟩, ⟨PyData.keyHash p (S [97, 115, 99, 105, 105, 95, 108, 101, 116, 116, 101, 114, 115]), (.str (S [97, 115, 99, 105, 105, 95, 108, 101, 116, 116, 101, 114, 115]) 1321), (.str (S [97, 98, 99, 100, 101, 102, 103, 104, 105, 106, 107, 108, 109, 110, 111, 112, 113, 114, 115, 116, 117, 118, 119, 120, 121, 122, 65, 66, 67, 68, 69, 70, 71, 72, 73, 74, 75, 76, 77, 78, 79, 80, 81, 82, 83, 84, 85, 86, 87, 88, 89, 90]) 1320)⟩, ⟨PyData.keyHash p (S [100, 105, 103, 105, 116, 115]), (.str (S [100, 105, 103, 105, 116, 115]) 1323), (.str (S [48, 49, 50, 51, 52, 53, 54, 55, 56, 57]) 1322)⟩, ⟨PyData.keyHash p (S [104, 101, 120, 100, 105, 103, 105, 116, 115]), (.str (S [104, 101, 120, 100, 105, 103, 105, 116, 115]) 1328), (.str (S [48, 49, 50, 51, 52, 53, 54, 55, 56, 57, 97, 98, 99, 100, 101, 102, 65, 66, 67, 68, 69, 70]) 1327)⟩, ⟨PyData.keyHash p (S [99]), (.str (S [99]) 1339), (.int 9 1825)⟩] 21), #[]⟩
noncomputable def o41_1 (p : Params) : Obj := ⟨(.type "list"), none, (.seq #[(.str (S [61, 48, 48]) 292), (.str (S [61, 48, 49]) 296), (.str (S [61, 48, 50]) 300), (.str (S [61, 48, 51]) 304), (.str (S [61, 48, 52]) 308), (.str (S [61, 48, 53]) 312), (.str (S [61, 48, 54]) 316), (.str (S [61, 48, 55]) 320), (.str (S [61, 48, 56]) 324), (.str (S [9]) 1827), (.str (S [61, 48, 65]) 332), (.str (S [61, 48, 66]) 336), (.str (S [61, 48, 67]) 340), (.str (S [61, 48, 68]) 344), (.str (S [61, 48, 69]) 348), (.str (S [61, 48, 70]) 352), (.str (S [61, 49, 48]) 356), (.str (S [61, 49, 49]) 360), (.str (S [61, 49, 50]) 364), (.str (S [61, 49, 51]) 368), (.str (S [61, 49, 52]) 372), (.str (S [61, 49, 53]) 376), (.str (S [61, 49, 54]) 380), (.str (S [61, 49, 55]) 384), (.str (S [61, 49, 56]) 388), (.str (S [61, 49, 57]) 392), (.str (S [61, 49, 65]) 396), (.str (S [61, 49, 66]) 400), (.str (S [61, 49, 67]) 404), (.str (S [61, 49, 68]) 408), (.str (S [61, 49, 69]) 412), (.str (S [61, 49, 70]) 416), (.str (S [32]) 1545), (.str (S [33]) 1548), (.str (S [34]) 1551), (.str (S [35]) 1554), (.str (S [36]) 1557), (.str (S [37]) 1560), (.str (S [38]) 1563), (.str (S [39]) 1566), (.str (S [40]) 1569), (.str (S [41]) 1572), (.str (S [42]) 1575), (.str (S [43]) 1578), (.str (S [44]) 1581), (.str (S [45]) 1584), (.str (S [46]) 1587), (.str (S [47]) 1590), (.str (S [48]) 1593), (.str (S [49]) 1596), (.str (S [50]) 1599), (.str (S [51]) 1602), (.str (S [52]) 1605), (.str (S [53]) 1608), (.str (S [54]) 1611), (.str (S [55]) 1614), (.str (S [56]) 1617), (.str (S [57]) 1620), (.str (S [58]) 1623), (.str (S [59]) 1626), (.str (S [60]) 1629), (.str (S [61, 51, 68]) 536), (.str (S [62]) 1632), (.str (S [63]) 1635), (.str (S [64]) 1638), (.str (S [65]) 1641), (.str (S [66]) 1644), (.str (S [67]) 1647), (.str (S [68]) 1650), (.str (S [69]) 1653), (.str (S [70]) 1656), (.str (S [71]) 1659), (.str (S [72]) 1662), (.str (S [73]) 1665), (.str (S [74]) 1668), (.str (S [75]) 1671), (.str (S [76]) 1674), (.str (S [77]) 1677), (.str (S [78]) 1680), (.str (S [79]) 1683), (.str (S [80]) 1686), (.str (S [81]) 1689), (.str (S [82]) 1692), (.str (S [83]) 1695), (.str (S [84]) 1698), (.str (S [85]) 1701), (.str (S [86]) 1704), (.str (S [87]) 1707), (.str (S [88]) 1710), (.str (S [89]) 1713), (.str (S [90]) 1716), (.str (S [91]) 1719), (.str (S [92]) 1722), (.str (S [93]) 1725), (.str (S [94]) 1728), (.str (S [95]) 1731), (.str (S [96]) 1734), (.str (S [97]) 1737), (.str (S [98]) 1740), (.str (S [99]) 1743), (.str (S [100]) 1746), (.str (S [101]) 1749), (.str (S [102]) 1752), (.str (S [103]) 1755), (.str (S [104]) 1758), (.str (S [105]) 1761), (.str (S [106]) 1764), (.str (S [107]) 1767), (.str (S [108]) 1770), (.str (S [109]) 1773), (.str (S [110]) 1776), (.str (S [111]) 1779), (.str (S [112]) 1782), (.str (S [113]) 1785), (.str (S [114]) 1788), (.str (S [115]) 1791), (.str (S [116]) 1794), (.str (S [117]) 1797), (.str (S [118]) 1800), (.str (S [119]) 1803), (.str (S [120]) 1806), (.str (S [121]) 1809), (.str (S [122]) 1812), (.str (S [123]) 1815), (.str (S [124]) 1818), (.str (S [125]) 1821), (.str (S [126]) 1824), (.str (S [61, 55, 70]) 800), (.str (S [61, 56, 48]) 804), (.str (S [61, 56, 49]) 808), (.str (S [61, 56, 50]) 812), (.str (S [61, 56, 51]) 816), (.str (S [61, 56, 52]) 820), (.str (S [61, 56, 53]) 824), (.str (S [61, 56, 54]) 828), (.str (S [61, 56, 55]) 832), (.str (S [61, 56, 56]) 836), (.str (S [61, 56, 57]) 840), (.str (S [61, 56, 65]) 844), (.str (S [61, 56, 66]) 848), (.str (S [61, 56, 67]) 852), (.str (S [61, 56, 68]) 856), (.str (S [61, 56, 69]) 860), (.str (S [61, 56, 70]) 864), (.str (S [61, 57, 48]) 868), (.str (S [61, 57, 49]) 872), (.str (S [61, 57, 50]) 876), (.str (S [61, 57, 51]) 880), (.str (S [61, 57, 52]) 884), (.str (S [61, 57, 53]) 888), (.str (S [61, 57, 54]) 892), (.str (S [61, 57, 55]) 896), (.str (S [61, 57, 56]) 900), (.str (S [61, 57, 57]) 904), (.str (S [61, 57, 65]) 908), (.str (S [61, 57, 66]) 912), (.str (S [61, 57, 67]) 916), (.str (S [61, 57, 68]) 920), (.str (S [61, 57, 69]) 924), (.str (S [61, 57, 70]) 928), (.str (S [61, 65, 48]) 932), (.str (S [61, 65, 49]) 936), (.str (S [61, 65, 50]) 940), (.str (S [61, 65, 51]) 944), (.str (S [61, 65, 52]) 948), (.str (S [61, 65, 53]) 952), (.str (S [61, 65, 54]) 956), (.str (S [61, 65, 55]) 960), (.str (S [61, 65, 56]) 964), (.str (S [61, 65, 57]) 968), (.str (S [61, 65, 65]) 972), (.str (S [61, 65, 66]) 976), (.str (S [61, 65, 67]) 980), (.str (S [61, 65, 68]) 984), (.str (S [61, 65, 69]) 988), (.str (S [61, 65, 70]) 992), (.str (S [61, 66, 48]) 996), (.str (S [61, 66, 49]) 1000), (.str (S [61, 66, 50]) 1004), (.str (S [61, 66, 51]) 1008), (.str (S [61, 66, 52]) 1012), (.str (S [61, 66, 53]) 1016), (.str (S [61, 66, 54]) 1020), (.str (S [61, 66, 55]) 1024), (.str (S [61, 66, 56]) 1028), (.str (S [61, 66, 57]) 1032), (.str (S [61, 66, 65]) 1036), (.str (S [61, 66, 66]) 1040), (.str (S [61, 66, 67]) 1044), (.str (S [61, 66, 68]) 1048), (.str (S [61, 66, 69]) 1052), (.str (S [61, 66, 70]) 1056), (.str (S [61, 67, 48]) 1060), (.str (S [61, 67, 49]) 1064), (.str (S [61, 67, 50]) 1068), (.str (S [61, 67, 51]) 1072), (.str (S [61, 67, 52]) 1076), (.str (S [61, 67, 53]) 1080), (.str (S [61, 67, 54]) 1084), (.str (S [61, 67, 55]) 1088), (.str (S [61, 67, 56]) 1092), (.str (S [61, 67, 57]) 1096), (.str (S [61, 67, 65]) 1100), (.str (S [61, 67, 66]) 1104), (.str (S [61, 67, 67]) 1108), (.str (S [61, 67, 68]) 1112), (.str (S [61, 67, 69]) 1116), (.str (S [61, 67, 70]) 1120), (.str (S [61, 68, 48]) 1124), (.str (S [61, 68, 49]) 1128), (.str (S [61, 68, 50]) 1132), (.str (S [61, 68, 51]) 1136), (.str (S [61, 68, 52]) 1140), (.str (S [61, 68, 53]) 1144), (.str (S [61, 68, 54]) 1148), (.str (S [61, 68, 55]) 1152), (.str (S [61, 68, 56]) 1156), (.str (S [61, 68, 57]) 1160), (.str (S [61, 68, 65]) 1164), (.str (S [61, 68, 66]) 1168), (.str (S [61, 68, 67]) 1172), (.str (S [61, 68, 68]) 1176), (.str (S [61, 68, 69]) 1180), (.str (S [61, 68, 70]) 1184), (.str (S [61, 69, 48]) 1188), (.str (S [61, 69, 49]) 1192), (.str (S [61, 69, 50]) 1196), (.str (S [61, 69, 51]) 1200), (.str (S [61, 69, 52]) 1204), (.str (S [61, 69, 53]) 1208), (.str (S [61, 69, 54]) 1212), (.str (S [61, 69, 55]) 1216), (.str (S [61, 69, 56]) 1220), (.str (S [61, 69, 57]) 1224), (.str (S [61, 69, 65]) 1228), (.str (S [61, 69, 66]) 1232), (.str (S [61, 69, 67]) 1236), (.str (S [61, 69, 68]) 1240), (.str (S [61, 69, 69]) 1244), (.str (S [61, 69, 70]) 1248), (.str (S [61, 70, 48]) 1252), (.str (S [61, 70, 49]) 1256), (.str (S [61, 70, 50]) 1260), (.str (S [61, 70, 51]) 1264), (.str (S [61, 70, 52]) 1268), (.str (S [61, 70, 53]) 1272), (.str (S [61, 70, 54]) 1276), (.str (S [61, 70, 55]) 1280), (.str (S [61, 70, 56]) 1284), (.str (S [61, 70, 57]) 1288), (.str (S [61, 70, 65]) 1292), (.str (S [61, 70, 66]) 1296), (.str (S [61, 70, 67]) 1300), (.str (S [61, 70, 68]) 1304), (.str (S [61, 70, 69]) 1308), (.str (S [61, 70, 70]) 1312)] 0), #[]⟩
noncomputable def o45_0 (p : Params) : Obj := ⟨(.type "bytes_iterator"), none, (.fields #[.none, (.int 95 0)]), #[]⟩
noncomputable def o46_0 (p : Params) : Obj := ⟨(.type "tuple"), none, (.seq #[] 0), #[]⟩
noncomputable def o47_0 (p : Params) : Obj := ⟨(.type "StopIteration"), none, (.fields #[(.ref 46), .none, .none, .none, (.bool false), .none]), #[]⟩
noncomputable def s6_t (p : Params) : BT := (.node (boot_o_0 p) (.node (o1_1 p) (.node (o3_6 p) (.node (boot_o_7 p) (.node (o15_0 p) (.node (o31_0 p) .nil .nil) (.node (o47_0 p) .nil .nil)) (.node (o23_0 p) (.node (o39_2 p) .nil .nil) .nil)) (.node (o11_1 p) (.node (o19_0 p) (.node (o35_0 p) .nil .nil) .nil) (.node (o27_0 p) (.node (o43_0 p) .nil .nil) .nil))) (.node (boot_o_5 p) (.node (boot_o_9 p) (.node (o17_0 p) (.node (o33_0 p) .nil .nil) .nil) (.node (o25_0 p) (.node (o41_1 p) .nil .nil) .nil)) (.node (o13_0 p) (.node (o21_0 p) (.node (o37_0 p) .nil .nil) .nil) (.node (o29_0 p) (.node (o45_0 p) .nil .nil) .nil)))) (.node (o2_1 p) (.node (boot_o_4 p) (.node (boot_o_8 p) (.node (o16_0 p) (.node (o32_0 p) .nil .nil) .nil) (.node (o24_0 p) (.node (o40_0 p) .nil .nil) .nil)) (.node (o12_0 p) (.node (o20_0 p) (.node (o36_0 p) .nil .nil) .nil) (.node (o28_0 p) (.node (o44_0 p) .nil .nil) .nil))) (.node (boot_o_6 p) (.node (boot_o_10 p) (.node (o18_0 p) (.node (o34_0 p) .nil .nil) .nil) (.node (o26_0 p) (.node (o42_0 p) .nil .nil) .nil)) (.node (o14_0 p) (.node (o22_0 p) (.node (o38_0 p) .nil .nil) .nil) (.node (o30_0 p) (.node (o46_0 p) .nil .nil) .nil)))))
noncomputable def s6_ (w : World) (os : OsState) : SharedT := ⟨s6_t w.params, 48, { known := 0 }, ⟨[]⟩, ⟨0, 0, 0, 0⟩, 1828, os⟩
noncomputable def o3_7 (p : Params) : Obj := ⟨(.type "dict"), none, (.dict #[⟨PyData.keyHash p (S [95, 95, 110, 97, 109, 101, 95, 95]), (.str (S [95, 95, 110, 97, 109, 101, 95, 95]) 165), (.str (S [99, 112, 121, 51, 49, 51, 46, 101, 109, 97, 105, 108, 46, 113, 117, 111, 112, 114, 105, 109, 105, 109, 101]) 1329)⟩, ⟨PyData.keyHash p (S [95, 95, 100, 111, 99, 95, 95]), (.str (S [95, 95, 100, 111, 99, 95, 95]) 166), .none⟩, ⟨PyData.keyHash p (S [95, 95, 112, 97, 99, 107, 97, 103, 101, 95, 95]), (.str (S [95, 95, 112, 97, 99, 107, 97, 103, 101, 95, 95]) 167), .none⟩, ⟨PyData.keyHash p (S [95, 95, 108, 111, 97, 100, 101, 114, 95, 95]), (.str (S [95, 95, 108, 111, 97, 100, 101, 114, 95, 95]) 168), (.builtin "__main__.__loader__#opaque")⟩, ⟨PyData.keyHash p (S [95, 95, 115, 112, 101, 99, 95, 95]), (.str (S [95, 95, 115, 112, 101, 99, 95, 95]) 169), .none⟩, ⟨PyData.keyHash p (S [95, 95, 97, 110, 110, 111, 116, 97, 116, 105, 111, 110, 115, 95, 95]), (.str (S [95, 95, 97, 110, 110, 111, 116, 97, 116, 105, 111, 110, 115, 95, 95]) 170), (.ref 6)⟩, ⟨PyData.keyHash p (S [95, 95, 98, 117, 105, 108, 116, 105, 110, 115, 95, 95]), (.str (S [95, 95, 98, 117, 105, 108, 116, 105, 110, 115, 95, 95]) 171), (.ref 4)⟩, ⟨PyData.keyHash p (S [95, 95, 102, 105, 108, 101, 95, 95]), (.str (S [95, 95, 102, 105, 108, 101, 95, 95]) 173), (.str (S [47, 99, 108, 97, 105, 109, 47, 99, 117, 116, 46, 112, 121]) 172)⟩, ⟨PyData.keyHash p (S [95, 95, 99, 97, 99, 104, 101, 100, 95, 95]), (.str (S [95, 95, 99, 97, 99, 104, 101, 100, 95, 95]) 174), .none⟩, ⟨PyData.keyHash p (S [95, 115, 114, 101]), (.str (S [95, 115, 114, 101]) 275), (.ref 12)⟩, ⟨PyData.keyHash p (S [67, 82, 76, 70]), (.str (S [67, 82, 76, 70]) 283), (.str (S [13, 10]) 282)⟩, ⟨PyData.keyHash p (S [78, 76]), (.str (S [78, 76]) 285), (.str (S [10]) 284)⟩, ⟨PyData.keyHash p (S [95, 81, 85, 79, 80, 82, 73, 95, 77, 65, 80]), (.str (S [95, 81, 85, 79, 80, 82, 73, 95, 77, 65, 80]) 1313), (.ref 34)⟩, ⟨PyData.keyHash p (S [95, 81, 85, 79, 80, 82, 73, 95, 72, 69, 65, 68, 69, 82, 95, 77, 65, 80]), (.str (S [95, 81, 85, 79, 80, 82, 73, 95, 72, 69, 65, 68, 69, 82, 95, 77, 65, 80]) 1314), (.ref 39)⟩, ⟨PyData.keyHash p (S [95, 81, 85, 79, 80, 82, 73, 95, 66, 79, 68, 89, 95, 77, 65, 80]), (.str (S [95, 81, 85, 79, 80, 82, 73, 95, 66, 79, 68, 89, 95, 77, 65, 80]) 1315), (.ref 41)⟩, ⟨PyData.keyHash p (S [97, 115, 99, 105, 105, 95, 108, 111, 119, 101, 114, 99, 97, 115, 101]), (.str (S [97, 115, 99, 105, 105, 95, 108, 111, 119, 101, 114, 99, 97, 115, 101]) 1317), (.str (S [97, 98, 99, 100, 101, 102, 103, 104, 105, 106, 107, 108, 109, 110, 111, 112, 113, 114, 115, 116, 117, 118, 119, 120, 121, 122]) 1316)⟩, ⟨PyData.keyHash p (S [97, 115, 99, 105, 105, 95, 117, 112, 112, 101, 114, 99, 97, 115, 101]), (.str (S [97, 115, 99, 105, 105, 95, 117, 112, 112, 101, 114, 99, 97, 115, 101]) 1319), (.str (S [65, 66, 67, 68, 69, 70, 71, 72, 73, 74, 75, 76, 77, 78, 79, 80, 81, 82, 83, 84, 85, 86, 87, 88, 89, 90]) 1318)⟩, ⟨PyData.keyHash p (S [97, 115, 99, 105, 105, 95, 108, 101, 116, 116, 101, 114, 115]), (.str (S [97, 115, 99, 105, 105, 95, 108, 101, 116, 116, 101, 114, 115]) 1321), (.str (S [97, 98, 99, 100, 101, 102, 103, 104, 105, 106, 107, 108, 109, 110, 111, 112, 113, 114, 115, 116, 117, 118, 119, 120, 121, 122, 65, 66, 67, 68, 69, 70, 71, 72, 73, 74, 75, 76, 77, 78, 79, 80, 81, 82, 83, 84, 85, 86, 87, 88, 89, 90]) 1320)⟩, ⟨PyData.keyHash p (S [100, 105, 103, 105, 116, 115]), (.str (S [100, 105, 103, 105, 116, 115]) 1323), (.str (S [48, 49, 50, 51, 52, 53, 54, 55, 56, 57]) 1322)⟩, ⟨PyData.keyHash p (S [104, 101, 120, 100, 105, 103, 105, 116, 115]), (.str (S [104, 101, 120, 100, 105, 103, 105, 116, 115]) 1328), (.str (S [48, 49, 50, 51, 52, 53, 54, 55, 56, 57, 97, 98, 99, 100, 101, 102, 65, 66, 67, 68, 69, 70]) 1327)⟩, ⟨PyData.keyHash p (S [99]), (.str (S [99]) 1339), (.int 9 1825)⟩, ⟨PyData.keyHash p (S [117, 110, 113, 117, 111, 116, 101]), (.str (S [117, 110, 113, 117, 111, 116, 101]) 1834), (.ref 54)⟩, ⟨PyData.keyHash p (S [113, 117, 111, 116, 101]), (.str (S [113, 117, 111, 116, 101]) 1841), (.ref 61)⟩, ⟨PyData.keyHash p (S [95, 81, 85, 79, 80, 82, 73, 95, 66, 79, 68, 89, 95, 69, 78, 67, 79, 68, 69, 95, 77, 65, 80]), (.str (S [95, 81, 85, 79, 80, 82, 73, 95, 66, 79, 68, 89, 95, 69, 78, 67, 79, 68, 69, 95, 77, 65, 80]) 1842), (.ref 63)⟩] 24), #[]⟩
noncomputable def o29_1 (p : Params) : Obj := ⟨.none, none, (.fields #[(.int 18 0), (.int 0 0), (.ref 53), (.int 20 0), (.int 0 0), (.ref 60)]), #[]⟩
noncomputable def o48_0 (p : Params) : Obj := ⟨(.type "tuple"), none, (.seq #[] 0), #[]⟩
noncomputable def o49_0 (p : Params) : Obj := ⟨.none, none, (.fields #[]), #[]⟩
noncomputable def o50_0 (p : Params) : Obj := ⟨(.type "tuple"), none, (.seq #[(.str (S [115]) 1831)] 0), #[]⟩
noncomputable def o51_0 (p : Params) : Obj := ⟨(.type "tuple"), none, (.seq #[] 0), #[]⟩
noncomputable def o52_0 (p : Params) : Obj := ⟨.none, none, (.func { name := (S [117, 110, 113, 117, 111, 116, 101]), qualname := (S [117, 110, 113, 117, 111, 116, 101]), params := fA 14, body := .stmts (fB 14), scope := fS 14, globals := 0, closure := [], defaults := .none, kwdefaults := .none, doc := .none, pyModule := .none, annotations := none, code := .none, closureTuple := .none, builtins := 0 }), #[]⟩
noncomputable def o53_0 (p : Params) : Obj := ⟨(.type "code"), none, (.fields #[(.str (S [117, 110, 113, 117, 111, 116, 101]) 1828), (.str (S [117, 110, 113, 117, 111, 116, 101]) 1829), (.str (S [47, 99, 108, 97, 105, 109, 47, 99, 117, 116, 46, 112, 121]) 1830), (.int 18 0), (.int 1 0), (.int 0 0), (.int 0 0), (.int 3 0), (.ref 48), (.bool true), (.int 276 0), (.ref 49), .none, (.ref 50), (.ref 51), (.ref 52), (.int 1832 0), (.int 18 0), (.str (S [47, 99, 108, 97, 105, 109, 47, 99, 117, 116, 46, 112, 121]) 1833)]), #[]⟩
noncomputable def o54_0 (p : Params) : Obj := ⟨(.type "function"), none, (.func { name := (S [117, 110, 113, 117, 111, 116, 101]), qualname := (S [117, 110, 113, 117, 111, 116, 101]), params := fA 14, body := .stmts (fB 14), scope := fS 14, globals := 3, closure := [], defaults := .none, kwdefaults := .none, doc := .none, pyModule := (.str (S [99, 112, 121, 51, 49, 51, 46, 101, 109, 97, 105, 108, 46, 113, 117, 111, 112, 114, 105, 109, 105, 109, 101]) 1329), annotations := none, code := (.ref 53), closureTuple := .none, builtins := 0 }), #[]⟩
noncomputable def o55_0 (p : Params) : Obj := ⟨(.type "tuple"), none, (.seq #[] 0), #[]⟩
noncomputable def o56_0 (p : Params) : Obj := ⟨.none, none, (.fields #[]), #[]⟩
noncomputable def o57_0 (p : Params) : Obj := ⟨(.type "tuple"), none, (.seq #[(.str (S [99]) 1838)] 0), #[]⟩
noncomputable def o58_0 (p : Params) : Obj := ⟨(.type "tuple"), none, (.seq #[] 0), #[]⟩
noncomputable def o59_0 (p : Params) : Obj := ⟨.none, none, (.func { name := (S [113, 117, 111, 116, 101]), qualname := (S [113, 117, 111, 116, 101]), params := fA 15, body := .stmts (fB 15), scope := fS 15, globals := 0, closure := [], defaults := .none, kwdefaults := .none, doc := .none, pyModule := .none, annotations := none, code := .none, closureTuple := .none, builtins := 0 }), #[]⟩
noncomputable def o60_0 (p : Params) : Obj := ⟨(.type "code"), none, (.fields #[(.str (S [113, 117, 111, 116, 101]) 1835), (.str (S [113, 117, 111, 116, 101]) 1836), (.str (S [47, 99, 108, 97, 105, 109, 47, 99, 117, 116, 46, 112, 121]) 1837), (.int 20 0), (.int 1 0), (.int 0 0), (.int 0 0), (.int 3 0), (.ref 55), (.bool true), (.int 276 0), (.ref 56), .none, (.ref 57), (.ref 58), (.ref 59), (.int 1839 0), (.int 20 0), (.str (S [47, 99, 108, 97, 105, 109, 47, 99, 117, 116, 46, 112, 121]) 1840)]), #[]⟩
noncomputable def o61_0 (p : Params) : Obj := ⟨(.type "function"), none, (.func { name := (S [113, 117, 111, 116, 101]), qualname := (S [113, 117, 111, 116, 101]), params := fA 15, body := .stmts (fB 15), scope := fS 15, globals := 3, closure := [], defaults := .none, kwdefaults := .none, doc := .none, pyModule := (.str (S [99, 112, 121, 51, 49, 51, 46, 101, 109, 97, 105, 108, 46, 113, 117, 111, 112, 114, 105, 109, 105, 109, 101]) 1329), annotations := none, code := (.ref 60), closureTuple := .none, builtins := 0 }), #[]⟩
noncomputable def o62_0 (p : Params) : Obj := ⟨(.type "slice"), none, (.fields #[.none, .none, .none]), #[]⟩
noncomputable def o63_0 (p : Params) : Obj := ⟨(.type "list"), none, (.seq #[(.str (S [61, 48, 48]) 292), (.str (S [61, 48, 49]) 296), (.str (S [61, 48, 50]) 300), (.str (S [61, 48, 51]) 304), (.str (S [61, 48, 52]) 308), (.str (S [61, 48, 53]) 312), (.str (S [61, 48, 54]) 316), (.str (S [61, 48, 55]) 320), (.str (S [61, 48, 56]) 324), (.str (S [9]) 1827), (.str (S [61, 48, 65]) 332), (.str (S [61, 48, 66]) 336), (.str (S [61, 48, 67]) 340), (.str (S [61, 48, 68]) 344), (.str (S [61, 48, 69]) 348), (.str (S [61, 48, 70]) 352), (.str (S [61, 49, 48]) 356), (.str (S [61, 49, 49]) 360), (.str (S [61, 49, 50]) 364), (.str (S [61, 49, 51]) 368), (.str (S [61, 49, 52]) 372), (.str (S [61, 49, 53]) 376), (.str (S [61, 49, 54]) 380), (.str (S [61, 49, 55]) 384), (.str (S [61, 49, 56]) 388), (.str (S [61, 49, 57]) 392), (.str (S [61, 49, 65]) 396), (.str (S [61, 49, 66]) 400), (.str (S [61, 49, 67]) 404), (.str (S [61, 49, 68]) 408), (.str (S [61, 49, 69]) 412), (.str (S [61, 49, 70]) 416), (.str (S [32]) 1545), (.str (S [33]) 1548), (.str (S [34]) 1551), (.str (S [35]) 1554), (.str (S [36]) 1557), (.str (S [37]) 1560), (.str (S [38]) 1563), (.str (S [39]) 1566), (.str (S [40]) 1569), (.str (S [41]) 1572), (.str (S [42]) 1575), (.str (S [43]) 1578), (.str (S [44]) 1581), (.str (S [45]) 1584), (.str (S [46]) 1587), (.str (S [47]) 1590), (.str (S [48]) 1593), (.str (S [49]) 1596), (.str (S [50]) 1599), (.str (S [51]) 1602), (.str (S [52]) 1605), (.str (S [53]) 1608), (.str (S [54]) 1611), (.str (S [55]) 1614), (.str (S [56]) 1617), (.str (S [57]) 1620), (.str (S [58]) 1623), (.str (S [59]) 1626), (.str (S [60]) 1629), (.str (S [61, 51, 68]) 536), (.str (S [62]) 1632), (.str (S [63]) 1635), (.str (S [64]) 1638), (.str (S [65]) 1641), (.str (S [66]) 1644), (.str (S [67]) 1647), (.str (S [68]) 1650), (.str (S [69]) 1653), (.str (S [70]) 1656), (.str (S [71]) 1659), (.str (S [72]) 1662), (.str (S [73]) 1665), (.str (S [74]) 1668), (.str (S [75]) 1671), (.str (S [76]) 1674), (.str (S [77]) 1677), (.str (S [78]) 1680), (.str (S [79]) 1683), (.str (S [80]) 1686), (.str (S [81]) 1689), (.str (S [82]) 1692), (.str (S [83]) 1695), (.str (S [84]) 1698), (.str (S [85]) 1701), (.str (S [86]) 1704), (.str (S [87]) 1707), (.str (S [88]) 1710), (.str (S [89]) 1713), (.str (S [90]) 1716), (.str (S [91]) 1719), (.str (S [92]) 1722), (.str (S [93]) 1725), (.str (S [94]) 1728), (.str (S [95]) 1731), (.str (S [96]) 1734), (.str (S [97]) 1737), (.str (S [98]) 1740), (.str (S [99]) 1743), (.str (S [100]) 1746), (.str (S [101]) 1749), (.str (S [102]) 1752), (.str (S [103]) 1755), (.str (S [104]) 1758), (.str (S [105]) 1761), (.str (S [106]) 1764), (.str (S [107]) 1767), (.str (S [108]) 1770), (.str (S [109]) 1773), (.str (S [110]) 1776), (.str (S [111]) 1779), (.str (S [112]) 1782), (.str (S [113]) 1785), (.str (S [114]) 1788), (.str (S [115]) 1791), (.str (S [116]) 1794), (.str (S [117]) 1797), (.str (S [118]) 1800), (.str (S [119]) 1803), (.str (S [120]) 1806), (.str (S [121]) 1809), (.str (S [122]) 1812), (.str (S [123]) 1815), (.str (S [124]) 1818), (.str (S [125]) 1821), (.str (S [126]) 1824), (.str (S [61, 55, 70]) 800), (.str (S [61, 56, 48]) 804), (.str (S [61, 56, 49]) 808), (.str (S [61, 56, 50]) 812), (.str (S [61, 56, 51]) 816), (.str (S [61, 56, 52]) 820), (.str (S [61, 56, 53]) 824), (.str (S [61, 56, 54]) 828), (.str (S [61, 56, 55]) 832), (.str (S [61, 56, 56]) 836), (.str (S [61, 56, 57]) 840), (.str (S [61, 56, 65]) 844), (.str (S [61, 56, 66]) 848), (.str (S [61, 56, 67]) 852), (.str (S [61, 56, 68]) 856), (.str (S [61, 56, 69]) 860), (.str (S [61, 56, 70]) 864), (.str (S [61, 57, 48]) 868), (.str (S [61, 57, 49]) 872), (.str (S [61, 57, 50]) 876), (.str (S [61, 57, 51]) 880), (.str (S [61, 57, 52]) 884), (.str (S [61, 57, 53]) 888), (.str (S [61, 57, 54]) 892), (.str (S [61, 57, 55]) 896), (.str (S [61, 57, 56]) 900), (.str (S [61, 57, 57]) 904), (.str (S [61, 57, 65]) 908), (.str (S [61, 57, 66]) 912), (.str (S [61, 57, 67]) 916), (.str (S [61, 57, 68]) 920), (.str (S [61, 57, 69]) 924), (.str (S [61, 57, 70]) 928), (.str (S [61, 65, 48]) 932), (.str (S [61, 65, 49]) 936), (.str (S [61, 65, 50]) 940), (.str (S [61, 65, 51]) 944), (.str (S [61, 65, 52]) 948), (.str (S [61, 65, 53]) 952), (.str (S [61, 65, 54]) 956), (.str (S [61, 65, 55]) 960), (.str (S [61, 65, 56]) 964), (.str (S [61, 65, 57]) 968), (.str (S [61, 65, 65]) 972), (.str (S [61, 65, 66]) 976), (.str (S [61, 65, 67]) 980), (.str (S [61, 65, 68]) 984), (.str (S [61, 65, 69]) 988), (.str (S [61, 65, 70]) 992), (.str (S [61, 66, 48]) 996), (.str (S [61, 66, 49]) 1000), (.str (S [61, 66, 50]) 1004), (.str (S [61, 66, 51]) 1008), (.str (S [61, 66, 52]) 1012), (.str (S [61, 66, 53]) 1016), (.str (S [61, 66, 54]) 1020), (.str (S [61, 66, 55]) 1024), (.str (S [61, 66, 56]) 1028), (.str (S [61, 66, 57]) 1032), (.str (S [61, 66, 65]) 1036), (.str (S [61, 66, 66]) 1040), (.str (S [61, 66, 67]) 1044), (.str (S [61, 66, 68]) 1048), (.str (S [61, 66, 69]) 1052), (.str (S [61, 66, 70]) 1056), (.str (S [61, 67, 48]) 1060), (.str (S [61, 67, 49]) 1064), (.str (S [61, 67, 50]) 1068), (.str (S [61, 67, 51]) 1072), (.str (S [61, 67, 52]) 1076), (.str (S [61, 67, 53]) 1080), (.str (S [61, 67, 54]) 1084), (.str (S [61, 67, 55]) 1088), (.str (S [61, 67, 56]) 1092), (.str (S [61, 67, 57]) 1096), (.str (S [61, 67, 65]) 1100), (.str (S [61, 67, 66]) 1104), (.str (S [61, 67, 67]) 1108), (.str (S [61, 67, 68]) 1112), (.str (S [61, 67, 69]) 1116), (.str (S [61, 67, 70]) 1120), (.str (S [61, 68, 48]) 1124), (.str (S [61, 68, 49]) 1128), (.str (S [61, 68, 50]) 1132), (.str (S [61, 68, 51]) 1136), (.str (S [61, 68, 52]) 1140), (.str (S [61, 68, 53]) 1144), (.str (S [61, 68, 54]) 1148), (.str (S [61, 68, 55]) 1152), (.str (S [61, 68, 56]) 1156), (.str (S [61, 68, 57]) 1160), (.str (S [61, 68, 65]) 1164), (.str (S [61, 68, 66]) 1168), (.str (S [61, 68, 67]) 1172), (.str (S [61, 68, 68]) 1176), (.str (S [61, 68, 69]) 1180), (.str (S [61, 68, 70]) 1184), (.str (S [61, 69, 48]) 1188), (.str (S [61, 69, 49]) 1192), (.str (S [61, 69, 50]) 1196), (.str (S [61, 69, 51]) 1200), (.str (S [61, 69, 52]) 1204), (.str (S [61, 69, 53]) 1208), (.str (S [61, 69, 54]) 1212), (.str (S [61, 69, 55]) 1216), (.str (S [61, 69, 56]) 1220), (.str (S [61, 69, 57]) 1224), (.str (S [61, 69, 65]) 1228), (.str (S [61, 69, 66]) 1232), (.str (S [61, 69, 67]) 1236), (.str (S [61, 69, 68]) 1240), (.str (S [61, 69, 69]) 1244), (.str (S [61, 69, 70]) 1248), (.str (S [61, 70, 48]) 1252), (.str (S [61, 70, 49]) 1256), (.str (S [61, 70, 50]) 1260), (.str (S [61, 70, 51]) 1264), (.str (S [61, 70, 52]) 1268), (.str (S [61, 70, 53]) 1272), (.str (S [61, 70, 54]) 1276), (.str (S [61, 70, 55]) 1280), (.str (S [61, 70, 56]) 1284), (.str (S [61, 70, 57]) 1288), (.str (S [61, 70, 65]) 1292), (.str (S [61, 70, 66]) 1296), (.str (S [61, 70, 67]) 1300), (.str (S [61, 70, 68]) 1304), (.str (S [61, 70, 69]) 1308), (.str (S [61, 70, 70]) 1312)] 0), #[]⟩
noncomputable def s7_t (p : Params) : BT := (.node (boot_o_0 p) (.node (o1_1 p) (.node (o3_7 p) (.node (boot_o_7 p) (.node (o15_0 p) (.node (o31_0 p) (.node (o63_0 p) .nil .nil) .nil) (.node (o47_0 p) .nil .nil)) (.node (o23_0 p) (.node (o39_2 p) .nil .nil) (.node (o55_0 p) .nil .nil))) (.node (o11_1 p) (.node (o19_0 p) (.node (o35_0 p) .nil .nil) (.node (o51_0 p) .nil .nil)) (.node (o27_0 p) (.node (o43_0 p) .nil .nil) (.node (o59_0 p) .nil .nil)))) (.node (boot_o_5 p) (.node (boot_o_9 p) (.node (o17_0 p) (.node (o33_0 p) .nil .nil) (.node (o49_0 p) .nil .nil)) (.node (o25_0 p) (.node (o41_1 p) .nil .nil) (.node (o57_0 p) .nil .nil))) (.node (o13_0 p) (.node (o21_0 p) (.node (o37_0 p) .nil .nil) (.node (o53_0 p) .nil .nil)) (.node (o29_1 p) (.node (o45_0 p) .nil .nil) (.node (o61_0 p) .nil .nil))))) (.node (o2_1 p) (.node (boot_o_4 p) (.node (boot_o_8 p) (.node (o16_0 p) (.node (o32_0 p) .nil .nil) (.node (o48_0 p) .nil .nil)) (.node (o24_0 p) (.node (o40_0 p) .nil .nil) (.node (o56_0 p) .nil .nil))) (.node (o12_0 p) (.node (o20_0 p) (.node (o36_0 p) .nil .nil) (.node (o52_0 p) .nil .nil)) (.node (o28_0 p) (.node (o44_0 p) .nil .nil) (.node (o60_0 p) .nil .nil)))) (.node (boot_o_6 p) (.node (boot_o_10 p) (.node (o18_0 p) (.node (o34_0 p) .nil .nil) (.node (o50_0 p) .nil .nil)) (.node (o26_0 p) (.node (o42_0 p) .nil .nil) (.node (o58_0 p) .nil .nil))) (.node (o14_0 p) (.node (o22_0 p) (.node (o38_0 p) .nil .nil) (.node (o54_0 p) .nil .nil)) (.node (o30_0 p) (.node (o46_0 p) .nil .nil) (.node (o62_0 p) .nil .nil))))))
noncomputable def s7_ (w : World) (os : OsState) : SharedT := ⟨s7_t w.params, 64, { known := 0 }, ⟨[]⟩, ⟨0, 0, 0, 0⟩, 1843, os⟩
noncomputable def o3_8 (p : Params) : Obj := ⟨(.type "dict"), none, (.dict #[⟨PyData.keyHash p (S [95, 95, 110, 97, 109, 101, 95, 95]), (.str (S [95, 95, 110, 97, 109, 101, 95, 95]) 165), (.str (S [99, 112, 121, 51, 49, 51, 46, 101, 109, 97, 105, 108, 46, 113, 117, 111, 112, 114, 105, 109, 105, 109, 101]) 1329)⟩, ⟨PyData.keyHash p (S [95, 95, 100, 111, 99, 95, 95]), (.str (S [95, 95, 100, 111, 99, 95, 95]) 166), .none⟩, ⟨PyData.keyHash p (S [95, 95, 112, 97, 99, 107, 97, 103, 101, 95, 95]), (.str (S [95, 95, 112, 97, 99, 107, 97, 103, 101, 95, 95]) 167), .none⟩, ⟨PyData.keyHash p (S [95, 95, 108, 111, 97, 100, 101, 114, 95, 95]), (.str (S [95, 95, 108, 111, 97, 100, 101, 114, 95, 95]) 168), (.builtin "__main__.__loader__#opaque")⟩, ⟨PyData.keyHash p (S [95, 95, 115, 112, 101, 99, 95, 95]), (.str (S [95, 95, 115, 112, 101, 99, 95, 95]) 169), .none⟩, ⟨PyData.keyHash p (S [95, 95, 97, 110, 110, 111, 116, 97, 116, 105, 111, 110, 115, 95, 95]), (.str (S [95, 95, 97, 110, 110, 111, 116, 97, 116, 105, 111, 110, 115, 95, 95]) 170), (.ref 6)⟩, ⟨PyData.keyHash p (S [95, 95, 98, 117, 105, 108, 116, 105, 110, 115, 95, 95]), (.str (S [95, 95, 98, 117, 105, 108, 116, 105, 110, 115, 95, 95]) 171), (.ref 4)⟩, ⟨PyData.keyHash p (S [95, 95, 102, 105, 108, 101, 95, 95]), (.str (S [95, 95, 102, 105, 108, 101, 95, 95]) 173), (.str (S [47, 99, 108, 97, 105, 109, 47, 99, 117, 116, 46, 112, 121]) 172)⟩, ⟨PyData.keyHash p (S [95, 95, 99, 97, 99, 104, 101, 100, 95, 95]), (.str (S [95, 95, 99, 97, 99, 104, 101, 100, 95, 95]) 174), .none⟩, ⟨PyData.keyHash p (S [95, 115, 114, 101]), (.str (S [95, 115, 114, 101]) 275), (.ref 12)⟩, ⟨PyData.keyHash p (S [67, 82, 76, 70]), (.str (S [67, 82, 76, 70]) 283), (.str (S [13, 10]) 282)⟩, ⟨PyData.keyHash p (S [78, 76]), (.str (S [78, 76]) 285), (.str (S [10]) 284)⟩, ⟨PyData.keyHash p (S [95, 81, 85, 79, 80, 82, 73, 95, 77, 65, 80]), (.str (S [95, 81, 85, 79, 80, 82, 73, 95, 77, 65, 80]) 1313), (.ref 34)⟩, ⟨PyData.keyHash p (S [95, 81, 85, 79, 80, 82, 73, 95, 72, 69, 65, 68, 69, 82, 95, 77, 65, 80]), (.str (S [95, 81, 85, 79, 80, 82, 73, 95, 72, 69, 65, 68, 69, 82, 95, 77, 65, 80]) 1314), (.ref 39)⟩, ⟨PyData.keyHash p (S [95, 81, 85, 79, 80, 82, 73, 95, 66, 79, 68, 89, 95, 77, 65, 80]), (.str (S [95, 81, 85, 79, 80, 82, 73, 95, 66, 79, 68, 89, 95, 77, 65, 80]) 1315), (.ref 41)⟩, ⟨PyData.keyHash p (S [97, 115, 99, 105, 105, 95, 108, 111, 119, 101, 114, 99, 97, 115, 101]), (.str (S [97, 115, 99, 105, 105, 95, 108, 111, 119, 101, 114, 99, 97, 115, 101]) 1317), (.str (S [97, 98, 99, 100, 101, 102, 103, 104, 105, 106, 107, 108, 109, 110, 111, 112, 113, 114, 115, 116, 117, 118, 119, 120, 121, 122]) 1316)⟩, ⟨PyData.keyHash p (S [97, 115, 99, 105, 105, 95, 117, 112, 112, 101, 114, 99, 97, 115, 101]), (.str (S [97, 115, 99, 105, 105, 95, 117, 112, 112, 101, 114, 99, 97, 115, 101]) 1319), (.str (S [65, 66, 67, 68, 69, 70, 71, 72, 73, 74, 75, 76, 77, 78, 79, 80, 81, 82, 83, 84, 85, 86, 87, 88, 89, 90]) 1318)⟩, ⟨PyData.keyHash p (S [97, 115, 99, 105, 105, 95, 108, 101, 116, 116, 101, 114, 115]), (.str (S [97, 115, 99, 105, 105, 95, 108, 101, 116, 116, 101, 114, 115]) 1321), (.str (S [97, 98, 99, 100, 101, 102, 103, 104, 105, 106, 107, 108, 109, 110, 111, 112, 113, 114, 115, 116, 117, 118, 119, 120, 121, 122, 65, 66, 67, 68, 69, 70, 71, 72, 73, 74, 75, 76, 77, 78, 79, 80, 81, 82, 83, 84, 85, 86, 87, 88, 89, 90]) 1320)⟩, ⟨PyData.keyHash p (S [100, 105, 103, 105, 116, 115]), (.str (S [100, 105, 103, 105, 116, 115]) 1323), (.str (S [48, 49, 50, 51, 52, 53, 54, 55, 56, 57]) 1322)⟩, ⟨PyData.keyHash p (S [104, 101, 120, 100, 105, 103, 105, 116, 115]), (.str (S [104, 101, 120, 100, 105, 103, 105, 116, 115]) 1328), (.str (S [48, 49, 50, 51, 52, 53, 54, 55, 56, 57, 97, 98, 99, 100, 101, 102, 65, 66, 67, 68, 69, 70]) 1327)⟩, ⟨PyData.keyHash p (S [99]), (.str (S [99]) 1339), (.int 10 1847)⟩, ⟨PyData.keyHash p (S [117, 110, 113, 117, 111, 116, 101]), (.str (S [117, 110, 113, 117, 111, 116, 101]) 1834), (.ref 54)⟩, ⟨PyData.keyHash p (S [113, 117, 111, 116, 101]), (.str (S [113, 117, 111, 116, 101]) 1841), (.ref 61)⟩, ⟨PyData.keyHash p (S [95, 81, 85, 79, 80, 82, 73, 95, 66, 79, 68, 89, 95, 69, 78, 67, 79, 68, 69, 95, 77, 65, 80]), (.str (S [95, 81, 85, 79, 80, 82, 73, 95, 66, 79, 68, 89, 95, 69, 78, 67, 79, 68, 69, 95, 77, 65, 80]) 1842), (.ref 63)⟩] 24), #[]⟩
noncomputable def o63_1 (p : Params) : Obj := ⟨(.type "list"), none, (.seq #[(.str (S [61, 48, 48]) 292), (.str (S [61, 48, 49]) 296), (.str (S [61, 48, 50]) 300), (.str (S [61, 48, 51]) 304), (.str (S [61, 48, 52]) 308), (.str (S [61, 48, 53]) 312), (.str (S [61, 48, 54]) 316), (.str (S [61, 48, 55]) 320), (.str (S [61, 48, 56]) 324), (.str (S [9]) 1827), (.str (S [10]) 1849), (.str (S [61, 48, 66]) 336), (.str (S [61, 48, 67]) 340), (.str (S [13]) 1846), (.str (S [61, 48, 69]) 348), (.str (S [61, 48, 70]) 352), (.str (S [61, 49, 48]) 356), (.str (S [61, 49, 49]) 360), (.str (S [61, 49, 50]) 364), (.str (S [61, 49, 51]) 368), (.str (S [61, 49, 52]) 372), (.str (S [61, 49, 53]) 376), (.str (S [61, 49, 54]) 380), (.str (S [61, 49, 55]) 384), (.str (S [61, 49, 56]) 388), (.str (S [61, 49, 57]) 392), (.str (S [61, 49, 65]) 396), (.str (S [61, 49, 66]) 400), (.str (S [61, 49, 67]) 404), (.str (S [61, 49, 68]) 408), (.str (S [61, 49, 69]) 412), (.str (S [61, 49, 70]) 416), (.str (S [32]) 1545), (.str (S [33]) 1548), (.str (S [34]) 1551), (.str (S [35]) 1554), (.str (S [36]) 1557), (.str (S [37]) 1560), (.str (S [38]) 1563), (.str (S [39]) 1566), (.str (S [40]) 1569), (.str (S [41]) 1572), (.str (S [42]) 1575), (.str (S [43]) 1578), (.str (S [44]) 1581), (.str (S [45]) 1584), (.str (S [46]) 1587), (.str (S [47]) 1590), (.str (S [48]) 1593), (.str (S [49]) 1596), (.str (S [50]) 1599), (.str (S [51]) 1602), (.str (S [52]) 1605), (.str (S [53]) 1608), (.str (S [54]) 1611), (.str (S [55]) 1614), (.str (S [56]) 1617), (.str (S [57]) 1620), (.str (S [58]) 1623), (.str (S [59]) 1626), (.str (S [60]) 1629), (.str (S [61, 51, 68]) 536), (.str (S [62]) 1632), (.str (S [63]) 1635), (.str (S [64]) 1638), (.str (S [65]) 1641), (.str (S [66]) 1644), (.str (S [67]) 1647), (.str (S [68]) 1650), (.str (S [69]) 1653), (.str (S [70]) 1656), (.str (S [71]) 1659), (.str (S [72]) 1662), (.str (S [73]) 1665), (.str (S [74]) 1668), (.str (S [75]) 1671), (.str (S [76]) 1674), (.str (S [77]) 1677), (.str (S [78]) 1680), (.str (S [79]) 1683), (.str (S [80]) 1686), (.str (S [81]) 1689), (.str (S [82]) 1692), (.str (S [83]) 1695), (.str (S [84]) 1698), (.str (S [85]) 1701), (.str (S [86]) 1704), (.str (S [87]) 1707), (.str (S [88]) 1710), (.str (S [89]) 1713), (.str (S [90]) 1716), (.str (S [91]) 1719), (.str (S [92]) 1722), (.str (S [93]) 1725), (.str (S [94]) 1728), (.str (S [95]) 1731), (.str (S [96]) 1734), (.str (S [97]) 1737), (.str (S [98]) 1740), (.str (S [99]) 1743), (.str (S [100]) 1746), (.str (S [101]) 1749), (.str (S [102]) 1752), (.str (S [103]) 1755), (.str (S [104]) 1758), (.str (S [105]) 1761), (.str (S [106]) 1764), (.str (S [107]) 1767), (.str (S [108]) 1770), (.str (S [109]) 1773), (.str (S [110]) 1776), (.str (S [111]) 1779), (.str (S [112]) 1782), (.str (S [113]) 1785), (.str (S [114]) 1788), (.str (S [115]) 1791), (.str (S [116]) 1794), (.str (S [117]) 1797), (.str (S [118]) 1800), (.str (S [119]) 1803), (.str (S [120]) 1806), (.str (S [121]) 1809), (.str (S [122]) 1812), (.str (S [123]) 1815), (.str (S [124]) 1818), (.str (S [125]) 1821), (.str (S [126]) 1824), (.str (S [61, 55, 70]) 800), (.str (S [61, 56, 48]) 804), (.str (S [61, 56, 49]) 808), (.str (S [61, 56, 50]) 812), (.str (S [61, 56, 51]) 816), (.str (S [61, 56, 52]) 820), (.str (S [61, 56, 53]) 824), (.str (S [61, 56, 54]) 828), (.str (S [61, 56, 55]) 832), (.str (S [61, 56, 56]) 836), (.str (S [61, 56, 57]) 840), (.str (S [61, 56, 65]) 844), (.str (S [61, 56, 66]) 848), (.str (S [61, 56, 67]) 852), (.str (S [61, 56, 68]) 856), (.str (S [61, 56, 69]) 860), (.str (S [61, 56, 70]) 864), (.str (S [61, 57, 48]) 868), (.str (S [61, 57, 49]) 872), (.str (S [61, 57, 50]) 876), (.str (S [61, 57, 51]) 880), (.str (S [61, 57, 52]) 884), (.str (S [61, 57, 53]) 888), (.str (S [61, 57, 54]) 892), (.str (S [61, 57, 55]) 896), (.str (S [61, 57, 56]) 900), (.str (S [61, 57, 57]) 904), (.str (S [61, 57, 65]) 908), (.str (S [61, 57, 66]) 912), (.str (S [61, 57, 67]) 916), (.str (S [61, 57, 68]) 920), (.str (S [61, 57, 69]) 924), (.str (S [61, 57, 70]) 928), (.str (S [61, 65, 48]) 932), (.str (S [61, 65, 49]) 936), (.str (S [61, 65, 50]) 940), (.str (S [61, 65, 51]) 944), (.str (S [61, 65, 52]) 948), (.str (S [61, 65, 53]) 952), (.str (S [61, 65, 54]) 956), (.str (S [61, 65, 55]) 960), (.str (S [61, 65, 56]) 964), (.str (S [61, 65, 57]) 968), (.str (S [61, 65, 65]) 972), (.str (S [61, 65, 66]) 976), (.str (S [61, 65, 67]) 980), (.str (S [61, 65, 68]) 984), (.str (S [61, 65, 69]) 988), (.str (S [61, 65, 70]) 992), (.str (S [61, 66, 48]) 996), (.str (S [61, 66, 49]) 1000), (.str (S [61, 66, 50]) 1004), (.str (S [61, 66, 51]) 1008), (.str (S [61, 66, 52]) 1012), (.str (S [61, 66, 53]) 1016), (.str (S [61, 66, 54]) 1020), (.str (S [61, 66, 55]) 1024), (.str (S [61, 66, 56]) 1028), (.str (S [61, 66, 57]) 1032), (.str (S [61, 66, 65]) 1036), (.str (S [61, 66, 66]) 1040), (.str (S [61, 66, 67]) 1044), (.str (S [61, 66, 68]) 1048), (.str (S [61, 66, 69]) 1052), (.str (S [61, 66, 70]) 1056), (.str (S [61, 67, 48]) 1060), (.str (S [61, 67, 49]) 1064), (.str (S [61, 67, 50]) 1068), (.str (S [61, 67, 51]) 1072), (.str (S [61, 67, 52]) 1076), (.str (S [61, 67, 53]) 1080), (.str (S [61, 67, 54]) 1084), (.str (S [61, 67, 55]) 1088), (.str (S [61, 67, 56]) 1092), (.str (S [61, 67, 57]) 1096), (.str (S [61, 67, 65]) 1100), (.str (S [61, 67, 66]) 1104), (.str (S [61, 67, 67]) 1108), (.str (S [61, 67, 68]) 1112), (.str (S [61, 67, 69]) 1116), (.str (S [61, 67, 70]) 1120), (.str (S [61, 68, 48]) 1124), (.str (S [61, 68, 49]) 1128), (.str (S [61, 68, 50]) 1132), (.str (S [61, 68, 51]) 1136), (.str (S [61, 68, 52]) 1140), (.str (S [61, 68, 53]) 1144), (.str (S [61, 68, 54]) 1148), (.str (S [61, 68, 55]) 1152), (.str (S [61, 68, 56]) 1156), (.str (S [61, 68, 57]) 1160), (.str (S [61, 68, 65]) 1164), (.str (S [61, 68, 66]) 1168), (.str (S [61, 68, 67]) 1172), (.str (S [61, 68, 68]) 1176), (.str (S [61, 68, 69]) 1180), (.str (S [61, 68, 70]) 1184), (.str (S [61, 69, 48]) 1188), (.str (S [61, 69, 49]) 1192), (.str (S [61, 69, 50]) 1196), (.str (S [61, 69, 51]) 1200), (.str (S [61, 69, 52]) 1204), (.str (S [61, 69, 53]) 1208), (.str (S [61, 69, 54]) 1212), (.str (S [61, 69, 55]) 1216), (.str (S [61, 69, 56]) 1220), (.str (S [61, 69, 57]) 1224), (.str (S [61, 69, 65]) 1228), (.str (S [61, 69, 66]) 1232), (.str (S [61, 69, 67]) 1236), (.str (S [61, 69, 68]) 1240), (.str (S [61, 69, 69]) 1244), (.str (S [61, 69, 70]) 1248), (.str (S [61, 70, 48]) 1252), (.str (S [61, 70, 49]) 1256), (.str (S [61, 70, 50]) 1260), (.str (S [61, 70, 51]) 1264), (.str (S [61, 70, 52]) 1268), (.str (S [61, 70, 53]) 1272), (.str (S [61, 70, 54]) 1276), (.str (S [61, 70, 55]) 1280), (.str (S [61, 70, 56]) 1284), (.str (S [61, 70, 57]) 1288), (.str (S [61, 70, 65]) 1292), (.str (S [61, 70, 66]) 1296), (.str (S [61, 70, 67]) 1300), (.str (S [61, 70, 68]) 1304), (.str (S [61, 70, 69]) 1308), (.str (S [61, 70, 70]) 1312)] 0), #[]⟩
noncomputable def o64_0 (p : Params) : Obj := ⟨(.type "bytes_iterator"), none, (.fields #[.none, (.int 2 0)]), #[]⟩
noncomputable def o65_0 (p : Params) : Obj := ⟨(.type "tuple"), none, (.seq #[] 0), #[]⟩
noncomputable def o66_0 (p : Params) : Obj := ⟨(.type "StopIteration"), none, (.fields #[(.ref 65), .none, .none, .none, (.bool false), .none]), #[]⟩
noncomputable def s8_t (p : Params) : BT := (.node (boot_o_0 p) (.node (o1_1 p) (.node (o3_8 p) (.node (boot_o_7 p) (.node (o15_0 p) (.node (o31_0 p) (.node (o63_1 p) .nil .nil) .nil) (.node (o47_0 p) .nil .nil)) (.node (o23_0 p) (.node (o39_2 p) .nil .nil) (.node (o55_0 p) .nil .nil))) (.node (o11_1 p) (.node (o19_0 p) (.node (o35_0 p) .nil .nil) (.node (o51_0 p) .nil .nil)) (.node (o27_0 p) (.node (o43_0 p) .nil .nil) (.node (o59_0 p) .nil .nil)))) (.node (boot_o_5 p) (.node (boot_o_9 p) (.node (o17_0 p) (.node (o33_0 p) (.node (o65_0 p) .nil .nil) .nil) (.node (o49_0 p) .nil .nil)) (.node (o25_0 p) (.node (o41_1 p) .nil .nil) (.node (o57_0 p) .nil .nil))) (.node (o13_0 p) (.node (o21_0 p) (.node (o37_0 p) .nil .nil) (.node (o53_0 p) .nil .nil)) (.node (o29_1 p) (.node (o45_0 p) .nil .nil) (.node (o61_0 p) .nil .nil))))) (.node (o2_1 p) (.node (boot_o_4 p) (.node (boot_o_8 p) (.node (o16_0 p) (.node (o32_0 p) (.node (o64_0 p) .nil .nil) .nil) (.node (o48_0 p) .nil .nil)) (.node (o24_0 p) (.node (o40_0 p) .nil .nil) (.node (o56_0 p) .nil .nil))) (.node (o12_0 p) (.node (o20_0 p) (.node (o36_0 p) .nil .nil) (.node (o52_0 p) .nil .nil)) (.node (o28_0 p) (.node (o44_0 p) .nil .nil) (.node (o60_0 p) .nil .nil)))) (.node (boot_o_6 p) (.node (boot_o_10 p) (.node (o18_0 p) (.node (o34_0 p) (.node (o66_0 p) .nil .nil) .nil) (.node (o50_0 p) .nil .nil)) (.node (o26_0 p) (.node (o42_0 p) .nil .nil) (.node (o58_0 p) .nil .nil))) (.node (o14_0 p) (.node (o22_0 p) (.node (o38_0 p) .nil .nil) (.node (o54_0 p) .nil .nil)) (.node (o30_0 p) (.node (o46_0 p) .nil .nil) (.node (o62_0 p) .nil .nil))))))
noncomputable def s8_ (w : World) (os : OsState) : SharedT := ⟨s8_t w.params, 67, { known := 0 }, ⟨[]⟩, ⟨0, 0, 0, 0⟩, 1850, os⟩
noncomputable def o3_9 (p : Params) : Obj := ⟨(.type "dict"), none, (.dict #[⟨PyData.keyHash p (S [95, 95, 110, 97, 109, 101, 95, 95]), (.str (S [95, 95, 110, 97, 109, 101, 95, 95]) 165), (.str (S [114, 101]) 1932)⟩, ⟨PyData.keyHash p (S [95, 95, 100, 111, 99, 95, 95]), (.str (S [95, 95, 100, 111, 99, 95, 95]) 166), .none⟩, ⟨PyData.keyHash p (S [95, 95, 112, 97, 99, 107, 97, 103, 101, 95, 95]), (.str (S [95, 95, 112, 97, 99, 107, 97, 103, 101, 95, 95]) 167), .none⟩, ⟨PyData.keyHash p (S [95, 95, 108, 111, 97, 100, 101, 114, 95, 95]), (.str (S [95, 95, 108, 111, 97, 100, 101, 114, 95, 95]) 168), (.builtin "__main__.__loader__#opaque")⟩, ⟨PyData.keyHash p (S [95, 95, 115, 112, 101, 99, 95, 95]), (.str (S [95, 95, 115, 112, 101, 99, 95, 95]) 169), .none⟩, ⟨PyData.keyHash p (S [95, 95, 97, 110, 110, 111, 116, 97, 116, 105, 111, 110, 115, 95, 95]), (.str (S [95, 95, 97, 110, 110, 111, 116, 97, 116, 105, 111, 110, 115, 95, 95]) 170), (.ref 6)⟩, ⟨PyData.keyHash p (S [95, 95, 98, 117, 105, 108, 116, 105, 110, 115, 95, 95]), (.str (S [95, 95, 98, 117, 105, 108, 116, 105, 110, 115, 95, 95]) 171), (.ref 4)⟩, ⟨PyData.keyHash p (S [95, 95, 102, 105, 108, 101, 95, 95]), (.str (S [95, 95, 102, 105, 108, 101, 95, 95]) 173), (.str (S [47, 99, 108, 97, 105, 109, 47, 99, 117, 116, 46, 112, 121]) 172)⟩, ⟨PyData.keyHash p (S [95, 95, 99, 97, 99, 104, 101, 100, 95, 95]), (.str (S [95, 95, 99, 97, 99, 104, 101, 100, 95, 95]) 174), .none⟩, ⟨PyData.keyHash p (S [95, 115, 114, 101]), (.str (S [95, 115, 114, 101]) 275), (.ref 12)⟩, ⟨PyData.keyHash p (S [67, 82, 76, 70]), (.str (S [67, 82, 76, 70]) 283), (.str (S [13, 10]) 282)⟩, ⟨PyData.keyHash p (S [78, 76]), (.str (S [78, 76]) 285), (.str (S [10]) 284)⟩, ⟨PyData.keyHash p (S [95, 81, 85, 79, 80, 82, 73, 95, 77, 65, 80]), (.str (S [95, 81, 85, 79, 80, 82, 73, 95, 77, 65, 80]) 1313), (.ref 34)⟩, ⟨PyData.keyHash p (S [95, 81, 85, 79, 80, 82, 73, 95, 72, 69, 65, 68, 69, 82, 95, 77, 65, 80]), (.str (S [95, 81, 85, 79, 80, 82, 73, 95, 72, 69, 65, 68, 69, 82, 95, 77, 65, 80]) 1314), (.ref 39)⟩, ⟨PyData.keyHash p (S [95, 81, 85, 79, 80, 82, 73, 95, 66, 79, 68, 89, 95, 77, 65, 80]), (.str (S [95, 81, 85, 79, 80, 82, 73, 95, 66, 79, 68, 89, 95, 77, 65, 80]) 1315), (.ref 41)⟩, ⟨PyData.keyHash p (S [97, 115, 99, 105, 105, 95, 108, 111, 119, 101, 114, 99, 97, 115, 101]), (.str (S [97, 115, 99, 105, 105, 95, 108, 111, 119, 101, 114, 99, 97, 115, 101]) 1317), (.str (S [97, 98, 99, 100, 101, 102, 103, 104, 105, 106, 107, 108, 109, 110, 111, 112, 113, 114, 115, 116, 117, 118, 119, 120, 121, 122]) 1316)⟩, ⟨PyData.keyHash p (S [97, 115, 99, 105, 105, 95, 117, 112, 112, 101, 114, 99, 97, 115, 101]), (.str (S [97, 115, 99, 105, 105, 95, 117, 112, 112, 101, 114, 99, 97, 115, 101]) 1319), (.str (S [65, 66, 67, 68, 69, 70, 71, 72, 73, 74, 75, 76, 77, 78, 79, 80, 81, 82, 83, 84, 85, 86, 87, 88, 89, 90]) 1318)⟩, ⟨PyData.keyHash p (S [97, 115, 99, 105, 105, 95, 108, 101, 116, 116, 101, 114, 115]), (.str (S [97, 115, 99, 105, 105, 95, 108, 101, 116, 116, 101, 114, 115]) 1321), (.str (S [97, 98, 99, 100, 101, 102, 103, 104, 105, 106, 107, 108, 109, 110, 111, 112, 113, 114, 115, 116, 117, 118, 119, 120, 121, 122, 65, 66, 67, 68, 69, 70, 71, 72, 73, 74, 75, 76, 77, 78, 79, 80, 81, 82, 83, 84, 85, 86, 87, 88, 89, 90]) 1320)⟩, ⟨PyData.keyHash p (S [100, 105, 103, 105, 116, 115]), (.str (S [100, 105, 103, 105, 116, 115]) 1323), (.str (S [48, 49, 50, 51, 52, 53, 54, 55, 56, 57]) 1322)⟩, ⟨PyData.keyHash p (S [104, 101, 120, 100, 105, 103, 105, 116, 115]), (.str (S [104, 101, 120, 100, 105, 103, 105, 116, 115]) 1328), (.str (S [48, 49, 50, 51, 52, 53, 54, 55, 56, 57, 97, 98, 99, 100, 101, 102, 65, 66, 67, 68, 69, 70]) 1327)⟩, ⟨PyData.keyHash p (S [117, 110, 113, 117, 111, 116, 101]), (.str (S [117, 110, 113, 117, 111, 116, 101]) 1834), (.ref 54)⟩, ⟨PyData.keyHash p (S [113, 117, 111, 116, 101]), (.str (S [113, 117, 111, 116, 101]) 1841), (.ref 61)⟩, ⟨PyData.keyHash p (S [95, 81, 85, 79, 80, 82, 73, 95, 66, 79, 68, 89, 95, 69, 78, 67, 79, 68, 69, 95, 77, 65, 80]), (.str (S [95, 81, 85, 79, 80, 82, 73, 95, 66, 79, 68, 89, 95, 69, 78, 67, 79, 68, 69, 95, 77, 65, 80]) 1842), (.ref 63)⟩, ⟨PyData.keyHash p (S [98, 111, 100, 121, 95, 101, 110, 99, 111, 100, 101]), (.str (S [98, 111, 100, 121, 95, 101, 110, 99, 111, 100, 101]) 1869), (.ref 74)⟩, ⟨PyData.keyHash p (S [100, 101, 99, 111, 100, 101]), (.str (S [100, 101, 99, 111, 100, 101]) 1882), (.ref 82)⟩, ⟨PyData.keyHash p (S [95, 116, 119, 105, 110, 95, 114, 101, 95, 49]), (.str (S [95, 116, 119, 105, 110, 95, 114, 101, 95, 49]) 1922), (.ref 87)⟩, ⟨PyData.keyHash p (S [116, 114, 97, 110, 115, 108, 97, 116, 101]), (.str (S [116, 114, 97, 110, 115, 108, 97, 116, 101]) 1931), (.ref 94)⟩] 29), #[]⟩
noncomputable def o29_2 (p : Params) : Obj := ⟨.none, none, (.fields #[(.int 18 0), (.int 0 0), (.ref 53), (.int 20 0), (.int 0 0), (.ref 60), (.int 26 0), (.int 0 0), (.ref 73), (.int 64 0), (.int 0 0), (.ref 81), (.int 96 0), (.int 0 0), (.ref 93)]), #[]⟩
noncomputable def o67_0 (p : Params) : Obj := ⟨(.type "tuple"), none, (.seq #[(.int 76 1850), (.str (S [10]) 284)] 0), #[]⟩
noncomputable def o68_0 (p : Params) : Obj := ⟨(.type "tuple"), none, (.seq #[] 0), #[]⟩
noncomputable def o69_0 (p : Params) : Obj := ⟨.none, none, (.fields #[]), #[]⟩
noncomputable def o70_0 (p : Params) : Obj := ⟨(.type "tuple"), none, (.seq #[(.str (S [98, 111, 100, 121]) 1854), (.str (S [109, 97, 120, 108, 105, 110, 101, 108, 101, 110]) 1855), (.str (S [101, 111, 108]) 1856), (.str (S [115, 111, 102, 116, 95, 98, 114, 101, 97, 107]) 1857), (.str (S [109, 97, 120, 108, 105, 110, 101, 108, 101, 110, 49]) 1858), (.str (S [101, 110, 99, 111, 100, 101, 100, 95, 98, 111, 100, 121]) 1859), (.str (S [97, 112, 112, 101, 110, 100]) 1860), (.str (S [108, 105, 110, 101]) 1861), (.str (S [115, 116, 97, 114, 116]) 1862), (.str (S [108, 97, 115, 116, 115, 116, 97, 114, 116]) 1863), (.str (S [115, 116, 111, 112]) 1864), (.str (S [114, 111, 111, 109]) 1865), (.str (S [113]) 1866)] 0), #[]⟩
noncomputable def o71_0 (p : Params) : Obj := ⟨(.type "tuple"), none, (.seq #[] 0), #[]⟩
noncomputable def o72_0 (p : Params) : Obj := ⟨.none, none, (.func { name := (S [98, 111, 100, 121, 95, 101, 110, 99, 111, 100, 101]), qualname := (S [98, 111, 100, 121, 95, 101, 110, 99, 111, 100, 101]), params := fA 19, body := .stmts (fB 19), scope := fS 19, globals := 0, closure := [], defaults := .none, kwdefaults := .none, doc := .none, pyModule := .none, annotations := none, code := .none, closureTuple := .none, builtins := 0 }), #[]⟩
noncomputable def o73_0 (p : Params) : Obj := ⟨(.type "code"), none, (.fields #[(.str (S [98, 111, 100, 121, 95, 101, 110, 99, 111, 100, 101]) 1851), (.str (S [98, 111, 100, 121, 95, 101, 110, 99, 111, 100, 101]) 1852), (.str (S [47, 99, 108, 97, 105, 109, 47, 99, 117, 116, 46, 112, 121]) 1853), (.int 26 0), (.int 3 0), (.int 0 0), (.int 0 0), (.int 3 0), (.ref 68), (.bool true), (.int 276 0), (.ref 69), .none, (.ref 70), (.ref 71), (.ref 72), (.int 1867 0), (.int 26 0), (.str (S [47, 99, 108, 97, 105, 109, 47, 99, 117, 116, 46, 112, 121]) 1868)]), #[]⟩
noncomputable def o74_0 (p : Params) : Obj := ⟨(.type "function"), none, (.func { name := (S [98, 111, 100, 121, 95, 101, 110, 99, 111, 100, 101]), qualname := (S [98, 111, 100, 121, 95, 101, 110, 99, 111, 100, 101]), params := fA 19, body := .stmts (fB 19), scope := fS 19, globals := 3, closure := [], defaults := (.ref 67), kwdefaults := .none, doc := .none, pyModule := (.str (S [99, 112, 121, 51, 49, 51, 46, 101, 109, 97, 105, 108, 46, 113, 117, 111, 112, 114, 105, 109, 105, 109, 101]) 1329), annotations := none, code := (.ref 73), closureTuple := .none, builtins := 0 }), #[]⟩
noncomputable def o75_0 (p : Params) : Obj := ⟨(.type "tuple"), none, (.seq #[(.str (S [10]) 284)] 0), #[]⟩
noncomputable def o76_0 (p : Params) : Obj := ⟨(.type "tuple"), none, (.seq #[] 0), #[]⟩
noncomputable def o77_0 (p : Params) : Obj := ⟨.none, none, (.fields #[]), #[]⟩
noncomputable def o78_0 (p : Params) : Obj := ⟨(.type "tuple"), none, (.seq #[(.str (S [101, 110, 99, 111, 100, 101, 100]) 1873), (.str (S [101, 111, 108]) 1874), (.str (S [100, 101, 99, 111, 100, 101, 100]) 1875), (.str (S [108, 105, 110, 101]) 1876), (.str (S [105]) 1877), (.str (S [110]) 1878), (.str (S [99]) 1879)] 0), #[]⟩
noncomputable def o79_0 (p : Params) : Obj := ⟨(.type "tuple"), none, (.seq #[] 0), #[]⟩
noncomputable def o80_0 (p : Params) : Obj := ⟨.none, none, (.func { name := (S [100, 101, 99, 111, 100, 101]), qualname := (S [100, 101, 99, 111, 100, 101]), params := fA 20, body := .stmts (fB 20), scope := fS 20, globals := 0, closure := [], defaults := .none, kwdefaults := .none, doc := .none, pyModule := .none, annotations := none, code := .none, closureTuple := .none, builtins := 0 }), #[]⟩
noncomputable def o81_0 (p : Params) : Obj := ⟨(.type "code"), none, (.fields #[(.str (S [100, 101, 99, 111, 100, 101]) 1870), (.str (S [100, 101, 99, 111, 100, 101]) 1871), (.str (S [47, 99, 108, 97, 105, 109, 47, 99, 117, 116, 46, 112, 121]) 1872), (.int 64 0), (.int 2 0), (.int 0 0), (.int 0 0), (.int 3 0), (.ref 76), (.bool true), (.int 276 0), (.ref 77), .none, (.ref 78), (.ref 79), (.ref 80), (.int 1880 0), (.int 64 0), (.str (S [47, 99, 108, 97, 105, 109, 47, 99, 117, 116, 46, 112, 121]) 1881)]), #[]⟩
noncomputable def o82_0 (p : Params) : Obj := ⟨(.type "function"), none, (.func { name := (S [100, 101, 99, 111, 100, 101]), qualname := (S [100, 101, 99, 111, 100, 101]), params := fA 20, body := .stmts (fB 20), scope := fS 20, globals := 3, closure := [], defaults := (.ref 75), kwdefaults := .none, doc := .none, pyModule := (.str (S [99, 112, 121, 51, 49, 51, 46, 101, 109, 97, 105, 108, 46, 113, 117, 111, 112, 114, 105, 109, 105, 109, 101]) 1329), annotations := none, code := (.ref 81), closureTuple := .none, builtins := 0 }), #[]⟩
noncomputable def o83_0 (p : Params) : Obj := ⟨(.type "list"), none, (.seq #[(.int 14 1888), (.int 14 1889), (.int 4 1890), (.int 1 1891), (.int 1 1892), (.int 9 1893), (.int 0 1894), (.int 64 1895), (.int 0 1896), (.int 1342177280 1897), (.int 0 1898), (.int 0 1899), (.int 0 1900), (.int 0 1901), (.int 0 1902), (.int 17 1903), (.int 0 1904), (.int 13 1905), (.int 11 1906), (.int 9 1907), (.int 0 1908), (.int 64 1909), (.int 0 1910), (.int 1342177280 1911), (.int 0 1912), (.int 0 1913), (.int 0 1914), (.int 0 1915), (.int 0 1916), (.int 17 1917), (.int 1 1918), (.int 1 1919)] 0), #[]⟩
noncomputable def o84_0 (p : Params) : Obj := ⟨(.type "dict"), none, (.dict #[] 0), #[]⟩
noncomputable def o85_0 (p : Params) : Obj := ⟨(.type "tuple"), none, (.seq #[.none, .none] 0), #[]⟩
noncomputable def o86_0 (p : Params) : Obj := ⟨(.type "tuple"), none, (.seq #[(.int 14 0), (.int 14 0), (.int 4 0), (.int 1 0), (.int 1 0), (.int 9 0), (.int 0 0), (.int 64 0), (.int 0 0), (.int 1342177280 0), (.int 0 0), (.int 0 0), (.int 0 0), (.int 0 0), (.int 0 0), (.int 17 0), (.int 0 0), (.int 13 0), (.int 11 0), (.int 9 0), (.int 0 0), (.int 64 0), (.int 0 0), (.int 1342177280 0), (.int 0 0), (.int 0 0), (.int 0 0), (.int 0 0), (.int 0 0), (.int 17 0), (.int 1 0), (.int 1 0)] 0), #[]⟩
noncomputable def o87_0 (p : Params) : Obj := ⟨(.type "re.Pattern"), none, (.fields #[(.str (S [40, 91, 38, 126, 124, 93, 41]) 1886), (.int 32 1921), (.int 1 0), .none, .none, (.ref 86), (.int 0 0)]), #[]⟩
noncomputable def o88_0 (p : Params) : Obj := ⟨(.type "tuple"), none, (.seq #[] 0), #[]⟩
noncomputable def o89_0 (p : Params) : Obj := ⟨.none, none, (.fields #[]), #[]⟩
noncomputable def o90_0 (p : Params) : Obj := ⟨(.type "tuple"), none, (.seq #[(.str (S [112, 97, 116]) 1926), (.str (S [83, 84, 65, 82]) 1927), (.str (S [112, 97, 114, 116, 115]) 1928)] 0), #[]⟩
noncomputable def o91_0 (p : Params) : Obj := ⟨(.type "tuple"), none, (.seq #[] 0), #[]⟩
noncomputable def o92_0 (p : Params) : Obj := ⟨.none, none, (.func { name := (S [116, 114, 97, 110, 115, 108, 97, 116, 101]), qualname := (S [116, 114, 97, 110, 115, 108, 97, 116, 101]), params := fA 23, body := .stmts (fB 23), scope := fS 23, globals := 0, closure := [], defaults := .none, kwdefaults := .none, doc := .none, pyModule := .none, annotations := none, code := .none, closureTuple := .none, builtins := 0 }), #[]⟩
noncomputable def o93_0 (p : Params) : Obj := ⟨(.type "code"), none, (.fields #[(.str (S [116, 114, 97, 110, 115, 108, 97, 116, 101]) 1923), (.str (S [116, 114, 97, 110, 115, 108, 97, 116, 101]) 1924), (.str (S [47, 99, 108, 97, 105, 109, 47, 99, 117, 116, 46, 112, 121]) 1925), (.int 96 0), (.int 1 0), (.int 0 0), (.int 0 0), (.int 3 0), (.ref 88), (.bool true), (.int 276 0), (.ref 89), .none, (.ref 90), (.ref 91), (.ref 92), (.int 1929 0), (.int 96 0), (.str (S [47, 99, 108, 97, 105, 109, 47, 99, 117, 116, 46, 112, 121]) 1930)]), #[]⟩
noncomputable def o94_0 (p : Params) : Obj := ⟨(.type "function"), none, (.func { name := (S [116, 114, 97, 110, 115, 108, 97, 116, 101]), qualname := (S [116, 114, 97, 110, 115, 108, 97, 116, 101]), params := fA 23, body := .stmts (fB 23), scope := fS 23, globals := 3, closure := [], defaults := .none, kwdefaults := .none, doc := .none, pyModule := (.str (S [99, 112, 121, 51, 49, 51, 46, 102, 110, 109, 97, 116, 99, 104]) 1883), annotations := none, code := (.ref 93), closureTuple := .none, builtins := 0 }), #[]⟩
noncomputable def s9_t (p : Params) : BT := (.node (boot_o_0 p) (.node (o1_1 p) (.node (o3_9 p) (.node (boot_o_7 p) (.node (o15_0 p) (.node (o31_0 p) (.node (o63_1 p) .nil .nil) .nil) (.node (o47_0 p) (.node (o79_0 p) .nil .nil) .nil)) (.node (o23_0 p) (.node (o39_2 p) (.node (o71_0 p) .nil .nil) .nil) (.node (o55_0 p) (.node (o87_0 p) .nil .nil) .nil))) (.node (o11_1 p) (.node (o19_0 p) (.node (o35_0 p) (.node (o67_0 p) .nil .nil) .nil) (.node (o51_0 p) (.node (o83_0 p) .nil .nil) .nil)) (.node (o27_0 p) (.node (o43_0 p) (.node (o75_0 p) .nil .nil) .nil) (.node (o59_0 p) (.node (o91_0 p) .nil .nil) .nil)))) (.node (boot_o_5 p) (.node (boot_o_9 p) (.node (o17_0 p) (.node (o33_0 p) (.node (o65_0 p) .nil .nil) .nil) (.node (o49_0 p) (.node (o81_0 p) .nil .nil) .nil)) (.node (o25_0 p) (.node (o41_1 p) (.node (o73_0 p) .nil .nil) .nil) (.node (o57_0 p) (.node (o89_0 p) .nil .nil) .nil))) (.node (o13_0 p) (.node (o21_0 p) (.node (o37_0 p) (.node (o69_0 p) .nil .nil) .nil) (.node (o53_0 p) (.node (o85_0 p) .nil .nil) .nil)) (.node (o29_2 p) (.node (o45_0 p) (.node (o77_0 p) .nil .nil) .nil) (.node (o61_0 p) (.node (o93_0 p) .nil .nil) .nil))))) (.node (o2_1 p) (.node (boot_o_4 p) (.node (boot_o_8 p) (.node (o16_0 p) (.node (o32_0 p) (.node (o64_0 p) .nil .nil) .nil) (.node (o48_0 p) (.node (o80_0 p) .nil .nil) .nil)) (.node (o24_0 p) (.node (o40_0 p) (.node (o72_0 p) .nil .nil) .nil) (.node (o56_0 p) (.node (o88_0 p) .nil .nil) .nil))) (.node (o12_0 p) (.node (o20_0 p) (.node (o36_0 p) (.node (o68_0 p) .nil .nil) .nil) (.node (o52_0 p) (.node (o84_0 p) .nil .nil) .nil)) (.node (o28_0 p) (.node (o44_0 p) (.node (o76_0 p) .nil .nil) .nil) (.node (o60_0 p) (.node (o92_0 p) .nil .nil) .nil)))) (.node (boot_o_6 p) (.node (boot_o_10 p) (.node (o18_0 p) (.node (o34_0 p) (.node (o66_0 p) .nil .nil) .nil) (.node (o50_0 p) (.node (o82_0 p) .nil .nil) .nil)) (.node (o26_0 p) (.node (o42_0 p) (.node (o74_0 p) .nil .nil) .nil) (.node (o58_0 p) (.node (o90_0 p) .nil .nil) .nil))) (.node (o14_0 p) (.node (o22_0 p) (.node (o38_0 p) (.node (o70_0 p) .nil .nil) .nil) (.node (o54_0 p) (.node (o86_0 p) .nil .nil) .nil)) (.node (o30_0 p) (.node (o46_0 p) (.node (o78_0 p) .nil .nil) .nil) (.node (o62_0 p) (.node (o94_0 p) .nil .nil) .nil))))))
noncomputable def s9_ (w : World) (os : OsState) : SharedT := ⟨s9_t w.params, 95, { known := 0 }, ⟨[]⟩, ⟨0, 0, 0, 0⟩, 1934, os⟩
noncomputable def o3_10 (p : Params) : Obj := ⟨(.type "dict"), none, (.dict #[⟨PyData.keyHash p (S [95, 95, 110, 97, 109, 101, 95, 95]), (.str (S [95, 95, 110, 97, 109, 101, 95, 95]) 165), (.str (S [114, 101]) 1932)⟩, ⟨PyData.keyHash p (S [95, 95, 100, 111, 99, 95, 95]), (.str (S [95, 95, 100, 111, 99, 95, 95]) 166), .none⟩, ⟨PyData.keyHash p (S [95, 95, 112, 97, 99, 107, 97, 103, 101, 95, 95]), (.str (S [95, 95, 112, 97, 99, 107, 97, 103, 101, 95, 95]) 167), .none⟩, ⟨PyData.keyHash p (S [95, 95, 108, 111, 97, 100, 101, 114, 95, 95]), (.str (S [95, 95, 108, 111, 97, 100, 101, 114, 95, 95]) 168), (.builtin "__main__.__loader__#opaque")⟩, ⟨PyData.keyHash p (S [95, 95, 115, 112, 101, 99, 95, 95]), (.str (S [95, 95, 115, 112, 101, 99, 95, 95]) 169), .none⟩, ⟨PyData.keyHash p (S [95, 95, 97, 110, 110, 111, 116, 97, 116, 105, 111, 110, 115, 95, 95]), (.str (S [95, 95, 97, 110, 110, 111, 116, 97, 116, 105, 111, 110, 115, 95, 95]) 170), (.ref 6)⟩, ⟨PyData.keyHash p (S [95, 95, 98, 117, 105, 108, 116, 105, 110, 115, 95, 95]), (.str (S [95, 95, 98, 117, 105, 108, 116, 105, 110, 115, 95, 95]) 171), (.ref 4)⟩, ⟨PyData.keyHash p (S [95, 95, 102, 105, 108, 101, 95, 95]), (.str (S [95, 95, 102, 105, 108, 101, 95, 95]) 173), (.str (S [47, 99, 108, 97, 105, 109, 47, 99, 117, 116, 46, 112, 121]) 172)⟩, ⟨PyData.keyHash p (S [95, 95, 99, 97, 99, 104, 101, 100, 95, 95]), (.str (S [95, 95, 99, 97, 99, 104, 101, 100, 95, 95]) 174), .none⟩, ⟨PyData.keyHash p (S [95, 115, 114, 101]), (.str (S [95, 115, 114, 101]) 275), (.ref 12)⟩, ⟨PyData.keyHash p (S [67, 82, 76, 70]), (.str (S [67, 82, 76, 70]) 283), (.str (S [13, 10]) 282)⟩, ⟨PyData.keyHash p (S [78, 76]), (.str (S [78, 76]) 285), (.str (S [10]) 284)⟩, ⟨PyData.keyHash p (S [95, 81, 85, 79, 80, 82, 73, 95, 77, 65, 80]), (.str (S [95, 81, 85, 79, 80, 82, 73, 95, 77, 65, 80]) 1313), (.ref 34)⟩, ⟨PyData.keyHash p (S [95, 81, 85, 79, 80, 82, 73, 95, 72, 69, 65, 68, 69, 82, 95, 77, 65, 80]), (.str (S [95, 81, 85, 79, 80, 82, 73, 95, 72, 69, 65, 68, 69, 82, 95, 77, 65, 80]) 1314), (.ref 39)⟩, ⟨PyData.keyHash p (S [95, 81, 85, 79, 80, 82, 73, 95, 66, 79, 68, 89, 95, 77, 65, 80]), (.str (S [95, 81, 85, 79, 80, 82, 73, 95, 66, 79, 68, 89, 95, 77, 65, 80]) 1315), (.ref 41)⟩, ⟨PyData.keyHash p (S [97, 115, 99, 105, 105, 95, 108, 111, 119, 101, 114, 99, 97, 115, 101]), (.str (S [97, 115, 99, 105, 105, 95, 108, 111, 119, 101, 114, 99, 97, 115, 101]) 1317), (.str (S [97, 98, 99, 100, 101, 102, 103, 104, 105, 106, 107, 108, 109, 110, 111, 112, 113, 114, 115, 116, 117, 118, 119, 120, 121, 122]) 1316)⟩, ⟨PyData.keyHash p (S [97, 115, 99, 105, 105, 95, 117, 112, 112, 101, 114, 99, 97, 115, 101]), (.str (S [97, 115, 99, 105, 105, 95, 117, 112, 112, 101, 114, 99, 97, 115, 101]) 1319), (.str (S [65, 66, 67, 68, 69, 70, 71, 72, 73, 74, 75, 76, 77, 78, 79, 80, 81, 82, 83, 84, 85, 86, 87, 88, 89, 90]) 1318)⟩, ⟨PyData.keyHash p (S [97, 115, 99, 105, 105, 95, 108, 101, 116, 116, 101, 114, 115]), (.str (S [97, 115, 99, 105, 105, 95, 108, 101, 116, 116, 101, 114, 115]) 1321), (.str (S [97, 98, 99, 100, 101, 102, 103, 104, 105, 106, 107, 108, 109, 110, 111, 112, 113, 114, 115, 116, 117, 118, 119, 120, 121, 122, 65, 66, 67, 68, 69, 70, 71, 72, 73, 74, 75, 76, 77, 78, 79, 80, 81, 82, 83, 84, 85, 86, 87, 88, 89, 90]) 1320)⟩, ⟨PyData.keyHash p (S [100, 105, 103, 105, 116, 115]), (.str (S [100, 105, 103, 105, 116, 115]) 1323), (.str (S [48, 49, 50, 51, 52, 53, 54, 55, 56, 57]) 1322)⟩, ⟨PyData.keyHash p (S [104, 101, 120, 100, 105, 103, 105, 116, 115]), (.str (S [104, 101, 120, 100, 105, 103, 105, 116, 115]) 1328), (.str (S [48, 49, 50, 51, 52, 53, 54, 55, 56, 57, 97, 98, 99, 100, 101, 102, 65, 66, 67, 68, 69, 70]) 1327)⟩, ⟨PyData.keyHash p (S [117, 110, 113, 117, 111, 116, 101]), (.str (S [117, 110, 113, 117, 111, 116, 101]) 1834), (.ref 54)⟩, ⟨PyData.keyHash p (S [113, 117, 111, 116, 101]), (.str (S [113, 117, 111, 116, 101]) 1841), (.ref 61)⟩, ⟨PyData.keyHash p (S [95, 81, 85, 79, 80, 82, 73, 95, 66, 79, 68, 89, 95, 69, 78, 67, 79, 68, 69, 95, 77, 65, 80]), (.str (S [95, 81, 85, 79, 80, 82, 73, 95, 66, 79, 68, 89, 95, 69, 78, 67, 79, 68, 69, 95, 77, 65, 80]) 1842), (.ref 63)⟩, ⟨PyData.keyHash p (S [98, 111, 100, 121, 95, 101, 110, 99, 111, 100, 101]), (.str (S [98, 111, 100, 121, 95, 101, 110, 99, 111, 100, 101]) 1869), (.ref 74)⟩, ⟨PyData.keyHash p (S [100, 101, 99, 111, 100, 101]), (.str (S [100, 101, 99, 111, 100, 101]) 1882), (.ref 82)⟩, ⟨PyData.keyHash p (S [95, 116, 119, 105, 110, 95, 114, 101, 95, 49]), (.str (S [95, 116, 119, 105, 110, 95, 114, 101, 95, 49]) 1922), (.ref 87)⟩, ⟨PyData.keyHash p (S [116, 114, 97, 110, 115, 108, 97, 116, 101]), (.str (S [116, 114, 97, 110, 115, 108, 97, 116, 101]) 1931), (.ref 94)⟩, ⟨PyData.keyHash p (S [95, 115, 112, 101, 99, 105, 97, 108, 95, 99, 104, 97, 114, 115, 95, 109, 97, 112]), (.str (S [95, 115, 112, 101, 99, 105, 97, 108, 95, 99, 104, 97, 114, 115, 95, 109, 97, 112]) 2079), (.ref 96)⟩] 30), #[]⟩
noncomputable def o95_0 (p : Params) : Obj := ⟨(.type "bytes_iterator"), none, (.fields #[.none, (.int 24 0)]), #[]⟩
noncomputable def o96_0 (p : Params) : Obj := ⟨(.type "dict"), none, (.dict #[⟨40, (.int 40 1935), (.str (S [92, 40]) 1939)⟩, ⟨41, (.int 41 1941), (.str (S [92, 41]) 1945)⟩, ⟨91, (.int 91 1947), (.str (S [92, 91]) 1951)⟩, ⟨93, (.int 93 1953), (.str (S [92, 93]) 1957)⟩, ⟨123, (.int 123 1959), (.str (S [92, 123]) 1963)⟩, ⟨125, (.int 125 1965), (.str (S [92, 125]) 1969)⟩, ⟨63, (.int 63 1971), (.str (S [92, 63]) 1975)⟩, ⟨42, (.int 42 1977), (.str (S [92, 42]) 1981)⟩, ⟨43, (.int 43 1983), (.str (S [92, 43]) 1987)⟩, ⟨45, (.int 45 1989), (.str (S [92, 45]) 1993)⟩, ⟨124, (.int 124 1995), (.str (S [92, 124]) 1999)⟩, ⟨94, (.int 94 2001), (.str (S [92, 94]) 2005)⟩, ⟨36, (.int 36 2007), (.str (S [92, 36]) 2011)⟩, ⟨92, (.int 92 2013), (.str (S [92, 92]) 2017)⟩, ⟨46, (.int 46 2019), (.str (S [92, 46]) 2023)⟩, ⟨38, (.int 38 2025), (.str (S [92, 38]) 2029)⟩, ⟨126, (.int 126 2031), (.str (S [92, 126]) 2035)⟩, ⟨35, (.int 35 2037), (.str (S [92, 35]) 2041)⟩, ⟨32, (.int 32 2043), (.str (S [92, 32]) 2047)⟩, ⟨9, (.int 9 2049), (.str (S [92, 9]) 2053)⟩, ⟨10, (.int 10 2055), (.str (S [92, 10]) 2059)⟩, ⟨13, (.int 13 2061), (.str (S [92, 13]) 2065)⟩, ⟨11, (.int 11 2067), (.str (S [92, 11]) 2071)⟩, ⟨12, (.int 12 2073), (.str (S [92, 12]) 2077)⟩] 24), #[]⟩
noncomputable def o97_0 (p : Params) : Obj := ⟨(.type "dict"), none, (.dict #[] 2), #[]⟩
noncomputable def o98_0 (p : Params) : Obj := ⟨(.type "tuple"), none, (.seq #[] 0), #[]⟩
noncomputable def o99_0 (p : Params) : Obj := ⟨(.type "StopIteration"), none, (.fields #[(.ref 98), .none, .none, .none, (.bool false), .none]), #[]⟩
noncomputable def s10_t (p : Params) : BT := (.node (boot_o_0 p) (.node (o1_1 p) (.node (o3_10 p) (.node (boot_o_7 p) (.node (o15_0 p) (.node (o31_0 p) (.node (o63_1 p) .nil .nil) (.node (o95_0 p) .nil .nil)) (.node (o47_0 p) (.node (o79_0 p) .nil .nil) .nil)) (.node (o23_0 p) (.node (o39_2 p) (.node (o71_0 p) .nil .nil) .nil) (.node (o55_0 p) (.node (o87_0 p) .nil .nil) .nil))) (.node (o11_1 p) (.node (o19_0 p) (.node (o35_0 p) (.node (o67_0 p) .nil .nil) (.node (o99_0 p) .nil .nil)) (.node (o51_0 p) (.node (o83_0 p) .nil .nil) .nil)) (.node (o27_0 p) (.node (o43_0 p) (.node (o75_0 p) .nil .nil) .nil) (.node (o59_0 p) (.node (o91_0 p) .nil .nil) .nil)))) (.node (boot_o_5 p) (.node (boot_o_9 p) (.node (o17_0 p) (.node (o33_0 p) (.node (o65_0 p) .nil .nil) (.node (o97_0 p) .nil .nil)) (.node (o49_0 p) (.node (o81_0 p) .nil .nil) .nil)) (.node (o25_0 p) (.node (o41_1 p) (.node (o73_0 p) .nil .nil) .nil) (.node (o57_0 p) (.node (o89_0 p) .nil .nil) .nil))) (.node (o13_0 p) (.node (o21_0 p) (.node (o37_0 p) (.node (o69_0 p) .nil .nil) .nil) (.node (o53_0 p) (.node (o85_0 p) .nil .nil) .nil)) (.node (o29_2 p) (.node (o45_0 p) (.node (o77_0 p) .nil .nil) .nil) (.node (o61_0 p) (.node (o93_0 p) .nil .nil) .nil))))) (.node (o2_1 p) (.node (boot_o_4 p) (.node (boot_o_8 p) (.node (o16_0 p) (.node (o32_0 p) (.node (o64_0 p) .nil .nil) (.node (o96_0 p) .nil .nil)) (.node (o48_0 p) (.node (o80_0 p) .nil .nil) .nil)) (.node (o24_0 p) (.node (o40_0 p) (.node (o72_0 p) .nil .nil) .nil) (.node (o56_0 p) (.node (o88_0 p) .nil .nil) .nil))) (.node (o12_0 p) (.node (o20_0 p) (.node (o36_0 p) (.node (o68_0 p) .nil .nil) .nil) (.node (o52_0 p) (.node (o84_0 p) .nil .nil) .nil)) (.node (o28_0 p) (.node (o44_0 p) (.node (o76_0 p) .nil .nil) .nil) (.node (o60_0 p) (.node (o92_0 p) .nil .nil) .nil)))) (.node (boot_o_6 p) (.node (boot_o_10 p) (.node (o18_0 p) (.node (o34_0 p) (.node (o66_0 p) .nil .nil) (.node (o98_0 p) .nil .nil)) (.node (o50_0 p) (.node (o82_0 p) .nil .nil) .nil)) (.node (o26_0 p) (.node (o42_0 p) (.node (o74_0 p) .nil .nil) .nil) (.node (o58_0 p) (.node (o90_0 p) .nil .nil) .nil))) (.node (o14_0 p) (.node (o22_0 p) (.node (o38_0 p) (.node (o70_0 p) .nil .nil) .nil) (.node (o54_0 p) (.node (o86_0 p) .nil .nil) .nil)) (.node (o30_0 p) (.node (o46_0 p) (.node (o78_0 p) .nil .nil) .nil) (.node (o62_0 p) (.node (o94_0 p) .nil .nil) .nil))))))
noncomputable def s10_ (w : World) (os : OsState) : SharedT := ⟨s10_t w.params, 100, { known := 0 }, ⟨[]⟩, ⟨0, 0, 0, 0⟩, 2080, os⟩
noncomputable def o3_11 (p : Params) : Obj := ⟨(.type "dict"), none, (.dict #[⟨PyData.keyHash p (S [95, 95, 110, 97, 109, 101, 95, 95]), (.str (S [95, 95, 110, 97, 109, 101, 95, 95]) 165), (.str (S [108, 97, 119, 95, 105, 106, 48, 48, 52, 57, 95, 48, 49]) 2121)⟩, ⟨PyData.keyHash p (S [95, 95, 100, 111, 99, 95, 95]), (.str (S [95, 95, 100, 111, 99, 95, 95]) 166), .none⟩, ⟨PyData.keyHash p (S [95, 95, 112, 97, 99, 107, 97, 103, 101, 95, 95]), (.str (S [95, 95, 112, 97, 99, 107, 97, 103, 101, 95, 95]) 167), .none⟩, ⟨PyData.keyHash p (S [95, 95, 108, 111, 97, 100, 101, 114, 95, 95]), (.str (S [95, 95, 108, 111, 97, 100, 101, 114, 95, 95]) 168), (.builtin "__main__.__loader__#opaque")⟩, ⟨PyData.keyHash p (S [95, 95, 115, 112, 101, 99, 95, 95]), (.str (S [95, 95, 115, 112, 101, 99, 95, 95]) 169), .none⟩, ⟨PyData.keyHash p (S [95, 95, 97, 110, 110, 111, 116, 97, 116, 105, 111, 110, 115, 95, 95]), (.str (S [95, 95, 97, 110, 110, 111, 116, 97, 116, 105, 111, 110, 115, 95, 95]) 170), (.ref 6)⟩, ⟨PyData.keyHash p (S [95, 95, 98, 117, 105, 108, 116, 105, 110, 115, 95, 95]), (.str (S [95, 95, 98, 117, 105, 108, 116, 105, 110, 115, 95, 95]) 171), (.ref 4)⟩, ⟨PyData.keyHash p (S [95, 95, 102, 105, 108, 101, 95, 95]), (.str (S [95, 95, 102, 105, 108, 101, 95, 95]) 173), (.str (S [47, 99, 108, 97, 105, 109, 47, 99, 117, 116, 46, 112, 121]) 172)⟩, ⟨PyData.keyHash p (S [95, 95, 99, 97, 99, 104, 101, 100, 95, 95]), (.str (S [95, 95, 99, 97, 99, 104, 101, 100, 95, 95]) 174), .none⟩, ⟨PyData.keyHash p (S [95, 115, 114, 101]), (.str (S [95, 115, 114, 101]) 275), (.ref 12)⟩, ⟨PyData.keyHash p (S [67, 82, 76, 70]), (.str (S [67, 82, 76, 70]) 283), (.str (S [13, 10]) 282)⟩, ⟨PyData.keyHash p (S [78, 76]), (.str (S [78, 76]) 285), (.str (S [10]) 284)⟩, ⟨PyData.keyHash p (S [95, 81, 85, 79, 80, 82, 73, 95, 77, 65, 80]), (.str (S [95, 81, 85, 79, 80, 82, 73, 95, 77, 65, 80]) 1313), (.ref 34)⟩, ⟨PyData.keyHash p (S [95, 81, 85, 79, 80, 82, 73, 95, 72, 69, 65, 68, 69, 82, 95, 77, 65, 80]), (.str (S [95, 81, 85, 79, 80, 82, 73, 95, 72, 69, 65, 68, 69, 82, 95, 77, 65, 80]) 1314), (.ref 39)⟩, ⟨PyData.keyHash p (S [95, 81, 85, 79, 80, 82, 73, 95, 66, 79, 68, 89, 95, 77, 65, 80]), (.str (S [95, 81, 85, 79, 80, 82, 73, 95, 66, 79, 68, 89, 95, 77, 65, 80]) 1315), (.ref 41)⟩, ⟨PyData.keyHash p (S [97, 115, 99, 105, 105, 95, 108, 111, 119, 101, 114, 99, 97, 115, 101]), (.str (S [97, 115, 99, 105, 105, 95, 108, 111, 119, 101, 114, 99, 97, 115, 101]) 1317), (.str (S [97, 98, 99, 100, 101, 102, 103, 104, 105, 106, 107, 108, 109, 110, 111, 112, 113, 114, 115, 116, 117, 118, 119, 120, 121, 122]) 1316)⟩, ⟨PyData.keyHash p (S [97, 115, 99, 105, 105, 95, 117, 112, 112, 101, 114, 99, 97, 115, 101]), (.str (S [97, 115, 99, 105, 105, 95, 117, 112, 112, 101, 114, 99, 97, 115, 101]) 1319), (.str (S [65, 66, 67, 68, 69, 70, 71, 72, 73, 74, 75, 76, 77, 78, 79, 80, 81, 82, 83, 84, 85, 86, 87, 88, 89, 90]) 1318)⟩, ⟨PyData.keyHash p (S [97, 115, 99, 105, 105, 95, 108, 101, 116, 116, 101, 114, 115]), (.str (S [97, 115, 99, 105, 105, 95, 108, 101, 116, 116, 101, 114, 115]) 1321), (.str (S [97, 98, 99, 100, 101, 102, 103, 104, 105, 106, 107, 108, 109, 110, 111, 112, 113, 114, 115, 116, 117, 118, 119, 120, 121, 122, 65, 66, 67, 68, 69, 70, 71, 72, 73, 74, 75, 76, 77, 78, 79, 80, 81, 82, 83, 84, 85, 86, 87, 88, 89, 90]) 1320)⟩, ⟨PyData.keyHash p (S [100, 105, 103, 105, 116, 115]), (.str (S [100, 105, 103, 105, 116, 115]) 1323), (.str (S [48, 49, 50, 51, 52, 53, 54, 55, 56, 57]) 1322)⟩, ⟨PyData.keyHash p (S [104, 101, 120, 100, 105, 103, 105, 116, 115]), (.str (S [104, 101, 120, 100, 105, 103, 105, 116, 115]) 1328), (.str (S [48, 49, 50, 51, 52, 53, 54, 55, 56, 57, 97, 98, 99, 100, 101, 102, 65, 66, 67, 68, 69, 70]) 1327)⟩, ⟨PyData.keyHash p (S [117, 110, 113, 117, 111, 116, 101]), (.str (S [117, 110, 113, 117, 111, 116, 101]) 1834), (.ref 54)⟩, ⟨PyData.keyHash p (S [113, 117, 111, 116, 101]), (.str (S [113, 117, 111, 116, 101]) 1841), (.ref 61)⟩, ⟨PyData.keyHash p (S [95, 81, 85, 79, 80, 82, 73, 95, 66, 79, 68, 89, 95, 69, 78, 67, 79, 68, 69, 95, 77, 65, 80]), (.str (S [95, 81, 85, 79, 80, 82, 73, 95, 66, 79, 68, 89, 95, 69, 78, 67, 79, 68, 69, 95, 77, 65, 80]) 1842), (.ref 63)⟩, ⟨PyData.keyHash p (S [98, 111, 100, 121, 95, 101, 110, 99, 111, 100, 101]), (.str (S [98, 111, 100, 121, 95, 101, 110, 99, 111, 100, 101]) 1869), (.ref 74)⟩, ⟨PyData.keyHash p (S [100, 101, 99, 111, 100, 101]), (.str (S [100, 101, 99, 111, 100, 101]) 1882), (.ref 82)⟩, ⟨PyData.keyHash p (S [95, 116, 119, 105, 110, 95, 114, 101, 95, 49]), (.str (S [95, 116, 119, 105, 110, 95, 114, 101, 95, 49]) 1922), (.ref 87)⟩, ⟨PyData.keyHash p (S [116, 114, 97, 110, 115, 108, 97, 116, 101]), (.str (S [116, 114, 97, 110, 115, 108, 97, 116, 101]) 1931), (.ref 94)⟩, ⟨PyData.keyHash p (S [95, 115, 112, 101, 99, 105, 97, 108, 95, 99, 104, 97, 114, 115, 95, 109, 97, 112]), (.str (S [95, 115, 112, 101, 99, 105, 97, 108, 95, 99, 104, 97, 114, 115, 95, 109, 97, 112]) 2079), (.ref 96)⟩, ⟨PyData.keyHash p (S [101, 115, 99, 97, 112, 101]), (.str (S [101, 115, 99, 97, 112, 101]) 2086), (.ref 106)⟩, ⟨PyData.keyHash p (S [95, 116, 114, 97, 110, 115, 108, 97, 116, 101]), (.str (S [95, 116, 114, 97, 110, 115, 108, 97, 116, 101]) 2107), (.ref 113)⟩, ⟨PyData.keyHash p (S [95, 106, 111, 105, 110, 95, 116, 114, 97, 110, 115, 108, 97, 116, 101, 100, 95, 112, 97, 114, 116, 115]), (.str (S [95, 106, 111, 105, 110, 95, 116, 114, 97, 110, 115, 108, 97, 116, 101, 100, 95, 112, 97, 114, 116, 115]) 2120), (.ref 120)⟩, ⟨PyData.keyHash p (S [95, 108, 97, 119, 95, 104, 97, 108, 102]), (.str (S [95, 108, 97, 119, 95, 104, 97, 108, 102]) 2128), (.ref 125)⟩, ⟨PyData.keyHash p (S [95, 108, 97, 119, 95, 98, 117, 105, 108, 116]), (.str (S [95, 108, 97, 119, 95, 98, 117, 105, 108, 116]) 2134), (.ref 130)⟩, ⟨PyData.keyHash p (S [95, 108, 97, 119, 95, 114, 101, 97, 100]), (.str (S [95, 108, 97, 119, 95, 114, 101, 97, 100]) 2140), (.ref 135)⟩, ⟨PyData.keyHash p (S [95, 108, 97, 119, 95, 97, 116]), (.str (S [95, 108, 97, 119, 95, 97, 116]) 2146), (.ref 140)⟩, ⟨PyData.keyHash p (S [95, 108, 97, 119, 95, 115, 104, 97, 114, 101, 115]), (.str (S [95, 108, 97, 119, 95, 115, 104, 97, 114, 101, 115]) 2159), (.ref 147)⟩, ⟨PyData.keyHash p (S [95, 108, 97, 119, 95, 102, 105, 116, 115]), (.str (S [95, 108, 97, 119, 95, 102, 105, 116, 115]) 2173), (.ref 154)⟩, ⟨PyData.keyHash p (S [95, 108, 97, 119, 95, 116, 111, 108, 100]), (.str (S [95, 108, 97, 119, 95, 116, 111, 108, 100]) 2179), (.ref 159)⟩, ⟨PyData.keyHash p (S [108, 97, 119]), (.str (S [108, 97, 119]) 2185), (.ref 164)⟩] 41), #[]⟩
noncomputable def o29_3 (p : Params) : Obj := ⟨.none, none, (.fields #[(.int 18 0), (.int 0 0), (.ref 53), (.int 20 0), (.int 0 0), (.ref 60), (.int 26 0), (.int 0 0), (.ref 73), (.int 64 0), (.int 0 0), (.ref 81), (.int 96 0), (.int 0 0), (.ref 93), (.int 102 0), (.int 0 0), (.ref 105), (.int 109 0), (.int 0 0), (.ref 112), (.int 171 0), (.int 0 0), (.ref 119), (.int 199 0), (.int 0 0), (.ref 124), (.int 212 0), (.int 0 0), (.ref 129), (.int 248 0), (.int 0 0), (.ref 134), (.int 292 0), (.int 0 0), (.ref 139), (.int 300 0), (.int 0 0), (.ref 146), (.int 319 0), (.int 0 0), (.ref 153), (.int 328 0), (.int 0 0), (.ref 158), (.int 347 0), (.int 0 0), (.ref 163)]), #[]⟩
noncomputable def o100_0 (p : Params) : Obj := ⟨(.type "tuple"), none, (.seq #[] 0), #[]⟩
noncomputable def o101_0 (p : Params) : Obj := ⟨.none, none, (.fields #[]), #[]⟩
noncomputable def o102_0 (p : Params) : Obj := ⟨(.type "tuple"), none, (.seq #[(.str (S [112, 97, 116, 116, 101, 114, 110]) 2083)] 0), #[]⟩
noncomputable def o103_0 (p : Params) : Obj := ⟨(.type "tuple"), none, (.seq #[] 0), #[]⟩
noncomputable def o104_0 (p : Params) : Obj := ⟨.none, none, (.func { name := (S [101, 115, 99, 97, 112, 101]), qualname := (S [101, 115, 99, 97, 112, 101]), params := fA 26, body := .stmts (fB 26), scope := fS 26, globals := 0, closure := [], defaults := .none, kwdefaults := .none, doc := .none, pyModule := .none, annotations := none, code := .none, closureTuple := .none, builtins := 0 }), #[]⟩
noncomputable def o105_0 (p : Params) : Obj := ⟨(.type "code"), none, (.fields #[(.str (S [101, 115, 99, 97, 112, 101]) 2080), (.str (S [101, 115, 99, 97, 112, 101]) 2081), (.str (S [47, 99, 108, 97, 105, 109, 47, 99, 117, 116, 46, 112, 121]) 2082), (.int 102 0), (.int 1 0), (.int 0 0), (.int 0 0), (.int 3 0), (.ref 100), (.bool true), (.int 276 0), (.ref 101), .none, (.ref 102), (.ref 103), (.ref 104), (.int 2084 0), (.int 102 0), (.str (S [47, 99, 108, 97, 105, 109, 47, 99, 117, 116, 46, 112, 121]) 2085)]), #[]⟩
noncomputable def o106_0 (p : Params) : Obj := ⟨(.type "function"), none, (.func { name := (S [101, 115, 99, 97, 112, 101]), qualname := (S [101, 115, 99, 97, 112, 101]), params := fA 26, body := .stmts (fB 26), scope := fS 26, globals := 3, closure := [], defaults := .none, kwdefaults := .none, doc := .none, pyModule := (.str (S [114, 101]) 1932), annotations := none, code := (.ref 105), closureTuple := .none, builtins := 0 }), #[]⟩
noncomputable def o107_0 (p : Params) : Obj := ⟨(.type "tuple"), none, (.seq #[] 0), #[]⟩
noncomputable def o108_0 (p : Params) : Obj := ⟨.none, none, (.fields #[]), #[]⟩
noncomputable def o109_0 (p : Params) : Obj := ⟨(.type "tuple"), none, (.seq #[(.str (S [112, 97, 116]) 2092), (.str (S [83, 84, 65, 82]) 2093), (.str (S [81, 85, 69, 83, 84, 73, 79, 78, 95, 77, 65, 82, 75]) 2094), (.str (S [114, 101, 115]) 2095), (.str (S [97, 100, 100]) 2096), (.str (S [105]) 2097), (.str (S [110]) 2098), (.str (S [99]) 2099), (.str (S [106]) 2100), (.str (S [115, 116, 117, 102, 102]) 2101), (.str (S [99, 104, 117, 110, 107, 115]) 2102), (.str (S [107]) 2103), (.str (S [99, 104, 117, 110, 107]) 2104)] 0), #[]⟩
noncomputable def o110_0 (p : Params) : Obj := ⟨(.type "tuple"), none, (.seq #[] 0), #[]⟩
noncomputable def o111_0 (p : Params) : Obj := ⟨.none, none, (.func { name := (S [95, 116, 114, 97, 110, 115, 108, 97, 116, 101]), qualname := (S [95, 116, 114, 97, 110, 115, 108, 97, 116, 101]), params := fA 28, body := .stmts (fB 28), scope := fS 28, globals := 0, closure := [], defaults := .none, kwdefaults := .none, doc := .none, pyModule := .none, annotations := none, code := .none, closureTuple := .none, builtins := 0 }), #[]⟩
noncomputable def o112_0 (p : Params) : Obj := ⟨(.type "code"), none, (.fields #[(.str (S [95, 116, 114, 97, 110, 115, 108, 97, 116, 101]) 2089), (.str (S [95, 116, 114, 97, 110, 115, 108, 97, 116, 101]) 2090), (.str (S [47, 99, 108, 97, 105, 109, 47, 99, 117, 116, 46, 112, 121]) 2091), (.int 109 0), (.int 3 0), (.int 0 0), (.int 0 0), (.int 3 0), (.ref 107), (.bool true), (.int 276 0), (.ref 108), .none, (.ref 109), (.ref 110), (.ref 111), (.int 2105 0), (.int 109 0), (.str (S [47, 99, 108, 97, 105, 109, 47, 99, 117, 116, 46, 112, 121]) 2106)]), #[]⟩
noncomputable def o113_0 (p : Params) : Obj := ⟨(.type "function"), none, (.func { name := (S [95, 116, 114, 97, 110, 115, 108, 97, 116, 101]), qualname := (S [95, 116, 114, 97, 110, 115, 108, 97, 116, 101]), params := fA 28, body := .stmts (fB 28), scope := fS 28, globals := 3, closure := [], defaults := .none, kwdefaults := .none, doc := .none, pyModule := (.str (S [99, 112, 121, 51, 49, 51, 46, 102, 110, 109, 97, 116, 99, 104]) 2087), annotations := none, code := (.ref 112), closureTuple := .none, builtins := 0 }), #[]⟩
noncomputable def o114_0 (p : Params) : Obj := ⟨(.type "tuple"), none, (.seq #[] 0), #[]⟩
noncomputable def o115_0 (p : Params) : Obj := ⟨.none, none, (.fields #[]), #[]⟩
noncomputable def o116_0 (p : Params) : Obj := ⟨(.type "tuple"), none, (.seq #[(.str (S [105, 110, 112]) 2111), (.str (S [83, 84, 65, 82]) 2112), (.str (S [114, 101, 115]) 2113), (.str (S [97, 100, 100]) 2114), (.str (S [105]) 2115), (.str (S [110]) 2116), (.str (S [102, 105, 120, 101, 100]) 2117)] 0), #[]⟩
noncomputable def o117_0 (p : Params) : Obj := ⟨(.type "tuple"), none, (.seq #[] 0), #[]⟩
noncomputable def o118_0 (p : Params) : Obj := ⟨.none, none, (.func { name := (S [95, 106, 111, 105, 110, 95, 116, 114, 97, 110, 115, 108, 97, 116, 101, 100, 95, 112, 97, 114, 116, 115]), qualname := (S [95, 106, 111, 105, 110, 95, 116, 114, 97, 110, 115, 108, 97, 116, 101, 100, 95, 112, 97, 114, 116, 115]), params := fA 29, body := .stmts (fB 29), scope := fS 29, globals := 0, closure := [], defaults := .none, kwdefaults := .none, doc := .none, pyModule := .none, annotations := none, code := .none, closureTuple := .none, builtins := 0 }), #[]⟩
noncomputable def o119_0 (p : Params) : Obj := ⟨(.type "code"), none, (.fields #[(.str (S [95, 106, 111, 105, 110, 95, 116, 114, 97, 110, 115, 108, 97, 116, 101, 100, 95, 112, 97, 114, 116, 115]) 2108), (.str (S [95, 106, 111, 105, 110, 95, 116, 114, 97, 110, 115, 108, 97, 116, 101, 100, 95, 112, 97, 114, 116, 115]) 2109), (.str (S [47, 99, 108, 97, 105, 109, 47, 99, 117, 116, 46, 112, 121]) 2110), (.int 171 0), (.int 2 0), (.int 0 0), (.int 0 0), (.int 3 0), (.ref 114), (.bool true), (.int 276 0), (.ref 115), .none, (.ref 116), (.ref 117), (.ref 118), (.int 2118 0), (.int 171 0), (.str (S [47, 99, 108, 97, 105, 109, 47, 99, 117, 116, 46, 112, 121]) 2119)]), #[]⟩
noncomputable def o120_0 (p : Params) : Obj := ⟨(.type "function"), none, (.func { name := (S [95, 106, 111, 105, 110, 95, 116, 114, 97, 110, 115, 108, 97, 116, 101, 100, 95, 112, 97, 114, 116, 115]), qualname := (S [95, 106, 111, 105, 110, 95, 116, 114, 97, 110, 115, 108, 97, 116, 101, 100, 95, 112, 97, 114, 116, 115]), params := fA 29, body := .stmts (fB 29), scope := fS 29, globals := 3, closure := [], defaults := .none, kwdefaults := .none, doc := .none, pyModule := (.str (S [99, 112, 121, 51, 49, 51, 46, 102, 110, 109, 97, 116, 99, 104]) 2087), annotations := none, code := (.ref 119), closureTuple := .none, builtins := 0 }), #[]⟩
noncomputable def o121_0 (p : Params) : Obj := ⟨(.type "tuple"), none, (.seq #[] 0), #[]⟩
noncomputable def o122_0 (p : Params) : Obj := ⟨.none, none, (.fields #[]), #[]⟩
noncomputable def o123_0 (p : Params) : Obj := ⟨.none, none, (.func { name := (S [95, 108, 97, 119, 95, 104, 97, 108, 102]), qualname := (S [95, 108, 97, 119, 95, 104, 97, 108, 102]), params := fA 31, body := .stmts (fB 31), scope := fS 31, globals := 0, closure := [], defaults := .none, kwdefaults := .none, doc := .none, pyModule := .none, annotations := none, code := .none, closureTuple := .none, builtins := 0 }), #[]⟩
noncomputable def o124_0 (p : Params) : Obj := ⟨(.type "code"), none, (.fields #[(.str (S [95, 108, 97, 119, 95, 104, 97, 108, 102]) 2123), (.str (S [95, 108, 97, 119, 95, 104, 97, 108, 102]) 2124), (.str (S [47, 99, 108, 97, 105, 109, 47, 99, 117, 116, 46, 112, 121]) 2125), (.int 199 0), (.int 1 0), (.int 0 0), (.int 0 0), (.int 3 0), (.ref 121), (.bool true), (.int 276 0), (.ref 122), .none, .none, .none, (.ref 123), (.int 2126 0), (.int 199 0), (.str (S [47, 99, 108, 97, 105, 109, 47, 99, 117, 116, 46, 112, 121]) 2127)]), #[]⟩
noncomputable def o125_0 (p : Params) : Obj := ⟨(.type "function"), none, (.func { name := (S [95, 108, 97, 119, 95, 104, 97, 108, 102]), qualname := (S [95, 108, 97, 119, 95, 104, 97, 108, 102]), params := fA 31, body := .stmts (fB 31), scope := fS 31, globals := 3, closure := [], defaults := .none, kwdefaults := .none, doc := .none, pyModule := (.str (S [108, 97, 119, 95, 105, 106, 48, 48, 52, 57, 95, 48, 49]) 2121), annotations := none, code := (.ref 124), closureTuple := .none, builtins := 0 }), #[]⟩
noncomputable def o126_0 (p : Params) : Obj := ⟨(.type "tuple"), none, (.seq #[] 0), #[]⟩
noncomputable def o127_0 (p : Params) : Obj := ⟨.none, none, (.fields #[]), #[]⟩
noncomputable def o128_0 (p : Params) : Obj := ⟨.none, none, (.func { name := (S [95, 108, 97, 119, 95, 98, 117, 105, 108, 116]), qualname := (S [95, 108, 97, 119, 95, 98, 117, 105, 108, 116]), params := fA 32, body := .stmts (fB 32), scope := fS 32, globals := 0, closure := [], defaults := .none, kwdefaults := .none, doc := .none, pyModule := .none, annotations := none, code := .none, closureTuple := .none, builtins := 0 }), #[]⟩
noncomputable def o129_0 (p : Params) : Obj := ⟨(.type "code"), none, (.fields #[(.str (S [95, 108, 97, 119, 95, 98, 117, 105, 108, 116]) 2129), (.str (S [95, 108, 97, 119, 95, 98, 117, 105, 108, 116]) 2130), (.str (S [47, 99, 108, 97, 105, 109, 47, 99, 117, 116, 46, 112, 121]) 2131), (.int 212 0), (.int 1 0), (.int 0 0), (.int 0 0), (.int 3 0), (.ref 126), (.bool true), (.int 276 0), (.ref 127), .none, .none, .none, (.ref 128), (.int 2132 0), (.int 212 0), (.str (S [47, 99, 108, 97, 105, 109, 47, 99, 117, 116, 46, 112, 121]) 2133)]), #[]⟩
noncomputable def o130_0 (p : Params) : Obj := ⟨(.type "function"), none, (.func { name := (S [95, 108, 97, 119, 95, 98, 117, 105, 108, 116]), qualname := (S [95, 108, 97, 119, 95, 98, 117, 105, 108, 116]), params := fA 32, body := .stmts (fB 32), scope := fS 32, globals := 3, closure := [], defaults := .none, kwdefaults := .none, doc := .none, pyModule := (.str (S [108, 97, 119, 95, 105, 106, 48, 48, 52, 57, 95, 48, 49]) 2121), annotations := none, code := (.ref 129), closureTuple := .none, builtins := 0 }), #[]⟩
noncomputable def o131_0 (p : Params) : Obj := ⟨(.type "tuple"), none, (.seq #[] 0), #[]⟩
noncomputable def o132_0 (p : Params) : Obj := ⟨.none, none, (.fields #[]), #[]⟩
noncomputable def o133_0 (p : Params) : Obj := ⟨.none, none, (.func { name := (S [95, 108, 97, 119, 95, 114, 101, 97, 100]), qualname := (S [95, 108, 97, 119, 95, 114, 101, 97, 100]), params := fA 33, body := .stmts (fB 33), scope := fS 33, globals := 0, closure := [], defaults := .none, kwdefaults := .none, doc := .none, pyModule := .none, annotations := none, code := .none, closureTuple := .none, builtins := 0 }), #[]⟩
noncomputable def o134_0 (p : Params) : Obj := ⟨(.type "code"), none, (.fields #[(.str (S [95, 108, 97, 119, 95, 114, 101, 97, 100]) 2135), (.str (S [95, 108, 97, 119, 95, 114, 101, 97, 100]) 2136), (.str (S [47, 99, 108, 97, 105, 109, 47, 99, 117, 116, 46, 112, 121]) 2137), (.int 248 0), (.int 1 0), (.int 0 0), (.int 0 0), (.int 3 0), (.ref 131), (.bool true), (.int 276 0), (.ref 132), .none, .none, .none, (.ref 133), (.int 2138 0), (.int 248 0), (.str (S [47, 99, 108, 97, 105, 109, 47, 99, 117, 116, 46, 112, 121]) 2139)]), #[]⟩
noncomputable def o135_0 (p : Params) : Obj := ⟨(.type "function"), none, (.func { name := (S [95, 108, 97, 119, 95, 114, 101, 97, 100]), qualname := (S [95, 108, 97, 119, 95, 114, 101, 97, 100]), params := fA 33, body := .stmts (fB 33), scope := fS 33, globals := 3, closure := [], defaults := .none, kwdefaults := .none, doc := .none, pyModule := (.str (S [108, 97, 119, 95, 105, 106, 48, 48, 52, 57, 95, 48, 49]) 2121), annotations := none, code := (.ref 134), closureTuple := .none, builtins := 0 }), #[]⟩
noncomputable def o136_0 (p : Params) : Obj := ⟨(.type "tuple"), none, (.seq #[] 0), #[]⟩
noncomputable def o137_0 (p : Params) : Obj := ⟨.none, none, (.fields #[]), #[]⟩
noncomputable def o138_0 (p : Params) : Obj := ⟨.none, none, (.func { name := (S [95, 108, 97, 119, 95, 97, 116]), qualname := (S [95, 108, 97, 119, 95, 97, 116]), params := fA 34, body := .stmts (fB 34), scope := fS 34, globals := 0, closure := [], defaults := .none, kwdefaults := .none, doc := .none, pyModule := .none, annotations := none, code := .none, closureTuple := .none, builtins := 0 }), #[]⟩
noncomputable def o139_0 (p : Params) : Obj := ⟨(.type "code"), none, (.fields #[(.str (S [95, 108, 97, 119, 95, 97, 116]) 2141), (.str (S [95, 108, 97, 119, 95, 97, 116]) 2142), (.str (S [47, 99, 108, 97, 105, 109, 47, 99, 117, 116, 46, 112, 121]) 2143), (.int 292 0), (.int 3 0), (.int 0 0), (.int 0 0), (.int 3 0), (.ref 136), (.bool true), (.int 276 0), (.ref 137), .none, .none, .none, (.ref 138), (.int 2144 0), (.int 292 0), (.str (S [47, 99, 108, 97, 105, 109, 47, 99, 117, 116, 46, 112, 121]) 2145)]), #[]⟩
noncomputable def o140_0 (p : Params) : Obj := ⟨(.type "function"), none, (.func { name := (S [95, 108, 97, 119, 95, 97, 116]), qualname := (S [95, 108, 97, 119, 95, 97, 116]), params := fA 34, body := .stmts (fB 34), scope := fS 34, globals := 3, closure := [], defaults := .none, kwdefaults := .none, doc := .none, pyModule := (.str (S [108, 97, 119, 95, 105, 106, 48, 48, 52, 57, 95, 48, 49]) 2121), annotations := none, code := (.ref 139), closureTuple := .none, builtins := 0 }), #[]⟩
noncomputable def o141_0 (p : Params) : Obj := ⟨(.type "tuple"), none, (.seq #[] 0), #[]⟩
noncomputable def o142_0 (p : Params) : Obj := ⟨.none, none, (.fields #[]), #[]⟩
noncomputable def o143_0 (p : Params) : Obj := ⟨(.type "tuple"), none, (.seq #[(.str (S [114, 117, 110, 115]) 2150), (.str (S [110, 97, 109, 101]) 2151), (.str (S [97, 116]) 2152), (.str (S [115, 104, 97, 114, 101, 115]) 2153), (.str (S [114, 117, 110]) 2154), (.str (S [104, 101, 114, 101]) 2155), (.str (S [108, 97, 115, 116]) 2156)] 0), #[]⟩
noncomputable def o144_0 (p : Params) : Obj := ⟨(.type "tuple"), none, (.seq #[] 0), #[]⟩
noncomputable def o145_0 (p : Params) : Obj := ⟨.none, none, (.func { name := (S [95, 108, 97, 119, 95, 115, 104, 97, 114, 101, 115]), qualname := (S [95, 108, 97, 119, 95, 115, 104, 97, 114, 101, 115]), params := fA 35, body := .stmts (fB 35), scope := fS 35, globals := 0, closure := [], defaults := .none, kwdefaults := .none, doc := .none, pyModule := .none, annotations := none, code := .none, closureTuple := .none, builtins := 0 }), #[]⟩
noncomputable def o146_0 (p : Params) : Obj := ⟨(.type "code"), none, (.fields #[(.str (S [95, 108, 97, 119, 95, 115, 104, 97, 114, 101, 115]) 2147), (.str (S [95, 108, 97, 119, 95, 115, 104, 97, 114, 101, 115]) 2148), (.str (S [47, 99, 108, 97, 105, 109, 47, 99, 117, 116, 46, 112, 121]) 2149), (.int 300 0), (.int 2 0), (.int 0 0), (.int 0 0), (.int 3 0), (.ref 141), (.bool true), (.int 276 0), (.ref 142), .none, (.ref 143), (.ref 144), (.ref 145), (.int 2157 0), (.int 300 0), (.str (S [47, 99, 108, 97, 105, 109, 47, 99, 117, 116, 46, 112, 121]) 2158)]), #[]⟩
noncomputable def o147_0 (p : Params) : Obj := ⟨(.type "function"), none, (.func { name := (S [95, 108, 97, 119, 95, 115, 104, 97, 114, 101, 115]), qualname := (S [95, 108, 97, 119, 95, 115, 104, 97, 114, 101, 115]), params := fA 35, body := .stmts (fB 35), scope := fS 35, globals := 3, closure := [], defaults := .none, kwdefaults := .none, doc := .none, pyModule := (.str (S [108, 97, 119, 95, 105, 106, 48, 48, 52, 57, 95, 48, 49]) 2121), annotations := none, code := (.ref 146), closureTuple := .none, builtins := 0 }), #[]⟩
noncomputable def o148_0 (p : Params) : Obj := ⟨(.type "tuple"), none, (.seq #[] 0), #[]⟩
noncomputable def o149_0 (p : Params) : Obj := ⟨.none, none, (.fields #[]), #[]⟩
noncomputable def o150_0 (p : Params) : Obj := ⟨(.type "tuple"), none, (.seq #[(.str (S [114, 117, 110]) 2163), (.str (S [114, 111, 119]) 2164), (.str (S [97, 116]) 2165), (.str (S [107]) 2166), (.str (S [111, 99, 116, 101, 116]) 2167), (.str (S [101, 115, 99, 97, 112, 101, 100]) 2168), (.str (S [104, 105, 103, 104, 115]) 2169), (.str (S [108, 111, 119, 115]) 2170)] 0), #[]⟩
noncomputable def o151_0 (p : Params) : Obj := ⟨(.type "tuple"), none, (.seq #[] 0), #[]⟩
noncomputable def o152_0 (p : Params) : Obj := ⟨.none, none, (.func { name := (S [95, 108, 97, 119, 95, 102, 105, 116, 115]), qualname := (S [95, 108, 97, 119, 95, 102, 105, 116, 115]), params := fA 36, body := .stmts (fB 36), scope := fS 36, globals := 0, closure := [], defaults := .none, kwdefaults := .none, doc := .none, pyModule := .none, annotations := none, code := .none, closureTuple := .none, builtins := 0 }), #[]⟩
noncomputable def o153_0 (p : Params) : Obj := ⟨(.type "code"), none, (.fields #[(.str (S [95, 108, 97, 119, 95, 102, 105, 116, 115]) 2160), (.str (S [95, 108, 97, 119, 95, 102, 105, 116, 115]) 2161), (.str (S [47, 99, 108, 97, 105, 109, 47, 99, 117, 116, 46, 112, 121]) 2162), (.int 319 0), (.int 3 0), (.int 0 0), (.int 0 0), (.int 3 0), (.ref 148), (.bool true), (.int 276 0), (.ref 149), .none, (.ref 150), (.ref 151), (.ref 152), (.int 2171 0), (.int 319 0), (.str (S [47, 99, 108, 97, 105, 109, 47, 99, 117, 116, 46, 112, 121]) 2172)]), #[]⟩
noncomputable def o154_0 (p : Params) : Obj := ⟨(.type "function"), none, (.func { name := (S [95, 108, 97, 119, 95, 102, 105, 116, 115]), qualname := (S [95, 108, 97, 119, 95, 102, 105, 116, 115]), params := fA 36, body := .stmts (fB 36), scope := fS 36, globals := 3, closure := [], defaults := .none, kwdefaults := .none, doc := .none, pyModule := (.str (S [108, 97, 119, 95, 105, 106, 48, 48, 52, 57, 95, 48, 49]) 2121), annotations := none, code := (.ref 153), closureTuple := .none, builtins := 0 }), #[]⟩
noncomputable def o155_0 (p : Params) : Obj := ⟨(.type "tuple"), none, (.seq #[] 0), #[]⟩
noncomputable def o156_0 (p : Params) : Obj := ⟨.none, none, (.fields #[]), #[]⟩
noncomputable def o157_0 (p : Params) : Obj := ⟨.none, none, (.func { name := (S [95, 108, 97, 119, 95, 116, 111, 108, 100]), qualname := (S [95, 108, 97, 119, 95, 116, 111, 108, 100]), params := fA 37, body := .stmts (fB 37), scope := fS 37, globals := 0, closure := [], defaults := .none, kwdefaults := .none, doc := .none, pyModule := .none, annotations := none, code := .none, closureTuple := .none, builtins := 0 }), #[]⟩
noncomputable def o158_0 (p : Params) : Obj := ⟨(.type "code"), none, (.fields #[(.str (S [95, 108, 97, 119, 95, 116, 111, 108, 100]) 2174), (.str (S [95, 108, 97, 119, 95, 116, 111, 108, 100]) 2175), (.str (S [47, 99, 108, 97, 105, 109, 47, 99, 117, 116, 46, 112, 121]) 2176), (.int 328 0), (.int 2 0), (.int 0 0), (.int 0 0), (.int 3 0), (.ref 155), (.bool true), (.int 276 0), (.ref 156), .none, .none, .none, (.ref 157), (.int 2177 0), (.int 328 0), (.str (S [47, 99, 108, 97, 105, 109, 47, 99, 117, 116, 46, 112, 121]) 2178)]), #[]⟩
noncomputable def o159_0 (p : Params) : Obj := ⟨(.type "function"), none, (.func { name := (S [95, 108, 97, 119, 95, 116, 111, 108, 100]), qualname := (S [95, 108, 97, 119, 95, 116, 111, 108, 100]), params := fA 37, body := .stmts (fB 37), scope := fS 37, globals := 3, closure := [], defaults := .none, kwdefaults := .none, doc := .none, pyModule := (.str (S [108, 97, 119, 95, 105, 106, 48, 48, 52, 57, 95, 48, 49]) 2121), annotations := none, code := (.ref 158), closureTuple := .none, builtins := 0 }), #[]⟩
noncomputable def o160_0 (p : Params) : Obj := ⟨(.type "tuple"), none, (.seq #[] 0), #[]⟩
noncomputable def o161_0 (p : Params) : Obj := ⟨.none, none, (.fields #[]), #[]⟩
noncomputable def o162_0 (p : Params) : Obj := ⟨.none, none, (.func { name := (S [108, 97, 119]), qualname := (S [108, 97, 119]), params := fA 38, body := .stmts (fB 38), scope := fS 38, globals := 0, closure := [], defaults := .none, kwdefaults := .none, doc := .none, pyModule := .none, annotations := none, code := .none, closureTuple := .none, builtins := 0 }), #[]⟩
noncomputable def o163_0 (p : Params) : Obj := ⟨(.type "code"), none, (.fields #[(.str (S [108, 97, 119]) 2180), (.str (S [108, 97, 119]) 2181), (.str (S [47, 99, 108, 97, 105, 109, 47, 99, 117, 116, 46, 112, 121]) 2182), (.int 347 0), (.int 1 0), (.int 0 0), (.int 0 0), (.int 3 0), (.ref 160), (.bool true), (.int 276 0), (.ref 161), .none, .none, .none, (.ref 162), (.int 2183 0), (.int 347 0), (.str (S [47, 99, 108, 97, 105, 109, 47, 99, 117, 116, 46, 112, 121]) 2184)]), #[]⟩
noncomputable def o164_0 (p : Params) : Obj := ⟨(.type "function"), none, (.func { name := (S [108, 97, 119]), qualname := (S [108, 97, 119]), params := fA 38, body := .stmts (fB 38), scope := fS 38, globals := 3, closure := [], defaults := .none, kwdefaults := .none, doc := .none, pyModule := (.str (S [108, 97, 119, 95, 105, 106, 48, 48, 52, 57, 95, 48, 49]) 2121), annotations := none, code := (.ref 163), closureTuple := .none, builtins := 0 }), #[]⟩
noncomputable def s11_t (p : Params) : BT := (.node (boot_o_0 p) (.node (o1_1 p) (.node (o3_11 p) (.node (boot_o_7 p) (.node (o15_0 p) (.node (o31_0 p) (.node (o63_1 p) (.node (o127_0 p) .nil .nil) .nil) (.node (o95_0 p) (.node (o159_0 p) .nil .nil) .nil)) (.node (o47_0 p) (.node (o79_0 p) (.node (o143_0 p) .nil .nil) .nil) (.node (o111_0 p) .nil .nil))) (.node (o23_0 p) (.node (o39_2 p) (.node (o71_0 p) (.node (o135_0 p) .nil .nil) .nil) (.node (o103_0 p) .nil .nil)) (.node (o55_0 p) (.node (o87_0 p) (.node (o151_0 p) .nil .nil) .nil) (.node (o119_0 p) .nil .nil)))) (.node (o11_1 p) (.node (o19_0 p) (.node (o35_0 p) (.node (o67_0 p) (.node (o131_0 p) .nil .nil) .nil) (.node (o99_0 p) (.node (o163_0 p) .nil .nil) .nil)) (.node (o51_0 p) (.node (o83_0 p) (.node (o147_0 p) .nil .nil) .nil) (.node (o115_0 p) .nil .nil))) (.node (o27_0 p) (.node (o43_0 p) (.node (o75_0 p) (.node (o139_0 p) .nil .nil) .nil) (.node (o107_0 p) .nil .nil)) (.node (o59_0 p) (.node (o91_0 p) (.node (o155_0 p) .nil .nil) .nil) (.node (o123_0 p) .nil .nil))))) (.node (boot_o_5 p) (.node (boot_o_9 p) (.node (o17_0 p) (.node (o33_0 p) (.node (o65_0 p) (.node (o129_0 p) .nil .nil) .nil) (.node (o97_0 p) (.node (o161_0 p) .nil .nil) .nil)) (.node (o49_0 p) (.node (o81_0 p) (.node (o145_0 p) .nil .nil) .nil) (.node (o113_0 p) .nil .nil))) (.node (o25_0 p) (.node (o41_1 p) (.node (o73_0 p) (.node (o137_0 p) .nil .nil) .nil) (.node (o105_0 p) .nil .nil)) (.node (o57_0 p) (.node (o89_0 p) (.node (o153_0 p) .nil .nil) .nil) (.node (o121_0 p) .nil .nil)))) (.node (o13_0 p) (.node (o21_0 p) (.node (o37_0 p) (.node (o69_0 p) (.node (o133_0 p) .nil .nil) .nil) (.node (o101_0 p) .nil .nil)) (.node (o53_0 p) (.node (o85_0 p) (.node (o149_0 p) .nil .nil) .nil) (.node (o117_0 p) .nil .nil))) (.node (o29_3 p) (.node (o45_0 p) (.node (o77_0 p) (.node (o141_0 p) .nil .nil) .nil) (.node (o109_0 p) .nil .nil)) (.node (o61_0 p) (.node (o93_0 p) (.node (o157_0 p) .nil .nil) .nil) (.node (o125_0 p) .nil .nil)))))) (.node (o2_1 p) (.node (boot_o_4 p) (.node (boot_o_8 p) (.node (o16_0 p) (.node (o32_0 p) (.node (o64_0 p) (.node (o128_0 p) .nil .nil) .nil) (.node (o96_0 p) (.node (o160_0 p) .nil .nil) .nil)) (.node (o48_0 p) (.node (o80_0 p) (.node (o144_0 p) .nil .nil) .nil) (.node (o112_0 p) .nil .nil))) (.node (o24_0 p) (.node (o40_0 p) (.node (o72_0 p) (.node (o136_0 p) .nil .nil) .nil) (.node (o104_0 p) .nil .nil)) (.node (o56_0 p) (.node (o88_0 p) (.node (o152_0 p) .nil .nil) .nil) (.node (o120_0 p) .nil .nil)))) (.node (o12_0 p) (.node (o20_0 p) (.node (o36_0 p) (.node (o68_0 p) (.node (o132_0 p) .nil .nil) .nil) (.node (o100_0 p) (.node (o164_0 p) .nil .nil) .nil)) (.node (o52_0 p) (.node (o84_0 p) (.node (o148_0 p) .nil .nil) .nil) (.node (o116_0 p) .nil .nil))) (.node (o28_0 p) (.node (o44_0 p) (.node (o76_0 p) (.node (o140_0 p) .nil .nil) .nil) (.node (o108_0 p) .nil .nil)) (.node (o60_0 p) (.node (o92_0 p) (.node (o156_0 p) .nil .nil) .nil) (.node (o124_0 p) .nil .nil))))) (.node (boot_o_6 p) (.node (boot_o_10 p) (.node (o18_0 p) (.node (o34_0 p) (.node (o66_0 p) (.node (o130_0 p) .nil .nil) .nil) (.node (o98_0 p) (.node (o162_0 p) .nil .nil) .nil)) (.node (o50_0 p) (.node (o82_0 p) (.node (o146_0 p) .nil .nil) .nil) (.node (o114_0 p) .nil .nil))) (.node (o26_0 p) (.node (o42_0 p) (.node (o74_0 p) (.node (o138_0 p) .nil .nil) .nil) (.node (o106_0 p) .nil .nil)) (.node (o58_0 p) (.node (o90_0 p) (.node (o154_0 p) .nil .nil) .nil) (.node (o122_0 p) .nil .nil)))) (.node (o14_0 p) (.node (o22_0 p) (.node (o38_0 p) (.node (o70_0 p) (.node (o134_0 p) .nil .nil) .nil) (.node (o102_0 p) .nil .nil)) (.node (o54_0 p) (.node (o86_0 p) (.node (o150_0 p) .nil .nil) .nil) (.node (o118_0 p) .nil .nil))) (.node (o30_0 p) (.node (o46_0 p) (.node (o78_0 p) (.node (o142_0 p) .nil .nil) .nil) (.node (o110_0 p) .nil .nil)) (.node (o62_0 p) (.node (o94_0 p) (.node (o158_0 p) .nil .nil) .nil) (.node (o126_0 p) .nil .nil)))))))
noncomputable def s11_ (w : World) (os : OsState) : SharedT := ⟨s11_t w.params, 165, { known := 0 }, ⟨[]⟩, ⟨0, 0, 0, 0⟩, 2186, os⟩
noncomputable def hF (p : Params) : Heap := ⟨⟨[(boot_o_0 p), (o1_1 p), (o2_1 p), (o3_11 p), (boot_o_4 p), (boot_o_5 p), (boot_o_6 p), (boot_o_7 p), (boot_o_8 p), (boot_o_9 p), (boot_o_10 p), (o11_1 p), (o12_0 p), (o13_0 p), (o14_0 p), (o15_0 p), (o16_0 p), (o17_0 p), (o18_0 p), (o19_0 p), (o20_0 p), (o21_0 p), (o22_0 p), (o23_0 p), (o24_0 p), (o25_0 p), (o26_0 p), (o27_0 p), (o28_0 p), (o29_3 p), (o30_0 p), (o31_0 p), (o32_0 p), (o33_0 p), (o34_0 p), (o35_0 p), (o36_0 p), (o37_0 p), (o38_0 p), (o39_2 p), (o40_0 p), (o41_1 p), (o42_0 p), (o43_0 p), (o44_0 p), (o45_0 p), (o46_0 p), (o47_0 p), (o48_0 p), (o49_0 p), (o50_0 p), (o51_0 p), (o52_0 p), (o53_0 p), (o54_0 p), (o55_0 p), (o56_0 p), (o57_0 p), (o58_0 p), (o59_0 p), (o60_0 p), (o61_0 p), (o62_0 p), (o63_1 p), (o64_0 p), (o65_0 p), (o66_0 p), (o67_0 p), (o68_0 p), (o69_0 p), (o70_0 p), (o71_0 p), (o72_0 p), (o73_0 p), (o74_0 p), (o75_0 p), (o76_0 p), (o77_0 p), (o78_0 p), (o79_0 p), (o80_0 p), (o81_0 p), (o82_0 p), (o83_0 p), (o84_0 p), (o85_0 p), (o86_0 p), (o87_0 p), (o88_0 p), (o89_0 p), (o90_0 p), (o91_0 p), (o92_0 p), (o93_0 p), (o94_0 p), (o95_0 p), (o96_0 p), (o97_0 p), (o98_0 p), (o99_0 p), (o100_0 p), (o101_0 p), (o102_0 p), (o103_0 p), (o104_0 p), (o105_0 p), (o106_0 p), (o107_0 p), (o108_0 p), (o109_0 p), (o110_0 p), (o111_0 p), (o112_0 p), (o113_0 p), (o114_0 p), (o115_0 p), (o116_0 p), (o117_0 p), (o118_0 p), (o119_0 p), (o120_0 p), (o121_0 p), (o122_0 p), (o123_0 p), (o124_0 p), (o125_0 p), (o126_0 p), (o127_0 p), (o128_0 p), (o129_0 p), (o130_0 p), (o131_0 p), (o132_0 p), (o133_0 p), (o134_0 p), (o135_0 p), (o136_0 p), (o137_0 p), (o138_0 p), (o139_0 p), (o140_0 p), (o141_0 p), (o142_0 p), (o143_0 p), (o144_0 p), (o145_0 p), (o146_0 p), (o147_0 p), (o148_0 p), (o149_0 p), (o150_0 p), (o151_0 p), (o152_0 p), (o153_0 p), (o154_0 p), (o155_0 p), (o156_0 p), (o157_0 p), (o158_0 p), (o159_0 p), (o160_0 p), (o161_0 p), (o162_0 p), (o163_0 p), (o164_0 p)]⟩, { known := 0 }⟩
end Mine
namespace Mine
noncomputable def hEnv : Env := { scope := pw.main.scope, locals := mainNs, globals := mainNs, cells := [], code := .ref 30, frame := some 31 }
noncomputable def hC : Code := .body hb hEnv
noncomputable def hB : List Frame := [topFrame ⟨0, 0, 0, 0⟩]
noncomputable def hT (k n : Nat) (q : Pos) : Thread := ⟨(execs ((hb.drop k).take n) hEnv).wrap doneF deadEnd id id, hC, q, hB⟩
noncomputable def d0 : Drawn := ⟨0, 0, 0, 0⟩
end Mine
namespace Mine
theorem g1 (w : World) : (fun os => segRunT treeTable pw w 28 (some (.ref 6)) 1 19 (s0_ w os) (hT 0 2 ⟨0, 0, 0, 0⟩)) = fun os => some (.next, s1_ w os, hC, ⟨3, 0, 3, 2⟩) := by kernel_rfl
noncomputable abbrev gQ2 (w : World) : Prop := (fun os => PySem.W.Fast.tw10110043849684766642 PySem.W.Fast.tw14364793385576792824 pw w 28 (some (.ref 6)) 1 9552 (s1_ w os) (hT 2 1 ⟨3, 0, 3, 2⟩)) = fun os => some (.next, s2_ w os, hC, ⟨4, 0, 4, 11⟩)
theorem g2_ff (w : World) : gQ2 ((w.withFollow "special-get-raises" false).withFollow "comprehension-iter-twice" false) := by kernel_rfl
theorem g2_ft (w : World) : gQ2 ((w.withFollow "special-get-raises" false).withFollow "comprehension-iter-twice" true) := by kernel_rfl
theorem g2_tf (w : World) : gQ2 ((w.withFollow "special-get-raises" true).withFollow "comprehension-iter-twice" false) := by kernel_rfl
theorem g2_tt (w : World) : gQ2 ((w.withFollow "special-get-raises" true).withFollow "comprehension-iter-twice" true) := by kernel_rfl
theorem g2 (w : World) : (fun os => segRunT treeTable pw w 28 (some (.ref 6)) 1 9552 (s1_ w os) (hT 2 1 ⟨3, 0, 3, 2⟩)) = fun os => some (.next, s2_ w os, hC, ⟨4, 0, 4, 11⟩) := by
  rw [PySem.W.Fast.te10110043849684766642, PySem.W.Fast.te14364793385576792824]
  exact byRow2 "comprehension-iter-twice" (P := gQ2) (byRow2 "special-get-raises" (P := fun w => gQ2 (w.withFollow "comprehension-iter-twice" false)) g2_ff g2_tf) (byRow2 "special-get-raises" (P := fun w => gQ2 (w.withFollow "comprehension-iter-twice" true)) g2_ft g2_tt) w
theorem g3 (w : World) : (fun os => segRunT treeTable pw w 28 (some (.ref 6)) 1 133 (s2_ w os) (hT 3 8 ⟨4, 0, 4, 11⟩)) = fun os => some (.next, s3_ w os, hC, ⟨12, 0, 12, 8⟩) := by kernel_rfl
noncomputable abbrev gQ4 (w : World) : Prop := (fun os => PySem.W.Fast.tw10110043849684766642 PySem.W.Fast.tw14364793385576792824 pw w 28 (some (.ref 6)) 1 3077 (s3_ w os) (hT 11 1 ⟨12, 0, 12, 8⟩)) = fun os => some (.next, s4_ w os, hC, ⟨13, 9, 13, 74⟩)
theorem g4_f (w : World) : gQ4 (w.withFollow "special-get-raises" false) := by kernel_rfl
theorem g4_t (w : World) : gQ4 (w.withFollow "special-get-raises" true) := by kernel_rfl
theorem g4 (w : World) : (fun os => segRunT treeTable pw w 28 (some (.ref 6)) 1 3077 (s3_ w os) (hT 11 1 ⟨12, 0, 12, 8⟩)) = fun os => some (.next, s4_ w os, hC, ⟨13, 9, 13, 74⟩) := by
  rw [PySem.W.Fast.te10110043849684766642, PySem.W.Fast.te14364793385576792824]
  exact byRow2 "special-get-raises" (P := gQ4) g4_f g4_t w
theorem g5 (w : World) : (fun os => segRunT treeTable pw w 28 (some (.ref 6)) 1 25 (s4_ w os) (hT 12 1 ⟨13, 9, 13, 74⟩)) = fun os => some (.next, s5_ w os, hC, ⟨15, 0, 15, 28⟩) := by kernel_rfl
noncomputable abbrev gQ6 (w : World) : Prop := (fun os => PySem.W.Fast.tw10110043849684766642 PySem.W.Fast.tw14364793385576792824 pw w 28 (some (.ref 6)) 1 4303 (s5_ w os) (hT 13 1 ⟨15, 0, 15, 28⟩)) = fun os => some (.next, s6_ w os, hC, ⟨16, 9, 16, 110⟩)
theorem g6_f (w : World) : gQ6 (w.withFollow "special-get-raises" false) := by kernel_rfl
theorem g6_t (w : World) : gQ6 (w.withFollow "special-get-raises" true) := by kernel_rfl
theorem g6 (w : World) : (fun os => segRunT treeTable pw w 28 (some (.ref 6)) 1 4303 (s5_ w os) (hT 13 1 ⟨15, 0, 15, 28⟩)) = fun os => some (.next, s6_ w os, hC, ⟨16, 9, 16, 110⟩) := by
  rw [PySem.W.Fast.te10110043849684766642, PySem.W.Fast.te14364793385576792824]
  exact byRow2 "special-get-raises" (P := gQ6) g6_f g6_t w
theorem g7 (w : World) : (fun os => segRunT treeTable pw w 28 (some (.ref 6)) 1 86 (s6_ w os) (hT 14 3 ⟨16, 9, 16, 110⟩)) = fun os => some (.next, s7_ w os, hC, ⟨22, 0, 22, 23⟩) := by kernel_rfl
noncomputable abbrev gQ8 (w : World) : Prop := (fun os => PySem.W.Fast.tw10110043849684766642 PySem.W.Fast.tw14364793385576792824 pw w 28 (some (.ref 6)) 1 118 (s7_ w os) (hT 17 1 ⟨22, 0, 22, 23⟩)) = fun os => some (.next, s8_ w os, hC, ⟨23, 9, 23, 16⟩)
theorem g8_f (w : World) : gQ8 (w.withFollow "special-get-raises" false) := by kernel_rfl
theorem g8_t (w : World) : gQ8 (w.withFollow "special-get-raises" true) := by kernel_rfl
theorem g8 (w : World) : (fun os => segRunT treeTable pw w 28 (some (.ref 6)) 1 118 (s7_ w os) (hT 17 1 ⟨22, 0, 22, 23⟩)) = fun os => some (.next, s8_ w os, hC, ⟨23, 9, 23, 16⟩) := by
  rw [PySem.W.Fast.te10110043849684766642, PySem.W.Fast.te14364793385576792824]
  exact byRow2 "special-get-raises" (P := gQ8) g8_f g8_t w
theorem g9 (w : World) : (fun os => segRunT treeTable pw w 28 (some (.ref 6)) 1 220 (s8_ w os) (hT 18 7 ⟨23, 9, 23, 16⟩)) = fun os => some (.next, s9_ w os, hC, ⟨100, 0, 100, 8⟩) := by kernel_rfl
noncomputable abbrev gQ10 (w : World) : Prop := (fun os => PySem.W.Fast.tw10110043849684766642 PySem.W.Fast.tw14364793385576792824 pw w 28 (some (.ref 6)) 1 1253 (s9_ w os) (hT 25 1 ⟨100, 0, 100, 8⟩)) = fun os => some (.next, s10_ w os, hC, ⟨101, 0, 101, 18⟩)
theorem g10_ff (w : World) : gQ10 ((w.withFollow "special-get-raises" false).withFollow "comprehension-iter-twice" false) := by kernel_rfl
theorem g10_ft (w : World) : gQ10 ((w.withFollow "special-get-raises" false).withFollow "comprehension-iter-twice" true) := by kernel_rfl
theorem g10_tf (w : World) : gQ10 ((w.withFollow "special-get-raises" true).withFollow "comprehension-iter-twice" false) := by kernel_rfl
theorem g10_tt (w : World) : gQ10 ((w.withFollow "special-get-raises" true).withFollow "comprehension-iter-twice" true) := by kernel_rfl
theorem g10 (w : World) : (fun os => segRunT treeTable pw w 28 (some (.ref 6)) 1 1253 (s9_ w os) (hT 25 1 ⟨100, 0, 100, 8⟩)) = fun os => some (.next, s10_ w os, hC, ⟨101, 0, 101, 18⟩) := by
  rw [PySem.W.Fast.te10110043849684766642, PySem.W.Fast.te14364793385576792824]
  exact byRow2 "comprehension-iter-twice" (P := gQ10) (byRow2 "special-get-raises" (P := fun w => gQ10 (w.withFollow "comprehension-iter-twice" false)) g10_ff g10_tf) (byRow2 "special-get-raises" (P := fun w => gQ10 (w.withFollow "comprehension-iter-twice" true)) g10_ft g10_tt) w
theorem g11 (w : World) : (fun os => segRunT treeTable pw w 28 (some (.ref 6)) 1 351 (s10_ w os) (hT 26 13 ⟨101, 0, 101, 18⟩)) = fun os => some (.next, s11_ w os, hC, ⟨347, 0, 364, 15⟩) := by kernel_rfl
end Mine
namespace Mine
theorem hRun0 : ∀ w : World, importEnds treeTable (opening pw) w 800 (start (opening pw)).1 (start (opening pw)).2 = some ⟨he w.params, ⟨[]⟩, d0, 276, (start (opening pw)).1.os⟩ := fun w => by kernel_rfl
theorem hFence : ∀ w : World, (fun os => (fenceModules? pw ⟨he w.params, ⟨[]⟩, d0, 276, os⟩).map (fun s => (s.heap, s.gens, s.drawn, s.toks))) = fun zu => some (h0 w.params, ⟨[]⟩, d0, 276) := fun w => by kernel_rfl
theorem hOpen (N : Nat) (hN : Nat.ble 800 N = true) : ∀ w : World, (fencedOpening treeTable pw w N).map (fun s => (s.heap, s.gens, s.drawn, s.toks)) = some (h0 w.params, ⟨[]⟩, d0, 276) := open_cut hRun0 hN hFence
theorem hPre : ∀ w : World, (fun os => topGo treeTable pw w 28 (some (.ref 6)) 12 ⟨h0 w.params, ⟨[]⟩, d0, 276, os⟩ (topStub pw)) = fun os => some (⟨ha w.params, ⟨[]⟩, d0, 282, os⟩, ⟨denote treeTable hC, hC, ⟨0, 0, 0, 0⟩, hB⟩) := fun w => by kernel_rfl
theorem hBlock : ∀ w : World, (fun os => segRun treeTable pw w 28 (some (.ref 6)) 1 1 ⟨ha w.params, ⟨[]⟩, d0, 282, os⟩ (blockOf hb hEnv hC ⟨0, 0, 0, 0⟩ hB)) = fun os => some (.next, (s0_ w os).abs, hC, ⟨0, 0, 0, 0⟩) := fun w => by kernel_rfl
theorem hEnd : ∀ w : World, (fun os => topRun treeTable pw w 28 (some (.ref 6)) 2 (s11_ w os).abs ⟨doneF .next, hC, ⟨347, 0, 364, 15⟩, hB⟩) = fun os => some ⟨hF w.params, ⟨[]⟩, d0, 2186, os⟩ := fun w => by kernel_rfl
end Mine
namespace Mine
noncomputable def hK (p : Params) : Frag := [(2, o2_1 p), (3, o3_11 p), (6, boot_o_6 p), (11, o11_1 p), (12, o12_0 p), (34, o34_0 p), (39, o39_2 p), (41, o41_1 p), (48, o48_0 p), (50, o50_0 p), (51, o51_0 p), (53, o53_0 p), (54, o54_0 p), (55, o55_0 p), (57, o57_0 p), (58, o58_0 p), (60, o60_0 p), (61, o61_0 p), (63, o63_1 p), (67, o67_0 p), (68, o68_0 p), (70, o70_0 p), (71, o71_0 p), (73, o73_0 p), (74, o74_0 p), (75, o75_0 p), (76, o76_0 p), (78, o78_0 p), (79, o79_0 p), (81, o81_0 p), (82, o82_0 p), (86, o86_0 p), (87, o87_0 p), (88, o88_0 p), (90, o90_0 p), (91, o91_0 p), (93, o93_0 p), (94, o94_0 p), (96, o96_0 p), (100, o100_0 p), (102, o102_0 p), (103, o103_0 p), (105, o105_0 p), (106, o106_0 p), (107, o107_0 p), (109, o109_0 p), (110, o110_0 p), (112, o112_0 p), (113, o113_0 p), (114, o114_0 p), (116, o116_0 p), (117, o117_0 p), (119, o119_0 p), (120, o120_0 p), (121, o121_0 p), (124, o124_0 p), (125, o125_0 p), (126, o126_0 p), (129, o129_0 p), (130, o130_0 p), (131, o131_0 p), (134, o134_0 p), (135, o135_0 p), (136, o136_0 p), (139, o139_0 p), (140, o140_0 p), (141, o141_0 p), (143, o143_0 p), (144, o144_0 p), (146, o146_0 p), (147, o147_0 p), (148, o148_0 p), (150, o150_0 p), (151, o151_0 p), (153, o153_0 p), (154, o154_0 p), (155, o155_0 p), (158, o158_0 p), (159, o159_0 p), (160, o160_0 p), (163, o163_0 p), (164, o164_0 p)]

noncomputable def hAs : List Addr := [2, 3, 6, 11, 12, 34, 39, 41, 48, 50, 51, 53, 54, 55, 57, 58, 60, 61, 63, 67, 68, 70, 71, 73, 74, 75, 76, 78, 79, 81, 82, 86, 87, 88, 90, 91, 93, 94, 96, 100, 102, 103, 105, 106, 107, 109, 110, 112, 113, 114, 116, 117, 119, 120, 121, 124, 125, 126, 129, 130, 131, 134, 135, 136, 139, 140, 141, 143, 144, 146, 147, 148, 150, 151, 153, 154, 155, 158, 159, 160, 163, 164]
noncomputable def hQ : Program := { pw with main := { pw.main with body := hb.drop 38 } }
noncomputable def hLoose : List Str := (pw.main.scope.names.map (·.1)).filter fun x => !(x == Str.ofString "law")
noncomputable def hD : DefRec := match hb.drop 38 with | .FunctionDef n a b _ _ _ s _ _ q :: _ => ⟨n, a, b, s, q⟩ | _ => ⟨S [], fA 0, [], pw.main.scope, ⟨0, 0, 0, 0⟩⟩
theorem hAs_ok : ∀ P, hAs = (hK P).map (·.1) := fun P => by kernel_rfl
noncomputable abbrev hHook : Hook := kmHook hK hAs hAs_ok [108]
noncomputable abbrev hXt (s : Shared) : Bool := xlAt hQ [] s && recOk (RowW.records PySem.Challenge.rw_ij0049_01.row.toRowW) s
theorem hSize : ∀ w : World, ((h0 w.params).isNs mainGlobals && (⟨[]⟩ : Array GenState).size == 0, (h0 w.params).objs.size, (h0 w.params).nsMap mainGlobals "__annotations__") = (true, 28, some (.ref 6)) := fun w => by kernel_rfl
theorem hLooks : ∀ w : World, (fun os => ((staticsOk (importedModules pw.main.body) (h0 w.params) (hF w.params) && namesBound pw (hF w.params) && gensDone ⟨hF w.params, ⟨[]⟩, d0, 2186, os⟩ && laidKept (h0 w.params) (hF w.params)),
        openSeen hQ hLoose (importedModules pw.main.body) hXt true ⟨hF w.params, ⟨[]⟩, d0, 2186, os⟩, hHook.obs ⟨hF w.params, ⟨[]⟩, d0, 2186, os⟩)) = fun zu => (true, openGood hQ hLoose, hHook.val w) := fun w => by kernel_rfl
end Mine
namespace Mine
theorem hPiece {w : World} {a n M N : Nat} {s s' : SharedT} {r : Shared} {q q' : Pos} (h : segRunT treeTable pw w 28 (some (.ref 6)) 1 M s (hT a n q) = some (.next, s', hC, q')) (k : topRun treeTable pw w 28 (some (.ref 6)) N s'.abs (restOf (hb.drop (a + n)) hEnv hC q' hB) = some r) : topRun treeTable pw w 28 (some (.ref 6)) (M + N) s.abs (restOf (hb.drop a) hEnv hC q hB) = some r := by
  have := piece_app (l := (hb.drop a).take n) (rest := (hb.drop a).drop n) (segRun_of h) (by rw [List.drop_drop]; exact k)
  rwa [List.take_append_drop] at this
theorem hb39 : hb.drop 39 = [] := by kernel_rfl
theorem hRun (w : World) (os : OsState) : topRun treeTable pw w 28 (some (.ref 6)) (12 + (1 + (19 + (9552 + (133 + (3077 + (25 + (4303 + (86 + (118 + (220 + (1253 + (351 + 2))))))))))))) ⟨h0 w.params, ⟨[]⟩, d0, 276, os⟩ (topStub pw) = some ⟨hF w.params, ⟨[]⟩, d0, 2186, os⟩ := by
  refine go_top (congrFun (hPre w) os) (piece_block (congrFun (hBlock w) os) ?_)
  show topRun treeTable pw w 28 (some (.ref 6)) _ (s0_ w os).abs (restOf (hb.drop 0) hEnv hC ⟨0, 0, 0, 0⟩ hB) = _
  refine hPiece (congrFun (g1 w) os) (hPiece (congrFun (g2 w) os) (hPiece (congrFun (g3 w) os) (hPiece (congrFun (g4 w) os) (hPiece (congrFun (g5 w) os) (hPiece (congrFun (g6 w) os) (hPiece (congrFun (g7 w) os) (hPiece (congrFun (g8 w) os) (hPiece (congrFun (g9 w) os) (hPiece (congrFun (g10 w) os) (hPiece (congrFun (g11 w) os) ?_))))))))))
  show topRun treeTable pw w 28 (some (.ref 6)) 2 (s11_ w os).abs (restOf (hb.drop 39) hEnv hC ⟨347, 0, 364, 15⟩ hB) = _
  rw [hb39]
  exact congrFun (hEnd w) os
theorem hLeft : LeftO pw hQ hLoose hXt hHook.obs hHook.val 38378 := LeftO.of_pieces (hOpen 38378 rfl) hSize hRun rfl hLooks
theorem hDef : defOf hQ PySem.Challenge.rw_ij0049_01.row.name = some (hD, []) := by kernel_rfl
theorem hThe : PySem.Challenge.rw_ij0049_01.row.prog.theDef PySem.Challenge.rw_ij0049_01.row.name = some (hD.params, hD.body, hD.scope) := by kernel_rfl
theorem hKw : kwWritten? hD.params.kwonlyargs hD.params.kw_defaults = some [] := by kernel_rfl
theorem hSaid : PySem.Challenge.rw_ij0049_01.wellSaid = true := by kernel_rfl
theorem hOk : (chainsOk hQ && opensWell PySem.Challenge.rw_ij0049_01.row.prog && (frees PySem.Challenge.rw_ij0049_01.row.toRowW && PySem.Challenge.rw_ij0049_01.row.within.isEmpty)) = true := by kernel_rfl
theorem hBare : PySem.Challenge.rw_ij0049_01.row.prog.bare := ⟨rfl, rfl, rfl, rfl, rfl, by kernel_rfl⟩
theorem hProm : PySem.Challenge.rw_ij0049_01.row.toRowW.promised := by w_witness2
theorem head (call : WalkO hQ hLoose (XL hQ []) hHook.says PySem.Challenge.rw_ij0049_01.row.toRowW hD [] fun f vs => PySem.call f vs) : PySem.Challenge.rw_ij0049_01.Holds :=
  holds_law hSaid fun said => holds_open (q := hQ) (loose := hLoose) (Xt := hXt) (XP := XL hQ []) (Yf := hHook.obs) (Ya := hHook.val) (YP := hHook.says) (N := 38378) hLeft (Hook.of hHook) (Hook.keeps hHook) (fun s e => xl_of s (Bool.and_eq_true_iff.mp e).1) XL.keeps (d := hD) (kwd := []) hDef hThe hKw (fun s e => recFacts_of (Bool.and_eq_true_iff.mp e).2) rfl said hOk hBare hProm call
end Mine
namespace Mine

section
variable {α β : Type} {k : Nat} {C : FC} {t : Sem α} {R : FH → β → α → Prop} {Q : β → St → Prop} {σ : St} {A : Around} {z0 z : FH} {s : Shared}
theorem WT.go (h : WT k C t R Q σ) (hA : Room k A) (hR : Rel C z σ s) {QQ : α → Shared → Prop}
    (f : ∀ v s' d σ' z', FH.le z z' → Rel C z' σ' s' → R z' d v → Q d σ' → QQ v s') : wpAny (Mo C) A t QQ NoE s :=
  wpAny_mono (h A z s hA hR) (fun v s' p => p.elim fun d p => p.elim fun σ' p => p.elim fun z' p => f v s' d σ' z' p.1 p.2.1 p.2.2.1 p.2.2.2) fun zu zu x => x
theorem WT.fin (h : WT k C t R Q σ) (hA : Room k A) (hR : Rel C z σ s) (hz : FH.le z0 z) : wpAny (Mo C) A t (Post C R Q z0) NoE s :=
  wpAny_mono (h A z s hA hR) (fun zu zu p => p.le hz) fun zu zu x => x
theorem Post.mk {z' : FH} {s' : Shared} {d : β} {v : α} (hz : FH.le z0 z') (hR : Rel C z' σ s') (hv : R z' d v) (q : Q d σ) : Post C R Q z0 v s' := ⟨d, σ, z', hz, hR, hv, q⟩
end
section
variable {C : FC} {σ : St} {z0 z : FH} {s s' : Shared}
theorem Post.val {Q : V → St → Prop} {d : V} {v : Value} (r : Rel C z σ s) (hv : Rep z d v) (q : Q d σ)
    (h : s'.heap = s.heap := by rfl) (g : s'.gens = s.gens := by rfl) (o : s'.os = s.os := by rfl) : Post C Rep Q z v s' := ⟨d, σ, z, .refl z, r.same h g o, hv, q⟩
theorem Post.bool {Q : Bool → St → Prop} {b : Bool} (r : Rel C z σ s) (q : Q b σ)
    (h : s'.heap = s.heap := by rfl) (g : s'.gens = s.gens := by rfl) (o : s'.os = s.os := by rfl) : Post C RepB Q z b s' := ⟨b, σ, z, .refl z, r.same h g o, rfl, q⟩
theorem Post.tupN {Q : V → St → Prop} {l : List V} {vs : List Value} {n : Nat} (hz0 : FH.le z0 z) (r : Rel C z σ s) (hv : Reps z l vs) (q : Q (.tup l) σ)
    (h : s'.heap = s.heap.push (tupO vs.toArray n) := by rfl) (g : s'.gens = s.gens := by rfl) (o : s'.os = s.os := by rfl) : Post C Rep Q z0 (.ref s.heap.objs.size) s' :=
  have a := r.alloc (o := tupO vs.toArray n) rfl h g o
  ⟨.tup l, σ, _, hz0.trans a.1, a.2, .tup (FH.add_self ..) (hv.mono a.1), q⟩
theorem Post.lstN {Q : V → St → Prop} {l : List V} {vs : List Value} {n : Nat} (hz0 : FH.le z0 z) (r : Rel C z σ s) (hv : Reps z l vs) (q : Q (.list l) σ)
    (h : s'.heap = s.heap.push (lstO vs.toArray n) := by rfl) (g : s'.gens = s.gens := by rfl) (o : s'.os = s.os := by rfl) : Post C Rep Q z0 (.ref s.heap.objs.size) s' :=
  have a := r.alloc (o := lstO vs.toArray n) rfl h g o
  ⟨.list l, σ, _, hz0.trans a.1, a.2, .list (FH.add_self ..) (hv.mono a.1), q⟩
theorem Post.mutN {Q : V → St → Prop} {l : List V} {vs : List Value} {n : Nat} (hz0 : FH.le z0 z) (r : Rel C z σ s) (hv : Reps z l vs)
    (q : ∀ a, a ∉ σ.mem.map (·.1) → Q (.mut a) { σ with mem := (a, l) :: σ.mem })
    (h : s'.heap = s.heap.push (lstO vs.toArray n) := by rfl) (g : s'.gens = s.gens := by rfl) (o : s'.os = s.os := by rfl) : Post C Rep Q z0 (.ref s.heap.objs.size) s' :=
  have hr := r.allocMut hv h g o
  ⟨.mut _, _, z, hz0, hr, .mut _, q _ (List.nodup_cons.mp hr.memnd).1⟩
end

section
variable {z : FH} {v : Value}
@[elab_as_elim] theorem Rep.eNone {m : Value → Prop} (h : Rep z .none v) (f : m .none) : m v := by cases h; exact f
@[elab_as_elim] theorem Rep.eBool {b : Bool} {m : Value → Prop} (h : Rep z (.bool b) v) (f : m (.bool b)) : m v := by cases h; exact f
@[elab_as_elim] theorem Rep.eInt {i : Int} {m : Value → Prop} (h : Rep z (.int i) v) (f : ∀ t, m (.int i t)) : m v := by cases h; exact f _
@[elab_as_elim] theorem Rep.eStr {x : List Nat} {m : Value → Prop} (h : Rep z (.str x) v) (f : ∀ t, m (.str (S x) t)) : m v := by cases h; exact f _
@[elab_as_elim] theorem Rep.eMut {a : Addr} {m : Value → Prop} (h : Rep z (.mut a) v) (f : m (.ref a)) : m v := by cases h; exact f
@[elab_as_elim] theorem Rep.eObj {a : Addr} {m : Value → Prop} (h : Rep z (.obj a) v) (f : z a = some objO → m (.ref a)) : m v := by cases h with | obj e => exact f e
@[elab_as_elim] theorem Rep.eApp {a : Addr} {m : Value → Prop} (h : Rep z (.app a) v) (f : ∀ b, z b = some (appO a) → m (.ref b)) : m v := by cases h with | app e => exact f _ e
@[elab_as_elim] theorem Rep.eTup {l : List V} {m : Value → Prop} (h : Rep z (.tup l) v) (f : ∀ a vs n, z a = some (tupO (List.toArray vs) n) → Reps z l vs → m (.ref a)) : m v := by cases h with | tup e r => exact f _ _ _ e r
@[elab_as_elim] theorem Rep.eList {l : List V} {m : Value → Prop} (h : Rep z (.list l) v) (f : ∀ a vs n, z a = some (lstO (List.toArray vs) n) → Reps z l vs → m (.ref a)) : m v := by cases h with | list e r => exact f _ _ _ e r
@[elab_as_elim] theorem Rep.eRng {a b c : Int} {m : Value → Prop} (h : Rep z (.rng a b c) v) (f : ∀ x t u w, z x = some { cls := .type "range", data := .fields #[.int a t, .int b u, .int c w] } → m (.ref x)) : m v := by cases h with | rng e => exact f _ _ _ _ e
@[elab_as_elim] theorem Reps.eNil {vs : List Value} {m : List Value → Prop} (h : Reps z [] vs) (f : m []) : m vs := by cases h; exact f
@[elab_as_elim] theorem Reps.eCons {d : V} {l : List V} {vs : List Value} {m : List Value → Prop} (h : Reps z (d :: l) vs) (f : ∀ v vs, Rep z d v → Reps z l vs → m (v :: vs)) : m vs := by cases h with | cons a r => exact f _ _ a r
@[elab_as_elim] theorem Reps.e1 {d : V} {vs : List Value} {m : List Value → Prop} (h : Reps z [d] vs) (f : ∀ v, Rep z d v → m [v]) : m vs := h.eCons (m := m) fun v zu a r => r.eNil (m := fun l => m (v :: l)) (f v a)
@[elab_as_elim] theorem Reps.e2 {d e : V} {vs : List Value} {m : List Value → Prop} (h : Reps z [d, e] vs) (f : ∀ v w, Rep z d v → Rep z e w → m [v, w]) : m vs := h.eCons (m := m) fun v zu a r => r.e1 (m := fun l => m (v :: l)) fun w b => f v w a b
@[elab_as_elim] theorem Reps.e3 {d e g : V} {vs : List Value} {m : List Value → Prop} (h : Reps z [d, e, g] vs) (f : ∀ v w x, Rep z d v → Rep z e w → Rep z g x → m [v, w, x]) : m vs := h.eCons (m := m) fun v zu a r => r.e2 (m := fun l => m (v :: l)) fun w x b c => f v w x a b c
end

noncomputable def lst? (σ : St) : V → Option (List V)
  | .list l => some l
  | .mut a => memGet σ.mem a
  | _ => none
section
variable {C : FC} {σ : St} {z : FH} {s : Shared} {v : Value}
@[elab_as_elim] theorem lst_e {d : V} {l : List V} (r : Rel C z σ s) {m : Value → Prop} (hv : Rep z d v) (h : lst? σ d = some l) (f : ∀ a vs n, s.heap.get? a = some (lstO (List.toArray vs) n) → Reps z l vs → m (.ref a)) : m v := by
  cases d with
  | list l' => cases h; exact hv.eList fun a vs n e hr => f a vs n (r.frz _ _ e) hr
  | «mut» a => exact hv.eMut (let ⟨_, _, _, vs, n, e, hr⟩ := r.mem _ _ (memGet_mem h); f a vs n e hr)
  | _ => cases h
@[elab_as_elim] theorem tup_e {l : List V} (r : Rel C z σ s) {m : Value → Prop} (hv : Rep z (.tup l) v) (f : ∀ a vs n, s.heap.get? a = some (tupO (List.toArray vs) n) → Reps z l vs → m (.ref a)) : m v :=
  hv.eTup fun a vs n e hr => f a vs n (r.frz _ _ e) hr
theorem isList_of {h : Heap} {a : Addr} {vs : List Value} {n : Nat} (e : h.get? a = some (lstO vs.toArray n)) : h.IsList a vs.toArray := ⟨_, e, rfl, n, rfl⟩
theorem isTup_of {h : Heap} {a : Addr} {vs : List Value} {n : Nat} (e : h.get? a = some (tupO vs.toArray n)) : IsTup h a vs.toArray := ⟨_, e, rfl, n, rfl⟩
end

inductive Ix where
  | z | s (i : Ix)
inductive AtK : List (Str × NameKind) → Ix → Str → NameKind → Prop where
  | here {x : Str} {kd : NameKind} {l : List (Str × NameKind)} : AtK ((x, kd) :: l) .z x kd
  | there {x y : Str} {kd ky : NameKind} {l : List (Str × NameKind)} {i : Ix} : AtK l i x kd → AtK ((y, ky) :: l) (.s i) x kd
@[reducible] noncomputable def vNU (d : V) (P : Prop) : Prop := match d with
  | .undef => False
  | _ => P
@[reducible] noncomputable def vGet : Ix → List V → (V → Prop) → Prop
  | .z, d :: _, Q => vNU d (Q d)
  | .s i, _ :: l, Q => vGet i l Q
  | _, [], _ => False
@[reducible] noncomputable def vSet : Ix → List V → V → List V
  | .z, _ :: l, d => d :: l
  | .s i, a :: l, d => a :: vSet i l d
  | _, [], _ => []
noncomputable def Ix.n : Ix → Nat
  | .z => 0
  | .s i => i.n + 1
theorem vNU_out {d : V} {P : Prop} (h : vNU d P) : d ≠ .undef ∧ P := by cases d <;> first | exact h.elim | exact ⟨nofun, h⟩
theorem vGet_out : ∀ {i : Ix} {l : List V} {Q : V → Prop}, vGet i l Q → ∃ d, l[i.n]? = some d ∧ d ≠ .undef ∧ Q d
  | .z, d :: _, Q, h => ⟨d, rfl, vNU_out h⟩
  | .s i, _ :: l, Q, h => vGet_out (i := i) (l := l) h
  | .z, [], _, h => h.elim
  | .s _, [], _, h => h.elim
theorem vSet_eq : ∀ (i : Ix) (l : List V) (d : V), vSet i l d = l.set i.n d
  | .z, _ :: _, _ => rfl
  | .s i, a :: l, d => congrArg (a :: ·) (vSet_eq i l d)
  | .z, [], _ => rfl
  | .s _, [], _ => rfl
theorem AtK.mem {l : List (Str × NameKind)} {i : Ix} {x : Str} {kd : NameKind} (h : AtK l i x kd) : (x, kd) ∈ l := by
  induction h with
  | here => exact .head _
  | there _ ih => exact .tail _ ih
theorem AtK.get {l : List (Str × NameKind)} {i : Ix} {x : Str} {kd : NameKind} (h : AtK l i x kd) : (l.map (·.1))[i.n]? = some x := by
  induction h with
  | here => rfl
  | there _ ih => exact ih

structure FS where
  T : TI
  nk : List (Str × NameKind)
  gs : List Str
  own : Bool := true
  J : List Nat := []
  Z : List Nat := []
structure Wf (C : FC) (F : FS) : Prop where
  T : C.T = F.T
  own : F.own = true → C.own = true
  nm : C.names = F.nk.map (·.1)
  K : ∀ p ∈ F.nk, C.env.kindOf p.1 = some p.2 ∧ (p.1 == ("__debug__" : Str)) = false
  G : ∀ x ∈ F.gs, C.env.kindOf x = some .globalImplicit ∧ (x == ("__debug__" : Str)) = false ∧ x ≠ ("__name__" : Str)
section
variable {C : FC} {F : FS} {i : Ix} {x : Str} {kk : NameKind}
theorem Wf.at (W : Wf C F) (h : AtK F.nk i x kk) : C.names[i.n]? = some x := W.nm ▸ h.get
theorem Wf.kd (W : Wf C F) (h : AtK F.nk i x kk) : C.env.kindOf x = some kk := (W.K _ h.mem).1
theorem Wf.db (W : Wf C F) (h : AtK F.nk i x kk) : (x == ("__debug__" : Str)) = false := (W.K _ h.mem).2
end

noncomputable abbrev TE := Nat → FC → (V → St → Prop) → St → Prop
noncomputable abbrev TB := Nat → FC → (Bool → St → Prop) → St → Prop
noncomputable abbrev TA := Nat → FC → (List V → St → Prop) → St → Prop
noncomputable abbrev TP := Nat → FC → (Option Int → St → Prop) → St → Prop
noncomputable abbrev TS := Nat → FC → (Fl → St → Prop) → St → Prop
noncomputable abbrev TG := Nat → FC → V → (St → Prop) → St → Prop
structure SemE (F : FS) (e : Expr) (t : TE) : Prop where
  h : ∀ {k C}, Wf C F → ∀ {Q σ}, t k C Q σ → WE k C e Q σ
structure SemB (F : FS) (e : Expr) (t : TB) : Prop where
  h : ∀ {k C}, Wf C F → ∀ {Q σ}, t k C Q σ → WB k C e Q σ
noncomputable def WAll (k : Nat) (C : FC) (op : BoolOp) (es : List Expr) (Q : Bool → St → Prop) (σ : St) : Prop := WT k C (allTrue op es C.env) RepB Q σ
structure SemL (F : FS) (op : BoolOp) (es : List Expr) (t : TB) : Prop where
  h : ∀ {k C}, Wf C F → ∀ {Q σ}, t k C Q σ → WAll k C op es Q σ
structure SemA (F : FS) (es : List Expr) (t : TA) : Prop where
  h : ∀ {k C pos}, Wf C F → ∀ {Q σ}, t k C Q σ → WA k C es pos (fun ds σ' => ds.length = es.length ∧ Q ds σ') σ

section
variable {F : FS} {pos : Pos}

theorem SemE.raw (e : Expr) : SemE F e (fun k C Q σ => WE k C e Q σ) := ⟨fun zu zu zu h => h⟩

@[reducible] noncomputable def tLoc (i : Ix) : TE := fun zu zu Q σ => vGet i σ.vars fun d => Q d σ
theorem SemE.loc {x : Str} {i : Ix} (h : AtK F.nk i x .local) : SemE F (.Name x pos) (tLoc i) := ⟨fun {k C} W {Q σ} q A z s hA hR =>
  let ⟨d, hd, hu, hq⟩ := vGet_out q
  let ⟨m, hm, hh⟩ := hR.ns
  let ⟨v, hv, hr⟩ := hh i.n x d (W.at h) hd hu (W.kd h)
  wpAny_Name (wpAny_loadName_local hR.ok.kind (W.kd h) hm hv (Post.val hR hr hq)) (W.db h)⟩
theorem SemE.cell {x : Str} {i : Ix} (h : AtK F.nk i x .cell) : SemE F (.Name x pos) (tLoc i) := ⟨fun {k C} W {Q σ} q A z s hA hR =>
  let ⟨d, hd, hu, hq⟩ := vGet_out q
  let ⟨c, ov, hc, hv, hh⟩ := hR.cel i.n x d (W.at h) hd (by rw [W.kd h]; rfl)
  let ⟨v, e, hr⟩ := hh hu
  wpAny_Name (wpAny_loadName_cell hR.ok.kind (W.kd h) hc (e ▸ hv) (Post.val hR hr hq)) (W.db h)⟩
theorem name_glob {C : FC} {A : Around} {z : FH} {σ : St} {s : Shared} {x : Str} {v : Value} {Q : Value → Shared → Prop} (hR : Rel C z σ s) (hk : C.env.kindOf x = some .globalImplicit) (hg : nsIn C.T.K mainGlobals x = some (some v)) (q : Q v s)
    (hdb : (x == ("__debug__" : Str)) = false) : wpAny (Mo C) A (eval (.Name x pos) C.env) Q NoE s :=
  Calls.Name_function_global hR.ok.kind hk (Calls.loadGlobal_global (by rw [hR.ok.gl]; exact hR.gd.g) (mg_of hR.gd.k hR.gd.g hg) q) hdb
theorem name_builtin {C : FC} {A : Around} {z : FH} {σ : St} {s : Shared} {x : Str} {v : Value} {Q : Value → Shared → Prop} (hR : Rel C z σ s) (hk : C.env.kindOf x = some .globalImplicit) (hg : nsIn C.T.K mainGlobals x = some none)
    (hb : bootBuiltins x = some v) (q : Q v s) (hn : x ≠ "__name__") (hdb : (x == ("__debug__" : Str)) = false) : wpAny (Mo C) A (eval (.Name x pos) C.env) Q NoE s :=
  Calls.Name_function_global hR.ok.kind hk (Calls.loadGlobal_builtin (by rw [hR.ok.gl]; exact hR.gd.g) (mg_none_of hR.gd.k hR.gd.g hg) (by rw [hR.ok.bu]; exact hR.gd.b) ((hR.gd.bi x hn).trans hb) q) hdb
structure GlobV (T : TI) (x : Str) (d : V) : Prop where
  g : ∃ v, nsIn T.K mainGlobals x = some (some v) ∧ ∀ z : FH, (∀ a o, T.K.lookup a = some o → z a = some o) → Rep z d v
@[reducible] noncomputable def tCst (d : V) : TE := fun zu zu Q σ => Q d σ
theorem SemE.glob {x : Str} {d : V} (G : GlobV F.T x d) (hm : x ∈ F.gs) : SemE F (.Name x pos) (tCst d) := ⟨fun {k C} W {Q σ} q A z s hA hR =>
  let ⟨v, hg, hv⟩ := G.g
  name_glob hR (W.G x hm).1 (W.T ▸ hg) (Post.val hR (hv z (W.T ▸ hR.zK)) q) (W.G x hm).2.1⟩
theorem SemE.cNone {c : Nat} : SemE F (.Constant .none c pos) (tCst .none) := ⟨fun zu zu zu q zu zu zu zu hR => wpAny_Constant_none (Post.val hR .none q)⟩
theorem SemE.cBool {c : Nat} {b : Bool} : SemE F (.Constant (.bool b) c pos) (tCst (.bool b)) := ⟨fun zu zu zu q zu zu zu zu hR => wpAny_Constant_bool (Post.val hR (.bool b) q)⟩
theorem SemE.cInt {c : Nat} {i : Int} : SemE F (.Constant (.int i) c pos) (tCst (.int i)) := ⟨fun zu zu zu q zu zu zu zu hR => wpAny_Constant_int (Post.val hR (.int i _) q)⟩
theorem SemE.cStr {c : Nat} {x : Str} {l : List Nat} (hl : x = S l) : SemE F (.Constant (.str x) c pos) (tCst (.str l)) := ⟨fun zu zu zu q zu zu zu zu hR => wpAny_Constant_str (Post.val hR (hl ▸ .str l _) q)⟩

structure BinOK (k : Nat) (C : FC) (op : Operator) (a b : V) (Q : V → St → Prop) (σ : St) : Prop where
  h : ∀ {A z s va vb}, Room k A → Rel C z σ s → Rep z a va → Rep z b vb → wpAny (Mo C) A (binaryOp op va vb) (Post C Rep Q z) NoE s
structure CmpOK (k : Nat) (C : FC) (op : CmpOp) (a b : V) (Q : V → St → Prop) (σ : St) : Prop where
  h : ∀ {A z s va vb}, Room k A → Rel C z σ s → Rep z a va → Rep z b vb → wpAny (Mo C) A (compareOp op va vb) (Post C Rep Q z) NoE s
structure IBinOK (k : Nat) (C : FC) (op : Operator) (a b : V) (Q : V → St → Prop) (σ : St) : Prop where
  h : ∀ {A z s va vb}, Room k A → Rel C z σ s → Rep z a va → Rep z b vb → wpAny (Mo C) A (inplaceOp op va vb) (Post C Rep Q z) NoE s
structure TruOK (k : Nat) (C : FC) (a : V) (Q : Bool → St → Prop) (σ : St) : Prop where
  h : ∀ {A z s va}, Room k A → Rel C z σ s → Rep z a va → wpAny (Mo C) A (truthy va) (Post C RepB Q z) NoE s
structure ItmOK (k : Nat) (C : FC) (a i : V) (Q : V → St → Prop) (σ : St) : Prop where
  h : ∀ {A z s va vi}, Room k A → Rel C z σ s → Rep z a va → Rep z i vi → wpAny (Mo C) A (getItem va vi) (Post C Rep Q z) NoE s
theorem wpP {α β : Type} {C : FC} {R : FH → β → α → Prop} {Q : β → St → Prop} {A : Around} {t : Sem α} {z0 z : FH} {s : Shared} (h : wpAny (Mo C) A t (Post C R Q z) NoE s) (hz : FH.le z0 z) : wpAny (Mo C) A t (Post C R Q z0) NoE s :=
  wpAny_mono h (fun zu zu p => p.le hz) fun zu zu x => x

theorem mulOk {a b : Int} (h : -(2 ^ 60) < b ∧ b < 2 ^ 60) : IntMulOk a b := by
  refine IntMulOk.of_right ?_
  have hb : Builtin.Int.intBits b ≤ b.natAbs.log2 + 1 := by unfold Builtin.Int.intBits; split <;> lia
  refine Nat.le_trans hb ?_
  rcases Nat.eq_zero_or_pos b.natAbs with h00 | h00
  · rw [h00]; decide
  · have h0 : b.natAbs ≠ 0 := by lia
    have h1 : b.natAbs < 2 ^ 60 := by lia
    have := (Nat.log2_lt h0).mpr h1
    lia
theorem noPylong {a b : Int} (h : 0 < b ∧ b < 2 ^ 60) : ¬ Builtin.divisionGoesByPylong a b = true := by
  unfold Builtin.divisionGoesByPylong
  have h0 : b.natAbs ≠ 0 := by lia
  have h1 : b.natAbs < 2 ^ 60 := by lia
  have := (Nat.log2_lt h0).mpr h1
  simp only [Bool.and_eq_true, decide_eq_true_eq]
  intro ⟨h2, _⟩
  split at h2 <;> lia
end
@[reducible] noncomputable def onStr (d : V) (p : List Nat → Prop) : Prop := match d with
  | .str l => p l
  | _ => False
set_option tactic.hygienic true in
theorem onStr.out {d : V} {p : List Nat → Prop} (h : onStr d p) : ∃ l, d = .str l ∧ p l := by
  cases d
  case str l => exact ⟨l, rfl, h⟩
  all_goals exact h.elim
end Mine
namespace Mine

@[reducible] noncomputable def vBinI (k : Nat) (C : FC) (op : Operator) (x y : Int) (Q : V → St → Prop) (σ : St) : Prop := match op with
  | .Add => Q (.int (x + y)) σ
  | .Sub => Q (.int (x - y)) σ
  | .Mult => (-(2 ^ 60) < y ∧ y < 2 ^ 60) ∧ Q (.int (x * y)) σ
  | .Mod => 0 < y ∧ Q (.int (x % y)) σ
  | .FloorDiv => (0 < y ∧ y < 2 ^ 60) ∧ Q (.int (x / y)) σ
  | op => BinOK k C op (.int x) (.int y) Q σ
@[reducible] noncomputable def vBinS (k : Nat) (C : FC) (op : Operator) (x y : List Nat) (Q : V → St → Prop) (σ : St) : Prop := match op with
  | .Add => x.length + y.length ≤ 16777216 ∧ Q (.str (x ++ y)) σ
  | op => BinOK k C op (.str x) (.str y) Q σ
@[reducible] noncomputable def vBin (k : Nat) (C : FC) (op : Operator) (a b : V) (Q : V → St → Prop) (σ : St) : Prop := match a with
  | .int x => (match b with
    | .int y => vBinI k C op x y Q σ
    | b => BinOK k C op (.int x) b Q σ)
  | .str x => (match b with
    | .str y => vBinS k C op x y Q σ
    | b => BinOK k C op (.str x) b Q σ)
  | a => BinOK k C op a b Q σ
@[reducible] noncomputable def vCmpI (k : Nat) (C : FC) (op : CmpOp) (x y : Int) (Q : V → St → Prop) (σ : St) : Prop := match op with
  | .Eq => Q (.bool (x == y)) σ
  | .NotEq => Q (.bool (x != y)) σ
  | .Lt => Q (.bool (decide (x < y))) σ
  | .LtE => Q (.bool (decide (x ≤ y))) σ
  | .Gt => Q (.bool (decide (y < x))) σ
  | .GtE => Q (.bool (decide (y ≤ x))) σ
  | op => CmpOK k C op (.int x) (.int y) Q σ
@[reducible] noncomputable def vCmpS (k : Nat) (C : FC) (op : CmpOp) (x y : List Nat) (Q : V → St → Prop) (σ : St) : Prop := match op with
  | .Eq => Q (.bool (decide (x = y))) σ
  | .NotEq => Q (.bool (!decide (x = y))) σ
  | .LtE => Q (.bool (!decide (y < x))) σ
  | .Gt => Q (.bool (decide (y < x))) σ
  | op => CmpOK k C op (.str x) (.str y) Q σ
@[reducible] noncomputable def vCmpB (k : Nat) (C : FC) (op : CmpOp) (x y : Bool) (Q : V → St → Prop) (σ : St) : Prop := match op with
  | .Eq => Q (.bool (x == y)) σ
  | .NotEq => Q (.bool (x != y)) σ
  | op => CmpOK k C op (.bool x) (.bool y) Q σ
@[reducible] noncomputable def vCmp (k : Nat) (C : FC) (op : CmpOp) (a b : V) (Q : V → St → Prop) (σ : St) : Prop := match a with
  | .int x => (match b with
    | .int y => vCmpI k C op x y Q σ
    | b => CmpOK k C op (.int x) b Q σ)
  | .str x => (match b with
    | .str y => vCmpS k C op x y Q σ
    | b => CmpOK k C op (.str x) b Q σ)
  | .bool x => (match b with
    | .bool y => vCmpB k C op x y Q σ
    | b => CmpOK k C op (.bool x) b Q σ)
  | a => CmpOK k C op a b Q σ
@[reducible] noncomputable def vIBin (k : Nat) (C : FC) (op : Operator) (a b : V) (Q : V → St → Prop) (σ : St) : Prop := match a with
  | .int x => (match b with
    | .int y => (match op with
      | .Add => Q (.int (x + y)) σ
      | op => IBinOK k C op (.int x) (.int y) Q σ)
    | b => IBinOK k C op (.int x) b Q σ)
  | .str x => (match b with
    | .str y => (match op with
      | .Add => x.length + y.length ≤ 16777216 ∧ Q (.str (x ++ y)) σ
      | op => IBinOK k C op (.str x) (.str y) Q σ)
    | b => IBinOK k C op (.str x) b Q σ)
  | a => IBinOK k C op a b Q σ
@[reducible] noncomputable def vBoo (d : V) (Q : Bool → St → Prop) (σ : St) : Prop := match d with
  | .bool c => Q c σ
  | _ => False
@[reducible] noncomputable def vTru (k : Nat) (C : FC) (d : V) (Q : Bool → St → Prop) (σ : St) : Prop := match d with
  | .bool c => Q c σ
  | .str x => x.length ≤ 16777216 ∧ Q (!x.isEmpty) σ
  | d => TruOK k C d Q σ

section
variable {k : Nat} {C : FC} {σ : St}
theorem S_len (l : List Nat) : (S l).length = l.length := by simp [S, Str.length]
theorem S_append (a b : List Nat) : S a ++ S b = S (a ++ b) := by
  show Str.append (S a) (S b) = _
  unfold Str.append
  simp
theorem S_inj {a b : List Nat} : (S a == S b) = decide (a = b) := by
  by_cases h : a = b
  · subst h; simp
  · have : S a ≠ S b := fun q => h (by have := congrArg (fun x : Str => x.cps.toList) q; simpa using this)
    simp [h, this]
theorem vBin_ok {op : Operator} {a b : V} {Q : V → St → Prop} (h : vBin k C op a b Q σ) : BinOK k C op a b Q σ := by
  cases a with
  | int x =>
    cases b with
    | int y =>
      cases op with
      | Add => exact ⟨fun hA hR ha hb => ha.eInt fun zu => hb.eInt fun zu => wpAny_add_int (Post.val hR (.int _ _) h)⟩
      | Sub => exact ⟨fun hA hR ha hb => ha.eInt fun zu => hb.eInt fun zu => P.sub_int (Post.val hR (.int _ _) h)⟩
      | Mult => exact ⟨fun hA hR ha hb => ha.eInt fun zu => hb.eInt fun zu => P.mul_int (Post.val hR (.int _ _) h.2) (mulOk h.1)⟩
      | Mod =>
        refine ⟨fun hA hR ha hb => ha.eInt fun zu => hb.eInt fun zu => AutoIntOps.mod_1 (by have := h.1; simp; lia) ?_⟩
        rw [show x.fmod y = x % y from Int.fmod_eq_emod_of_nonneg _ (by have := h.1; lia)]
        exact Post.val hR (.int _ _) h.2
      | FloorDiv =>
        refine ⟨fun hA hR ha hb => ha.eInt fun zu => hb.eInt fun zu => AutoIntOps.floordiv_1 (by have := h.1.1; simp; lia) (noPylong h.1) ?_⟩
        rw [show x.fdiv y = x / y from Int.fdiv_eq_ediv_of_nonneg _ (by have := h.1.1; lia)]
        exact Post.val hR (.int _ _) h.2
      | _ => exact h
    | _ => exact h
  | str x =>
    cases b with
    | str y =>
      cases op with
      | Add =>
        refine ⟨fun hA hR ha hb => ha.eStr fun zu => hb.eStr fun zu => add_str (fun t' tk => ?_) (by rw [S_len, S_len, sizeLine_eq]; exact h.1)⟩
        rw [S_append]; exact Post.val hR (.str _ _) h.2
      | _ => exact h
    | _ => exact h
  | _ => exact h
theorem vIBin_ok {op : Operator} {a b : V} {Q : V → St → Prop} (h : vIBin k C op a b Q σ) : IBinOK k C op a b Q σ := by
  cases a with
  | int x =>
    cases b with
    | int y =>
      cases op with
      | Add => exact ⟨fun hA hR ha hb => ha.eInt fun zu => hb.eInt fun zu => wpAny_iadd_int (Post.val hR (.int _ _) h)⟩
      | _ => exact h
    | _ => exact h
  | str x =>
    cases b with
    | str y =>
      cases op with
      | Add =>
        refine ⟨fun hA hR ha hb => ha.eStr fun zu => hb.eStr fun zu => iadd_str (fun t' tk => ?_) (by rw [S_len, S_len, sizeLine_eq]; exact h.1)⟩
        rw [S_append]; exact Post.val hR (.str _ _) h.2
      | _ => exact h
    | _ => exact h
  | _ => exact h
theorem vCmp_ok {op : CmpOp} {a b : V} {Q : V → St → Prop} (h : vCmp k C op a b Q σ) : CmpOK k C op a b Q σ := by
  cases a with
  | int x =>
    cases b with
    | int y =>
      cases op with
      | Eq => exact ⟨fun hA hR ha hb => ha.eInt fun zu => hb.eInt fun zu => P.eq_int (Post.val hR (.bool _) h)⟩
      | NotEq => exact ⟨fun hA hR ha hb => ha.eInt fun zu => hb.eInt fun zu => P.ne_int (Post.val hR (.bool _) h)⟩
      | Lt => exact ⟨fun hA hR ha hb => ha.eInt fun zu => hb.eInt fun zu => P.lt_int (Post.val hR (.bool _) h)⟩
      | LtE => exact ⟨fun hA hR ha hb => ha.eInt fun zu => hb.eInt fun zu => P.le_int (Post.val hR (.bool _) h)⟩
      | Gt => exact ⟨fun hA hR ha hb => ha.eInt fun zu => hb.eInt fun zu => P.gt_int (Post.val hR (.bool _) h)⟩
      | GtE => exact ⟨fun hA hR ha hb => ha.eInt fun zu => hb.eInt fun zu => P.ge_int (Post.val hR (.bool _) h)⟩
      | _ => exact h
    | _ => exact h
  | str x =>
    cases b with
    | str y =>
      cases op with
      | Eq => exact ⟨fun hA hR ha hb => ha.eStr fun zu => hb.eStr fun zu => eq_str (S_inj ▸ Post.val hR (.bool _) h)⟩
      | NotEq => exact ⟨fun hA hR ha hb => ha.eStr fun zu => hb.eStr fun zu => ne_str (by rw [bne, S_inj]; exact Post.val hR (.bool _) h)⟩
      | LtE => exact ⟨fun hA hR ha hb => ha.eStr fun zu => hb.eStr fun zu => P.le_str (Post.val hR (.bool _) (by simpa using h))⟩
      | Gt => exact ⟨fun hA hR ha hb => ha.eStr fun zu => hb.eStr fun zu => P.gt_str (Post.val hR (.bool _) (by simpa using h))⟩
      | _ => exact h
    | _ => exact h
  | bool x =>
    cases b with
    | bool y =>
      cases op with
      | Eq => exact ⟨fun hA hR ha hb => ha.eBool (hb.eBool (eq_bool (Post.val hR (.bool _) h)))⟩
      | NotEq => exact ⟨fun hA hR ha hb => ha.eBool (hb.eBool (ne_bool (Post.val hR (.bool _) h)))⟩
      | _ => exact h
    | _ => exact h
  | _ => exact h
theorem vTru_ok {d : V} {Q : Bool → St → Prop} (h : vTru k C d Q σ) : TruOK k C d Q σ := by
  cases d with
  | bool c => exact ⟨fun hA hR ha => ha.eBool (wpAny_truthy_bool (Post.bool hR h))⟩
  | str x =>
    refine ⟨fun hA hR ha => ha.eStr fun zu => P.truthy_str (by rw [S_len]; have := h.1; lia) ?_⟩
    rw [S_len]
    have : ((x.length : Int) != 0) = !x.isEmpty := by cases x <;> simp <;> lia
    rw [this]; exact Post.bool hR h.2
  | _ => exact h
theorem vBoo_out {d : V} {Q : Bool → St → Prop} (h : vBoo d Q σ) : ∃ c, d = .bool c ∧ Q c σ := by
  cases d with
  | bool c => exact ⟨c, rfl, h⟩
  | _ => exact h.elim
end

section
variable {F : FS} {pos : Pos}
@[reducible] noncomputable def tBin (op : Operator) (l r : TE) : TE := fun k C Q σ => l k C (fun a σ1 => r k C (fun b σ2 => vBin k C op a b Q σ2) σ1) σ
theorem SemE.bin {op : Operator} {l r : Expr} {tl tr : TE} (hl : SemE F l tl) (hr : SemE F r tr) : SemE F (.BinOp l op r pos) (tBin op tl tr) := ⟨fun W zu zu h zu zu zu hA hR =>
  wpAny_BinOp ((hl.h W h).go hA hR fun zu zu zu zu zu hz1 hR1 ha h1 => (hr.h W h1).go hA hR1 fun zu zu zu zu zu hz2 hR2 hb h2 => wpP ((vBin_ok h2).h hA hR2 (ha.mono hz2) hb) (hz1.trans hz2))⟩
@[reducible] noncomputable def tCmp (op : CmpOp) (l r : TE) : TE := fun k C Q σ => l k C (fun a σ1 => r k C (fun b σ2 => vCmp k C op a b Q σ2) σ1) σ
theorem SemE.cmp {op : CmpOp} {l r : Expr} {tl tr : TE} (hm : behindInMarks op r = false) (hl : SemE F l tl) (hr : SemE F r tr) : SemE F (.Compare l [op] [r] pos) (tCmp op tl tr) := ⟨fun W zu zu h zu zu zu hA hR =>
  wpAny_Compare1 ((hl.h W h).go hA hR fun zu zu zu zu zu hz1 hR1 ha h1 => (hr.h W h1).go hA hR1 fun zu zu zu zu zu hz2 hR2 hb h2 => wpP ((vCmp_ok h2).h hA hR2 (ha.mono hz2) hb) (hz1.trans hz2)) hm⟩
@[reducible] noncomputable def tNeg (x : TE) : TE := fun k C Q σ => x k C (fun a σ1 => match a with | .int i => Q (.int (-i)) σ1 | _ => False) σ
theorem SemE.neg {x : Expr} {tx : TE} (hx : SemE F x tx) : SemE F (.UnaryOp .USub x pos) (tNeg tx) := ⟨fun W Q zu h zu zu zu hA hR =>
  wpAny_UnaryOp ((hx.h W h).go hA hR fun zu s1 d σ1 z1 hz1 hR1 ha h1 => by
    cases d with
    | int i => exact ha.eInt fun zu => P.neg_int ((Post.val hR1 (.int _ _) h1).le hz1)
    | _ => exact h1.elim)⟩

@[reducible] noncomputable def tbCmp (op : CmpOp) (l r : TE) : TB := fun k C Q σ => l k C (fun a σ1 => r k C (fun b σ2 => vCmp k C op a b (fun d σ3 => vBoo d Q σ3) σ2) σ1) σ
theorem SemB.cmp {op : CmpOp} {l r : Expr} {tl tr : TE} (hm : behindInMarks op r = false) (hl : SemE F l tl) (hr : SemE F r tr) : SemB F (.Compare l [op] [r] pos) (tbCmp op tl tr) := ⟨fun W zu zu h zu zu zu hA hR =>
  wpAny_isTrue_Compare1 ((hl.h W h).go hA hR fun zu zu zu zu zu hz1 hR1 ha h1 => (hr.h W h1).go hA hR1 fun zu zu zu zu zu hz2 hR2 hb h2 =>
    wpAny_mono ((vCmp_ok h2).h hA hR2 (ha.mono hz2) hb) (fun v s3 p => p.elim fun d p => p.elim fun σ3 p => p.elim fun z3 p => (vBoo_out p.2.2.2).elim fun c e => by
      obtain ⟨rfl, hq⟩ := e
      exact p.2.2.1.eBool (wpAny_truthy_bool ⟨c, σ3, z3, (hz1.trans hz2).trans p.1, p.2.1, rfl, hq⟩)) fun zu zu x => x) hm⟩
@[reducible] noncomputable def tbNot (x : TB) : TB := fun k C Q σ => x k C (fun b σ1 => Q (!b) σ1) σ
theorem SemB.not {x : Expr} {tx : TB} (hx : SemB F x tx) : SemB F (.UnaryOp .Not x pos) (tbNot tx) := ⟨fun W zu zu h zu zu zu hA hR =>
  wpAny_isTrue_Not ((hx.h W h).go hA hR fun zu zu b σ1 z1 hz1 hR1 e h1 => ⟨_, σ1, z1, hz1, hR1, congrArg Bool.not e, h1⟩)⟩
@[reducible] noncomputable def tbVal (x : TE) : TB := fun k C Q σ => x k C (fun a σ1 => vTru k C a Q σ1) σ
theorem SemB.val {x : Expr} {tx : TE} (he : ∀ env whole, isTrue x env whole = (do let v ← whole; standAt x.pos; holding [v] (truthy v))) (hx : SemE F x tx) : SemB F x (tbVal tx) := ⟨fun W zu zu h zu zu zu hA hR =>
  wpAny_isTrue_value ((hx.h W h).go hA hR fun zu zu zu zu zu hz1 hR1 ha h1 => wpP ((vTru_ok h1).h hA hR1 ha) hz1) (he _ _)⟩
@[reducible] noncomputable def tbIf (t b o : TB) : TB := fun k C Q σ => t k C (fun c σ1 => (c = true → b k C Q σ1) ∧ (c = false → o k C Q σ1)) σ
theorem SemB.ife {t b o : Expr} {tt tb to : TB} (ht : SemB F t tt) (hb : SemB F b tb) (ho : SemB F o to) : SemB F (.IfExp t b o pos) (tbIf tt tb to) := ⟨fun W zu zu h zu zu zu hA hR =>
  isTrue_IfExp ((ht.h W h).go hA hR fun c zu c' zu zu hz1 hR1 e h1 => by
    cases e
    cases c with
    | true => exact (hb.h W (h1.1 rfl)).fin hA hR1 hz1
    | false => exact (ho.h W (h1.2 rfl)).fin hA hR1 hz1)⟩
@[reducible] noncomputable def tbJoin (t : TB) : TB := fun k C Q σ => ∃ b0, t k C (fun b σ1 => b = b0 ∧ σ1 = σ) σ ∧ Q b0 σ
theorem SemB.join {e : Expr} {t : TB} (h : SemB F e t) : SemB F e (tbJoin t) := ⟨fun W Q σ q A z s hA hR =>
  let ⟨b0, q1, q2⟩ := q
  wpAny_mono (h.h W q1 A z s hA hR) (fun zu zu p => p.imp fun b σ1 e => e.1 ▸ e.2 ▸ q2) fun zu zu x => x⟩
theorem SemB.ifeJ {t b o : Expr} {tt : TB} {tb to : TB} (hj : F.J.contains pos.line = true) (ht : SemB F t tt) (hb : SemB F b tb) (ho : SemB F o to) : SemB F (.IfExp t b o pos) (tbJoin (tbIf tt tb to)) := SemB.join (SemB.ife ht hb ho)
theorem SemB.boolop {op : BoolOp} {es : List Expr} {t : TB} (h : SemL F op es t) : SemB F (.BoolOp op es pos) (tbJoin t) := ⟨fun W Q σ q A z s hA hR =>
  let ⟨b0, q1, q2⟩ := q
  wpAny_isTrue_BoolOp (wpAny_mono (h.h W q1 A z s hA hR) (fun zu zu p => p.imp fun b σ1 e => e.1 ▸ e.2 ▸ q2) fun zu zu x => x)⟩
@[reducible] noncomputable def tbK (b : Bool) : TB := fun zu zu Q σ => Q b σ
@[reducible] noncomputable def tbAnd (x y : TB) : TB := fun k C Q σ => x k C (fun b σ1 => (b = true → y k C Q σ1) ∧ (b = false → Q false σ1)) σ
@[reducible] noncomputable def tbOr (x y : TB) : TB := fun k C Q σ => x k C (fun b σ1 => (b = true → Q true σ1) ∧ (b = false → y k C Q σ1)) σ
theorem SemL.and1 {e : Expr} {t : TB} (he : SemB F e t) : SemL F .And [e] t := ⟨fun {k C} W {Q σ} h A z s hA hR =>
  wpAny_allTrue_And_cons ((he.h W h).go hA hR fun c zu c' σ1 z1 hz1 hR1 e h1 => by
    cases e
    cases c with
    | true => exact wpP (wpAny_allTrue_And_nil (Post.bool hR1 h1)) hz1
    | false => exact ⟨_, σ1, z1, hz1, hR1, rfl, h1⟩)⟩
theorem SemL.or1 {e : Expr} {t : TB} (he : SemB F e t) : SemL F .Or [e] t := ⟨fun {k C} W {Q σ} h A z s hA hR =>
  wpAny_allTrue_Or_cons ((he.h W h).go hA hR fun c zu c' σ1 z1 hz1 hR1 e h1 => by
    cases e
    cases c with
    | false => exact wpP (wpAny_allTrue_Or_nil (Post.bool hR1 h1)) hz1
    | true => exact ⟨_, σ1, z1, hz1, hR1, rfl, h1⟩)⟩
theorem SemL.and {e : Expr} {es : List Expr} {t ts : TB} (he : SemB F e t) (hs : SemL F .And es ts) : SemL F .And (e :: es) (tbAnd t ts) := ⟨fun {k C} W {Q σ} h A z s hA hR =>
  wpAny_allTrue_And_cons ((he.h W h).go hA hR fun c zu c' σ1 z1 hz1 hR1 e h1 => by
    cases e
    cases c with
    | true => exact (hs.h W (h1.1 rfl)).fin hA hR1 hz1
    | false => exact ⟨_, σ1, z1, hz1, hR1, rfl, h1.2 rfl⟩)⟩
theorem SemL.or {e : Expr} {es : List Expr} {t ts : TB} (he : SemB F e t) (hs : SemL F .Or es ts) : SemL F .Or (e :: es) (tbOr t ts) := ⟨fun {k C} W {Q σ} h A z s hA hR =>
  wpAny_allTrue_Or_cons ((he.h W h).go hA hR fun c zu c' σ1 z1 hz1 hR1 e h1 => by
    cases e
    cases c with
    | false => exact (hs.h W (h1.2 rfl)).fin hA hR1 hz1
    | true => exact ⟨_, σ1, z1, hz1, hR1, rfl, h1.1 rfl⟩)⟩

@[reducible] noncomputable def tIf (t : TB) (b o : TE) : TE := fun k C Q σ => t k C (fun c σ1 => (c = true → b k C Q σ1) ∧ (c = false → o k C Q σ1)) σ
theorem SemE.ife {t b o : Expr} {tt : TB} {tb to : TE} (ht : SemB F t tt) (hb : SemE F b tb) (ho : SemE F o to) : SemE F (.IfExp t b o pos) (tIf tt tb to) := ⟨fun W zu zu h zu zu zu hA hR =>
  wpAny_IfExp ((ht.h W h).go hA hR fun c zu c' zu zu hz1 hR1 e h1 => by
    cases e
    cases c with
    | true => exact (hb.h W (h1.1 rfl)).fin hA hR1 hz1
    | false => exact (ho.h W (h1.2 rfl)).fin hA hR1 hz1)⟩
theorem SemE.join0 {e : Expr} {t : TE} (h : SemE F e t) : SemE F e (fun k C Q σ => ∃ d0, t k C (fun d σ1 => d = d0 ∧ σ1 = σ) σ ∧ Q d0 σ) := ⟨fun W Q σ q A z s hA hR =>
  let ⟨b0, q1, q2⟩ := q
  wpAny_mono (h.h W q1 A z s hA hR) (fun zu zu p => p.imp fun b σ1 e => e.1 ▸ e.2 ▸ q2) fun zu zu x => x⟩
theorem SemE.ifeJ {t b o : Expr} {tt : TB} {tb to : TE} (hj : F.J.contains pos.line = true) (ht : SemB F t tt) (hb : SemE F b tb) (ho : SemE F o to) : SemE F (.IfExp t b o pos) (fun k C Q σ => ∃ d0, tIf tt tb to k C (fun d σ1 => d = d0 ∧ σ1 = σ) σ ∧ Q d0 σ) := SemE.join0 (SemE.ife ht hb ho)
@[reducible] noncomputable def tAnd (x y : TE) : TE := fun k C Q σ => x k C (fun a σ1 => vBoo a (fun b σ2 => (b = true → y k C Q σ2) ∧ (b = false → Q (.bool false) σ2)) σ1) σ
@[reducible] noncomputable def tOr (x y : TE) : TE := fun k C Q σ => x k C (fun a σ1 => vBoo a (fun b σ2 => (b = true → Q (.bool true) σ2) ∧ (b = false → y k C Q σ2)) σ1) σ
@[reducible] noncomputable def tvJoin (t : TE) : TE := fun k C Q σ => ∃ d0, t k C (fun d σ1 => d = d0 ∧ σ1 = σ) σ ∧ Q d0 σ
theorem SemE.join {e : Expr} {t : TE} (h : SemE F e t) : SemE F e (tvJoin t) := ⟨fun W Q σ q A z s hA hR =>
  let ⟨b0, q1, q2⟩ := q
  wpAny_mono (h.h W q1 A z s hA hR) (fun zu zu p => p.imp fun b σ1 e => e.1 ▸ e.2 ▸ q2) fun zu zu x => x⟩
theorem SemE.and2 {x y : Expr} {tx ty : TE} (hx : SemE F x tx) (hy : SemE F y ty) : SemE F (.BoolOp .And [x, y] pos) (tvJoin (tAnd tx ty)) := SemE.join ⟨fun W zu zu h zu zu zu hA hR =>
  wpAny_And2 ((hx.h W h).go hA hR fun zu zu d σ1 z1 hz1 hR1 ha h1 => (vBoo_out h1).elim fun b e => by
    obtain ⟨rfl, h2, h3⟩ := e
    refine ha.eBool (wpAny_truthy_bool ?_)
    cases b with
    | true => exact (hy.h W (h2 rfl)).fin hA hR1 hz1
    | false => exact ⟨_, σ1, z1, hz1, hR1, .bool _, h3 rfl⟩)⟩
theorem SemE.or2 {x y : Expr} {tx ty : TE} (hx : SemE F x tx) (hy : SemE F y ty) : SemE F (.BoolOp .Or [x, y] pos) (tvJoin (tOr tx ty)) := SemE.join ⟨fun W zu zu h zu zu zu hA hR =>
  wpAny_Or2 ((hx.h W h).go hA hR fun zu zu d σ1 z1 hz1 hR1 ha h1 => (vBoo_out h1).elim fun b e => by
    obtain ⟨rfl, h2, h3⟩ := e
    refine ha.eBool (wpAny_truthy_bool ?_)
    cases b with
    | false => exact (hy.h W (h3 rfl)).fin hA hR1 hz1
    | true => exact ⟨_, σ1, z1, hz1, hR1, .bool _, h2 rfl⟩)⟩

theorem relw {M : Model} {A : Around} {vs ks : List Value} {s : Shared} {Q' : Unit → Shared → Prop} (hq : Q' () s) : wpAny M A (release vs ks) Q' NoE s := fun Γ p hΓ => by rw [Sem.wp_release]; exact hq
theorem opw {M : Model} {A : Around} {vs : List Value} {s : Shared} {t : Sem Value} {Q' : Value → Shared → Prop} (hq : wpAny M A t Q' NoE s) : wpAny M A (operate vs t) Q' NoE s := fun Γ p hΓ => by rw [Sem.wp_operate]; exact hq Γ p hΓ
@[reducible] noncomputable def tCmp2 (o1 o2 : CmpOp) (l r1 r2 : TE) : TE := fun k C Q σ => l k C (fun a σ1 => r1 k C (fun b σ2 => vCmp k C o1 a b (fun d σ3 => vBoo d (fun c σ4 => (c = true → r2 k C (fun e σ5 => vCmp k C o2 b e Q σ5) σ4) ∧ (c = false → Q (.bool false) σ4)) σ3) σ2) σ1) σ
theorem SemE.cmp2 {o1 o2 : CmpOp} {l r1 r2 : Expr} {tl t1 t2 : TE} (hm : behindInMarks o2 r2 = false) (hl : SemE F l tl) (h1 : SemE F r1 t1) (h2 : SemE F r2 t2) : SemE F (.Compare l [o1, o2] [r1, r2] pos) (tCmp2 o1 o2 tl t1 t2) := ⟨fun {k C} W {Q σ} h A z s hA hR => by
  show wpAny (Mo C) A (do compareChain pos (← eval l C.env) [o1, o2] (eval r1 C.env :: [markedBehindIn o2 r2 (eval r2 C.env)])) _ _ s
  rw [markedBehindIn_of_false hm]
  refine wpAny_bind ((hl.h W h).go hA hR fun va s1 a σ1 z1 hz1 hR1 ha q1 => ?_)
  show wpAny (Mo C) A (do
    let rv ← holding [va] (eval r1 C.env)
    standAt pos
    let c ← holding [va, rv] (compareOp o1 va rv)
    release [va, rv] [c]
    if ← holding [c, rv] (truthy c) then compareChain pos rv [o2] [eval r2 C.env] else pure c) _ _ s1
  refine wpAny_bind (wpAny_holding ((h1.h W q1).go hA hR1 fun vb s2 b σ2 z2 hz2 hR2 hb q2 => ?_))
  refine wpAny_bind (wpAny_standAt (wpAny_bind (wpAny_holding (wpAny_mono ((vCmp_ok q2).h hA hR2 (ha.mono hz2) hb) (fun vc s3 p => p.elim fun d p => p.elim fun σ3 p => p.elim fun z3 p => (vBoo_out p.2.2.2).elim fun c e => ?_) fun zu zu x => x))))
  obtain ⟨rfl, q3, q4⟩ := e
  refine p.2.2.1.eBool (wpAny_bind (relw (wpAny_bind (wpAny_holding (wpAny_truthy_bool ?_)))))
  have hz : FH.le z z3 := (hz1.trans hz2).trans p.1
  cases c with
  | true =>
    show wpAny (Mo C) A (do
      let rv ← holding [vb] (eval r2 C.env)
      standAt pos
      operate [vb, rv] (compareOp o2 vb rv)) _ _ s3
    exact wpAny_bind (wpAny_holding ((h2.h W (q3 rfl)).go hA p.2.1 fun ve s4 e σ4 z4 hz4 hR4 he q5 => wpAny_bind (wpAny_standAt (opw (wpP ((vCmp_ok q5).h hA hR4 ((hb.mono p.1).mono hz4) he) (hz.trans hz4))))))
  | false => exact wpAny_pure ⟨_, σ3, z3, hz, p.2.1, .bool _, q4 rfl⟩⟩
@[reducible] noncomputable def tbCmp2 (o1 o2 : CmpOp) (l r1 r2 : TE) : TB := fun k C Q σ => l k C (fun a σ1 => r1 k C (fun b σ2 => vCmp k C o1 a b (fun d σ3 => vBoo d (fun c σ4 => (c = true → r2 k C (fun e σ5 => vCmp k C o2 b e (fun d σ6 => vBoo d Q σ6) σ5) σ4) ∧ (c = false → Q false σ4)) σ3) σ2) σ1) σ
theorem SemB.cmp2 {o1 o2 : CmpOp} {l r1 r2 : Expr} {tl t1 t2 : TE} (hm : behindInMarks o2 r2 = false) (hl : SemE F l tl) (h1 : SemE F r1 t1) (h2 : SemE F r2 t2) : SemB F (.Compare l [o1, o2] [r1, r2] pos) (tbCmp2 o1 o2 tl t1 t2) := ⟨fun {k C} W {Q σ} h A z s hA hR => by
  show wpAny (Mo C) A (do testChain pos (← eval l C.env) [o1, o2] (eval r1 C.env :: [markedBehindIn o2 r2 (eval r2 C.env)])) _ _ s
  rw [markedBehindIn_of_false hm]
  refine wpAny_bind ((hl.h W h).go hA hR fun va s1 a σ1 z1 hz1 hR1 ha q1 => ?_)
  show wpAny (Mo C) A (do
    let rv ← holding [va] (eval r1 C.env)
    standAt pos
    let c ← holding [va, rv] (compareOp o1 va rv)
    release [va, rv] [c]
    if ← holding [c, rv] (truthy c) then testChain pos rv [o2] [eval r2 C.env] else pure false) _ _ s1
  refine wpAny_bind (wpAny_holding ((h1.h W q1).go hA hR1 fun vb s2 b σ2 z2 hz2 hR2 hb q2 => ?_))
  refine wpAny_bind (wpAny_standAt (wpAny_bind (wpAny_holding (wpAny_mono ((vCmp_ok q2).h hA hR2 (ha.mono hz2) hb) (fun vc s3 p => p.elim fun d p => p.elim fun σ3 p => p.elim fun z3 p => (vBoo_out p.2.2.2).elim fun c e => ?_) fun zu zu x => x))))
  obtain ⟨rfl, q3, q4⟩ := e
  refine p.2.2.1.eBool (wpAny_bind (relw (wpAny_bind (wpAny_holding (wpAny_truthy_bool ?_)))))
  have hz : FH.le z z3 := (hz1.trans hz2).trans p.1
  cases c with
  | true =>
    show wpAny (Mo C) A (do
      let rv ← holding [vb] (eval r2 C.env)
      standAt pos
      let c ← operate [vb, rv] (compareOp o2 vb rv)
      holding [c] (truthy c)) _ _ s3
    refine wpAny_bind (wpAny_holding ((h2.h W (q3 rfl)).go hA p.2.1 fun ve s4 e σ4 z4 hz4 hR4 he q5 => wpAny_bind (wpAny_standAt (wpAny_bind (opw (wpAny_mono ((vCmp_ok q5).h hA hR4 ((hb.mono p.1).mono hz4) he)
      (fun vf s5 p => p.elim fun d p => p.elim fun σ5 p => p.elim fun z5 p => (vBoo_out p.2.2.2).elim fun c e => ?_) fun zu zu x => x))))))
    obtain ⟨rfl, q6⟩ := e
    exact p.2.2.1.eBool (wpAny_holding (wpAny_truthy_bool ⟨_, σ5, z5, (hz.trans hz4).trans p.1, p.2.1, rfl, q6⟩))
  | false => exact wpAny_pure ⟨_, σ3, z3, hz, p.2.1, rfl, q4 rfl⟩⟩

@[reducible] noncomputable def taNil : TA := fun zu zu Q σ => Q [] σ
@[reducible] noncomputable def taCons (e : TE) (es : TA) : TA := fun k C Q σ => e k C (fun d σ1 => es k C (fun ds σ2 => Q (d :: ds) σ2) σ1) σ
theorem SemA.nil : SemA F [] taNil := ⟨fun {k C pos} W {Q σ} q A z s hA hR => wpAny_items_nil ⟨[], σ, z, .refl z, hR, .nil, rfl, q⟩⟩
theorem SemA.cons {e : Expr} {es : List Expr} {t : TE} {ts : TA} (he : ∀ env, starEach (e :: es) env = (false, eval e env) :: starEach es env) (h1 : SemE F e t) (h2 : SemA F es ts) : SemA F (e :: es) (taCons t ts) := ⟨fun {k C pos} W {Q σ} h A z s hA hR =>
  wpAny_items_cons ((h1.h W h).go hA hR fun v s1 d σ1 z1 hz1 hR1 hd q1 => (h2.h W q1).go hA hR1 fun vs s2 ds σ2 z2 hz2 hR2 hds q2 => ⟨d :: ds, σ2, z2, hz1.trans hz2, hR2, .cons (hd.mono hz2) hds, congrArg (· + 1) q2.1, q2.2⟩) (he _)⟩
@[reducible] noncomputable def tTup (es : TA) : TE := fun k C Q σ => es k C (fun ds σ1 => Q (.tup ds) σ1) σ
theorem SemE.tup {es : List Expr} {c : Nat} {t : TA} (hl : es.length ≤ 16777216) (h : SemA F es t) : SemE F (.Tuple es c pos) (tTup t) := ⟨fun W Q σ q A z s hA hR => wpAny_Tuple ((h.h W q).go hA hR fun vs s1 ds σ1 z1 hz1 hR1 hds q1 =>
  ⟨by rw [← hds.length, sizeLine_eq, q1.1]; exact hl, Post.tupN hz1 hR1 hds q1.2⟩)⟩
structure LstOK (k : Nat) (C : FC) (ds : List V) (Q : V → St → Prop) (σ : St) : Prop where
  h : (∃ _ : Unit, Q (.list ds) σ) ∨ ∀ a, a ∉ σ.mem.map (·.1) → Q (.mut a) { σ with mem := (a, ds) :: σ.mem }
theorem LstOK.still {k : Nat} {C : FC} {ds : List V} {Q : V → St → Prop} {σ : St} (q : Q (.list ds) σ) : LstOK k C ds Q σ := ⟨.inl ⟨(), q⟩⟩
theorem LstOK.grow {k : Nat} {C : FC} {ds : List V} {Q : V → St → Prop} {vars : List V} {mem : List (Addr × List V)} {raw : List (Addr × Obj)} (q : ∀ a, a ∉ mem.map (·.1) → Q (.mut a) ⟨vars, (a, ds) :: mem, raw⟩) : LstOK k C ds Q ⟨vars, mem, raw⟩ := ⟨.inr q⟩
@[reducible] noncomputable def tLst (es : TA) : TE := fun k C Q σ => es k C (fun ds σ1 => LstOK k C ds Q σ1) σ
theorem SemE.lst {es : List Expr} {t : TA} (hl : es.length ≤ 16777216) (h : SemA F es t) : SemE F (.List es pos) (tLst t) := ⟨fun W Q σ q A z s hA hR => wpAny_List ((h.h W q).go hA hR fun vs s1 ds σ1 z1 hz1 hR1 hds q1 =>
  ⟨by rw [← hds.length, sizeLine_eq, q1.1]; exact hl, q1.2.h.elim (fun q => q.elim fun zu q => Post.lstN hz1 hR1 hds q) fun q => Post.mutN hz1 hR1 hds q⟩)⟩

noncomputable def isSq (σ : St) : V → Prop
  | .str _ | .list _ | .tup _ => True
  | .mut a => ∃ xs, memGet σ.mem a = some xs
  | _ => False
theorem getitem_look {C : FC} {σ : St} {z : FH} {s : Shared} {d : V} {v : Value} (r : Rel C z σ s) (hv : Rep z d v) (h : isSq σ d) :
    ∃ T id, s.TypeIs v T ∧ typeLookup (.type T) "__getitem__" = pure (some (.builtin id)) := by
  cases d with
  | str x => exact hv.eStr fun zu => ⟨"str", _, rfl, F.slot_str_getitem.lookup⟩
  | tup l => exact hv.eTup fun a vs n e hr => ⟨"tuple", _, ⟨_, r.frz _ _ e, rfl⟩, slot_tuple_getitem.lookup⟩
  | list l => exact hv.eList fun a vs n e hr => ⟨"list", _, ⟨_, r.frz _ _ e, rfl⟩, slot_list_getitem.lookup⟩
  | «mut» a => exact hv.eMut (let ⟨xs, hx⟩ := h; let ⟨_, _, _, vs, n, e, hr⟩ := r.mem _ _ (memGet_mem hx); ⟨"list", _, ⟨_, e, rfl⟩, slot_list_getitem.lookup⟩)
  | _ => exact h.elim
theorem ItmOK.sq {k : Nat} {C : FC} {a i : V} {Q : V → St → Prop} {σ : St} : True := trivial
structure IdxOK (k : Nat) (C : FC) (a i : V) (Q : V → St → Prop) (σ : St) : Prop where
  sq : isSq σ a
  h : ItmOK k C a i Q σ
@[reducible] noncomputable def tIdx (v i : TE) : TE := fun k C Q σ => v k C (fun a σ1 => i k C (fun j σ2 => IdxOK k C a j Q σ2) σ1) σ
theorem SemE.idx {v i : Expr} {tv ti : TE} (hs : ∀ o j, subscripted i false o j = operate [o, j] (getItem o j)) (hv : SemE F v tv) (hi : SemE F i ti) : SemE F (.Subscript v i pos) (tIdx tv ti) := ⟨fun W Q σ q A z s hA hR =>
  Subscript_ ((hv.h W q).go hA hR fun va s1 a σ1 z1 hz1 hR1 ha q1 => (hi.h W q1).go hA hR1 fun vi s2 j σ2 z2 hz2 hR2 hj q2 =>
    (getitem_look hR2 (ha.mono hz2) q2.sq).elim fun T t => t.elim fun id t => tail_any t.1 t.2 (wpP (q2.h.h hA hR2 (ha.mono hz2) hj) (hz1.trans hz2)) (hs _ _))⟩
inductive RepP : Option Int → Value → Prop where
  | none : RepP none .none
  | int (i : Int) (t : Tok) : RepP (some i) (.int i t)
noncomputable def WP (k : Nat) (C : FC) (e : Option Expr) (Q : Option Int → St → Prop) (σ : St) : Prop := WT k C (evalPart e C.env) (fun zu => RepP) Q σ
structure SemP (F : FS) (e : Option Expr) (t : TP) : Prop where
  h : ∀ {k C}, Wf C F → ∀ {Q σ}, t k C Q σ → WP k C e Q σ
@[reducible] noncomputable def tpNone : TP := fun zu zu Q σ => Q none σ
@[reducible] noncomputable def tpSome (e : TE) : TP := fun k C Q σ => e k C (fun d σ1 => match d with | .int i => Q (some i) σ1 | _ => False) σ
theorem SemP.none : SemP F none tpNone := ⟨fun {k C} W {Q σ} q A z s hA hR => wpAny_pure ⟨_, σ, z, .refl z, hR, .none, q⟩⟩
theorem SemP.some {e : Expr} {t : TE} (h : SemE F e t) : SemP F (some e) (tpSome t) := ⟨fun {k C} W {Q σ} q A z s hA hR =>
  show wpAny (Mo C) A (eval e C.env) _ _ s from (h.h W q).go hA hR fun v s1 d σ1 z1 hz1 hR1 hd q1 => by
    cases d with
    | int i => exact hd.eInt fun t => ⟨_, σ1, z1, hz1, hR1, .int i t, q1⟩
    | _ => exact q1.elim⟩
structure SlcOK (k : Nat) (C : FC) (a : V) (l u st : Option Int) (Q : V → St → Prop) (σ : St) : Prop where
  sq : isSq σ a
  h : ∀ {A z s va b vl vu vt}, Room k A → Rel C z σ s → Rep z a va → RepP l vl → RepP u vu → RepP st vt → s.heap.get? b = some { cls := .type "slice", data := .fields #[vl, vu, vt] } →
    wpAny (Mo C) A (getItem va (.ref b)) (Post C Rep Q z) NoE s
@[reducible] noncomputable def tSlc (v : TE) (l u st : TP) : TE := fun k C Q σ => v k C (fun a σ1 => l k C (fun li σ2 => u k C (fun ui σ3 => st k C (fun si σ4 => SlcOK k C a li ui si Q σ4) σ3) σ2) σ1) σ
theorem SemE.slc {v : Expr} {l u st : Option Expr} {p : Pos} {tv : TE} {tl tu ts : TP} (hs : ∀ o i, ∃ ops, subscripted (.Slice l u st p) false o i = operate ops (getItem o i)) (hv : SemE F v tv) (hl : SemP F l tl) (hu : SemP F u tu) (ht : SemP F st ts) :
    SemE F (.Subscript v (.Slice l u st p) pos) (tSlc tv tl tu ts) := ⟨fun W Q σ q A z s hA hR =>
  Subscript_ ((hv.h W q).go hA hR fun va s1 a σ1 z1 hz1 hR1 ha q1 => wpAny_Slice ((hl.h W q1).go hA hR1 fun vl s2 li σ2 z2 hz2 hR2 hl q2 => (hu.h W q2).go hA hR2 fun vu s3 ui σ3 z3 hz3 hR3 hu q3 => (ht.h W q3).go hA hR3 fun vt s4 si σ4 z4 hz4 hR4 ht q4 => by
    have hz : FH.le z1 z4 := (hz2.trans hz3).trans hz4
    have hR5 : Rel _ z4 σ4 { s4 with heap := s4.heap.push { cls := .type "slice", data := .fields #[vl, vu, vt] } } := hR4.junk rfl rfl rfl
    obtain ⟨T, id, t1, t2⟩ := getitem_look hR5 (ha.mono hz) q4.sq
    obtain ⟨ops, ho⟩ := hs va (.ref s4.heap.objs.size)
    exact tail_any t1 t2 (wpP (q4.h hA hR5 (ha.mono hz) hl hu ht (Heap.get?_push_size _ rfl)) (hz1.trans hz)) ho))⟩
end
end Mine
namespace Mine

noncomputable abbrev UPost (C : FC) (z : FH) (Q : St → Prop) : Unit → Shared → Prop := fun zu s' => ∃ σ' z', FH.le z z' ∧ Rel C z' σ' s' ∧ Q σ'
noncomputable def AsgOK (k : Nat) (C : FC) (t : Expr) (d : V) (Q : St → Prop) (σ : St) : Prop :=
  ∀ {A z s v}, Room k A → Rel C z σ s → Rep z d v → wpAny (Mo C) A (assign t C.env v) (UPost C z Q) NoE s
noncomputable def AsgsOK (k : Nat) (C : FC) (ts : List Expr) (ds : List V) (Q : St → Prop) (σ : St) : Prop :=
  ∀ {A z s vs}, Room k A → Rel C z σ s → Reps z ds vs → wpAny (Mo C) A (assignInOrder ((assignEach ts C.env).map (·.2)) vs) (UPost C z Q) NoE s
noncomputable def StoOK (C : FC) (x : Str) (d : V) (Q : St → Prop) (σ : St) : Prop :=
  ∀ {A z s v}, Rel C z σ s → Rep z d v → wpAny (Mo C) A (storeName C.env x v) (UPost C z Q) NoE s
noncomputable abbrev TGs := Nat → FC → List V → (St → Prop) → St → Prop
structure SemN (F : FS) (x : Str) (t : TG) : Prop where
  h : ∀ {k C}, Wf C F → ∀ {d Q σ}, t k C d Q σ → StoOK C x d Q σ
structure SemT (F : FS) (e : Expr) (t : TG) : Prop where
  h : ∀ {k C}, Wf C F → ∀ {d Q σ}, t k C d Q σ → AsgOK k C e d Q σ
structure SemTs (F : FS) (es : List Expr) (t : TGs) : Prop where
  h : ∀ {k C}, Wf C F → ∀ {ds Q σ}, t k C ds Q σ → AsgsOK k C es ds Q σ
section
variable {F : FS} {pos : Pos}
@[reducible] noncomputable def tgVar (i : Ix) : TG := fun zu zu d Q σ => match σ with
  | ⟨vars, mem, raw⟩ => Q ⟨vSet i vars d, mem, raw⟩
theorem SemN.loc {x : Str} {i : Ix} (h : AtK F.nk i x .local) : SemN F x (tgVar i) := ⟨fun {k C} W {d Q σ} q A z s v hR hv => by
  obtain ⟨m, hm, _⟩ := hR.ns
  refine wpAny_storeName_local (W.kd h) hm (fun h' hn hs => ⟨_, z, .refl z, hR.setL (W.at h) (W.kd h) hv ?_ hs rfl rfl, vSet_eq _ _ _ ▸ q⟩) ?_
  · intro m2 hm2
    obtain ⟨o, es, ep, a1, a2, a3, a4⟩ := hm
    obtain ⟨o', es', ep', b1, b2, b3, b4⟩ := hm2
    rw [a1] at b1; cases b1; rw [a2] at b2; cases b2
    rw [show m2 = m from funext fun n => (b4 n).symm.trans (a4 n)]; exact hn
  · show (C.env.scope.kind == .class || (C.env.scope.kind == .module && C.env.locals != C.env.globals)) = false
    rw [hR.ok.kind]; rfl⟩
theorem Rel.celAt {C : FC} {z : FH} {σ : St} {s : Shared} (hR : Rel C z σ s) {i : Nat} {x : Str} (hi : C.names[i]? = some x) (hk : isCel (C.env.kindOf x) = true) (hl : i < σ.vars.length) : ∃ c ov, C.env.cells.lookup x = some c ∧ s.heap.IsCell c ov :=
  let ⟨c, ov, h1, h2, _⟩ := hR.cel i x _ hi (List.getElem?_eq_getElem hl) hk
  ⟨c, ov, h1, h2⟩
@[reducible] noncomputable def vHas : Ix → List V → Prop → Prop
  | .z, _ :: _, P => P
  | .s i, _ :: l, P => vHas i l P
  | _, [], _ => False
theorem vHas_out : ∀ {i : Ix} {l : List V} {P : Prop}, vHas i l P → i.n < l.length ∧ P
  | .z, _ :: _, _, h => ⟨Nat.succ_pos _, h⟩
  | .s i, _ :: l, _, h => let ⟨a, b⟩ := vHas_out (i := i) (l := l) h; ⟨Nat.succ_lt_succ a, b⟩
  | .z, [], _, h => h.elim
  | .s _, [], _, h => h.elim
@[reducible] noncomputable def tgCel (i : Ix) : TG := fun zu zu d Q σ => match σ with
  | ⟨vars, mem, raw⟩ => vHas i vars (Q ⟨vSet i vars d, mem, raw⟩)
theorem SemN.cell {x : Str} {i : Ix} (hw : F.own = true) (h : AtK F.nk i x .cell) : SemN F x (tgCel i) := ⟨fun {k C} W {d Q σ} q A z s v hR hv =>
  have hk : isCel (C.env.kindOf x) = true := by rw [W.kd h]; rfl
  have q := vHas_out q
  let ⟨c, ov, hc, hcv⟩ := hR.celAt (W.at h) hk q.1
  wpAny_storeName_cell hR.ok.kind (W.kd h) hc hcv fun h' hn hs => ⟨_, z, .refl z, hR.setC (W.own hw) (W.at h) hk hc hv hn ⟨_, hcv⟩ hs rfl rfl, vSet_eq _ _ _ ▸ q.2⟩⟩
theorem SemT.name {x : Str} {t : TG} (h : SemN F x t) : SemT F (.Name x pos) t := ⟨fun {k C} W {d Q σ} q A z s v hA hR hv => assign_Name (h.h W q hR hv)⟩
@[reducible] noncomputable def tgsNil : TGs := fun zu zu ds Q σ => match ds with
  | [] => Q σ
  | _ => False
@[reducible] noncomputable def tgsCons (t : TG) (ts : TGs) : TGs := fun k C ds Q σ => match ds with
  | d :: ds => t k C d (fun σ1 => ts k C ds Q σ1) σ
  | [] => False
@[reducible] noncomputable def vLen : Ix → List V → Prop → Prop
  | .z, [], P => P
  | .s n, _ :: l, P => vLen n l P
  | _, _, _ => False
theorem vLen_out : ∀ {n : Ix} {l : List V} {P : Prop}, vLen n l P → n.n = l.length ∧ P
  | .z, [], _, h => ⟨rfl, h⟩
  | .s n, _ :: l, _, h => let ⟨a, b⟩ := vLen_out (n := n) (l := l) h; ⟨congrArg (· + 1) a, b⟩
  | .z, _ :: _, _, h => h.elim
  | .s _, [], _, h => h.elim
theorem SemTs.nil : SemTs F [] tgsNil := ⟨fun {k C} W {ds Q σ} q A z s vs hA hR hv => by
  cases ds with
  | nil => exact hv.eNil (wpAny_pure ⟨σ, z, .refl z, hR, q⟩)
  | cons _ _ => exact q.elim⟩
theorem SemTs.cons {t : Expr} {ts : List Expr} {u : TG} {us : TGs} (he : ∀ env, assignEach (t :: ts) env = (false, assign t env) :: assignEach ts env) (h : SemT F t u) (hs : SemTs F ts us) : SemTs F (t :: ts) (tgsCons u us) := ⟨fun {k C} W {ds Q σ} q A z s vs hA hR hv => by
  cases ds with
  | nil => exact q.elim
  | cons d ds =>
    rw [he]
    refine hv.eCons fun v vs a r => wpAny_bind (wpAny_holding (wpAny_mono (h.h W q hA hR a) ?_ fun zu zu x => x))
    intro _ s1 p
    exact p.elim fun σ1 p => p.elim fun z1 p => wpAny_mono (hs.h W p.2.2 hA p.2.1 (r.mono p.1)) (fun zu zu w => w.elim fun σ2 w => w.elim fun z2 w => ⟨σ2, z2, p.1.trans w.1, w.2⟩) fun zu zu x => x⟩
theorem isTuple_of {h : Heap} {a : Addr} {vs : List Value} {n : Nat} (e : h.get? a = some (tupO vs.toArray n)) : h.IsTuple a vs.toArray := ⟨_, e, rfl, n, rfl⟩
theorem Rel.extBut {C : FC} {σ : St} {z : FH} {s s' : Shared} (hR : Rel C z σ s) (hx : Heap.ExtBut s.heap.objs.size s.heap s'.heap) (g : s'.gens = s.gens := by rfl) (o : s'.os = s.os := by rfl) : Rel C z σ s' :=
  have hk : ∀ a o, s.heap.get? a = some o → s'.heap.get? a = some o := fun a o e => hx a o (Nat.ne_of_lt (Heap.lt_size e)) e
  hR.ext (fun a o zu e => hk a o e) (.refl z) (fun a o e => hk _ _ (hR.frz _ _ e)) (fun a o e => .inl e) (hR.tab.keeps hk) (g ▸ hR.bare) o
@[reducible] noncomputable def tgTup (n : Ix) (ts : TGs) : TG := fun k C d Q σ => match d with
  | .tup ds => vLen n ds (ts k C ds Q σ)
  | _ => False
theorem SemT.tup {ts : List Expr} {c : Nat} {us : TGs} {n : Ix} (hn : ts.length = n.n) (h1 : ∀ env, (assignEach ts env).length = ts.length) (h2 : ∀ env, (assignEach ts env).findIdx? (·.1) = none) (h : SemTs F ts us) : SemT F (.Tuple ts c pos) (tgTup n us) := ⟨fun {k C} W {d Q σ} q A z s v hA hR hv => by
  cases d with
  | tup ds =>
    have q' := vLen_out q
    refine tup_e hR hv fun a vs n' e hr => ?_
    show wpAny (Mo C) A (do standAt pos; unpack (.ref a) (assignEach ts C.env)) _ _ s
    refine wpAny_bind (wpAny_standAt (wpAny_unpack_tuple hA.h (isTuple_of e) ?_ (h2 _) (fun h' hx => ?_)))
    · rw [h1, hn, q'.1, hr.length, List.size_toArray]
    · exact h.h W q'.2 hA (hR.extBut hx) hr
  | _ => exact q.elim⟩
end

structure SemS (F : FS) (st : Stmt) (t : TS) : Prop where
  h : ∀ {k C}, Wf C F → ∀ {Q σ}, t k C Q σ → WS k C st Q σ
structure SemSs (F : FS) (sts : List Stmt) (t : TS) : Prop where
  h : ∀ {k C}, Wf C F → ∀ {Q σ}, t k C Q σ → WSs k C sts Q σ
section
variable {F : FS} {pos : Pos}
theorem SemS.raw (st : Stmt) : SemS F st (fun k C Q σ => WS k C st Q σ) := ⟨fun zu zu zu h => h⟩
set_option tactic.hygienic true in
@[reducible] noncomputable def tsNil : TS := fun zu zu Q σ => Q .next σ
@[reducible] noncomputable def tsSeq (t ts : TS) : TS := fun k C Q σ => t k C (fun f σ1 => match f with
  | .next => ts k C Q σ1
  | f => Q f σ1) σ
theorem SemSs.nil : SemSs F [] tsNil := ⟨fun {k C} W {Q σ} q A z s hA hR => wpAny_execs_nil ⟨.next, σ, z, .refl z, hR, .next, q⟩⟩
theorem SemSs.cons {st : Stmt} {sts : List Stmt} {t ts : TS} (h : SemS F st t) (hs : SemSs F sts ts) : SemSs F (st :: sts) (tsSeq t ts) := ⟨fun {k C} W {Q σ} q A z s hA hR =>
  wpAny_execs_cons ((h.h W q).go hA hR fun f s1 d σ1 z1 hz1 hR1 hd h1 => by
    cases hd with
    | next => exact (hs.h W h1).fin hA hR1 hz1
    | brk => exact ⟨_, σ1, z1, hz1, hR1, .brk, h1⟩
    | cont => exact ⟨_, σ1, z1, hz1, hR1, .cont, h1⟩
    | ret hv => exact ⟨_, σ1, z1, hz1, hR1, .ret hv, h1⟩)⟩
theorem SemSs.one {st : Stmt} {t : TS} (h : SemS F st t) : SemSs F [st] t := ⟨fun {k C} W {Q σ} q A z s hA hR =>
  wpAny_execs_cons ((h.h W q).go hA hR fun f s1 d σ1 z1 hz1 hR1 hd h1 => by
    cases hd with
    | next => exact wpAny_execs_nil ⟨_, σ1, z1, hz1, hR1, .next, h1⟩
    | brk => exact ⟨_, σ1, z1, hz1, hR1, .brk, h1⟩
    | cont => exact ⟨_, σ1, z1, hz1, hR1, .cont, h1⟩
    | ret hv => exact ⟨_, σ1, z1, hz1, hR1, .ret hv, h1⟩)⟩
@[reducible] noncomputable def tsAsg (e : TE) (t : TG) : TS := fun k C Q σ => e k C (fun d σ1 => t k C d (Q .next) σ1) σ
set_option tactic.hygienic true in
theorem uFin {C : FC} {A : Around} {t : Sem Unit} {z0 z : FH} {s : Shared} {Q : Fl → St → Prop} (hz : FH.le z0 z) (h : wpAny (Mo C) A t (UPost C z (Q .next)) NoE s) : wpAny (Mo C) A t (fun zu s' => Post C RepF Q z0 .next s') NoE s :=
  wpAny_mono h (fun zu zu w => w.elim fun σ2 w => w.elim fun z2 w => ⟨.next, σ2, z2, hz.trans w.1, w.2.1, .next, w.2.2⟩) fun zu zu x => x
theorem SemS.asg {x : Str} {p : Pos} {e : Expr} {te : TE} {tt : TG} (hs : ∀ C, Wf C F → swapsWith e (some (.Name x p)) pos.line C.env = pure false) (he : SemE F e te) (ht : SemN F x tt) : SemS F (.Assign [.Name x p] e pos) (tsAsg te tt) := ⟨fun {k C} W {Q σ} q A z s hA hR =>
  wpAny_Assign_Name ((he.h W q).go hA hR fun v s1 d σ1 z1 hz1 hR1 hd h1 => uFin hz1 (ht.h W h1 hR1 hd)) (hs C W)⟩
theorem asgC_swaps {x : Str} {i : Ix} {p sp : Pos} {elt : Expr} {gens : List Comprehension} {scope : Scope} (hk : AtK F.nk i x .cell) : ∀ C, Wf C F → swapsWith (.ListComp elt gens scope sp) (some (.Name x p)) pos.line C.env = pure false := fun C W => by
  show (pure _ : Sem Bool) = _
  rw [W.kd hk, show ((some NameKind.cell : Option NameKind) == some .local) = false from rfl, Bool.and_false, Bool.false_and, Bool.false_and]
theorem SemS.asgT {ts : List Expr} {c : Nat} {tp : Pos} {e : Expr} {te : TE} {tt : TG} (hs : ∀ env, swapsWithSole [.Tuple ts c tp] e pos.line env = pure false) (hw : ∀ env, swappedStores [.Tuple ts c tp] e env = pure none) (he : SemE F e te) (ht : SemT F (.Tuple ts c tp) tt) :
    SemS F (.Assign [.Tuple ts c tp] e pos) (tsAsg te tt) := ⟨fun {k C} W {Q σ} q A z s hA hR =>
  Assign_Tuple ((he.h W q).go hA hR fun v s1 d σ1 z1 hz1 hR1 hd h1 => uFin hz1 (ht.h W h1 hA hR1 hd)) (hs _) (hw _)⟩
@[reducible] noncomputable def tsAsg2 (e : TE) (a b : TG) : TS := fun k C Q σ => e k C (fun d σ1 => match d with
  | .tup [x, y] => b k C y (fun σ2 => a k C x (Q .next) σ2) σ1
  | _ => False) σ
theorem SemS.asgS {ts : List Expr} {c : Nat} {tp : Pos} {e : Expr} {a b : Str} {te : TE} {ta tb : TG} (hw : ∀ env, swappedStores [.Tuple ts c tp] e env = pure (some [a, b])) (hs : ∀ env, swapsWithSole [.Tuple ts c tp] e pos.line env = pure false)
    (he : SemE F e te) (ha : SemN F a ta) (hb : SemN F b tb) : SemS F (.Assign [.Tuple ts c tp] e pos) (tsAsg2 te ta tb) := ⟨fun {k C} W {Q σ} q A z s hA hR => by
  refine Assign_Tuple_swapped (names := [a, b]) ((he.h W q).go hA hR fun v s1 d σ1 z1 hz1 hR1 hd h1 => ?_) (hs _) (hw _)
  obtain ⟨x, y, rfl, h1⟩ : ∃ x y, d = .tup [x, y] ∧ tb k C y (fun σ2 => ta k C x (Q .next) σ2) σ1 := by
    cases d with
    | tup l =>
      match l, h1 with
      | [x, y], h1 => exact ⟨x, y, rfl, h1⟩
    | _ => exact h1.elim
  refine tup_e hR1 hd fun t vs n e hr => hr.e2 (m := fun vs => s1.heap.get? t = some (tupO vs.toArray n) → _) (fun v1 v2 hx hy e => ?_) e
  refine wpAny_unpackItems_tuple (prog := C.T.prog) (w := C.T.w) (items := [_, _].toArray) hA.h (isTuple_of e) (fun h' hx' => ?_)
  have hR2 : Rel C z1 σ1 { s1 with heap := h' } := hR1.extBut hx'
  refine wpAny_bind (wpAny_holding (wpAny_bindName (wpAny_mono (hb.h W h1 hR2 hy) (fun zu s3 w => w.elim fun σ3 w => w.elim fun z3 w => ?_) fun zu zu x => x)))
  refine wpAny_bind (wpAny_holding (wpAny_bindName (wpAny_mono (ha.h W w.2.2 w.2.1 (hx.mono w.1)) (fun zu s4 u => u.elim fun σ4 u => u.elim fun z4 u => ?_) fun zu zu x => x)))
  exact wpAny_pure ⟨.next, σ4, z4, (hz1.trans w.1).trans u.1, u.2.1, .next, u.2.2⟩⟩
@[reducible] noncomputable def tsAug (i : Ix) (op : Operator) (e : TE) (t : TG) : TS := fun k C Q σ => vGet i σ.vars fun a => e k C (fun b σ2 => vIBin k C op a b (fun d σ3 => t k C d (Q .next) σ3) σ2) σ
theorem SemS.aug {x : Str} {p : Pos} {op : Operator} {e : Expr} {i : Ix} {te : TE} {tt : TG} (h : AtK F.nk i x .local) (he : SemE F e te) (ht : SemN F x tt) : SemS F (.AugAssign (.Name x p) op e pos) (tsAug i op te tt) := ⟨fun {k C} W {Q σ} q A z s hA hR =>
  let ⟨a, hd, hu, h1⟩ := vGet_out q
  let ⟨m, hm, hh⟩ := hR.ns
  let ⟨va, hv, ha⟩ := hh i.n x a (W.at h) hd hu (W.kd h)
  wpAny_AugAssign_Name (wpAny_loadName_local hR.ok.kind (W.kd h) hm hv ((he.h W h1).go hA hR fun vb s2 b σ2 z2 hz2 hR2 hb h2 =>
    wpAny_mono ((vIBin_ok h2).h hA hR2 (ha.mono hz2) hb) (fun v s3 p => p.elim fun d p => p.elim fun σ3 p => p.elim fun z3 p => uFin (hz2.trans p.1) (ht.h W p.2.2.2 p.2.1 p.2.2.1)) fun zu zu x => x))⟩
set_option tactic.hygienic true in
@[reducible] noncomputable def tsExpr (e : TE) : TS := fun k C Q σ => e k C (fun d σ1 => match d with
  | .none => Q .next σ1
  | _ => False) σ
theorem SemS.expr {e : Expr} {te : TE} (hs : ∀ env, swapsWith e none pos.line env = pure false) (he : SemE F e te) : SemS F (.Expr e pos) (tsExpr te) := ⟨fun {k C} W {Q σ} q A z s hA hR =>
  wpAny_Expr ((he.h W q).go hA hR fun v s1 d σ1 z1 hz1 hR1 hd h1 => by
    cases d with
    | none => exact hd.eNone ⟨.next, σ1, z1, hz1, hR1, .next, h1⟩
    | _ => exact h1.elim) (by unfold interactive; rw [hR.ok.kind]; rfl) (hs _)⟩
@[reducible] noncomputable def tsIf (t : TB) (b o : TS) : TS := fun k C Q σ => t k C (fun c σ1 => (c = true → b k C Q σ1) ∧ (c = false → o k C Q σ1)) σ
theorem SemS.ite {t : Expr} {b o : List Stmt} {tt : TB} {tb to : TS} (ht : SemB F t tt) (hb : SemSs F b tb) (ho : SemSs F o to) : SemS F (.If t b o pos) (tsIf tt tb to) := ⟨fun {k C} W {Q σ} q A z s hA hR =>
  wpAny_If ((ht.h W q).go hA hR fun c zu c' zu zu hz1 hR1 e h1 => by
    cases e
    cases c with
    | true => exact (hb.h W (h1.1 rfl)).fin hA hR1 hz1
    | false => exact (ho.h W (h1.2 rfl)).fin hA hR1 hz1)⟩
set_option tactic.hygienic true in
@[reducible] noncomputable def tsJoin (t : TS) : TS := fun k C Q σ => ∃ K : St → Prop, t k C (fun f σ1 => match f with
  | .next => K σ1
  | f => Q f σ1) σ ∧ ∀ σ', K σ' → Q .next σ'
theorem SemS.join {st : Stmt} {t : TS} (h : SemS F st t) : SemS F st (tsJoin t) := ⟨fun {k C} W {Q σ} q =>
  let ⟨K, q1, q2⟩ := q
  fun A z s hA hR => (h.h W q1).go hA hR fun f s1 d σ1 z1 hz1 hR1 hd h1 => by
    cases hd with
    | next => exact ⟨_, σ1, z1, hz1, hR1, .next, q2 _ h1⟩
    | brk => exact ⟨_, σ1, z1, hz1, hR1, .brk, h1⟩
    | cont => exact ⟨_, σ1, z1, hz1, hR1, .cont, h1⟩
    | ret hv => exact ⟨_, σ1, z1, hz1, hR1, .ret hv, h1⟩⟩
theorem SemS.ifJ {t : Expr} {b o : List Stmt} {tt : TB} {tb to : TS} (hj : F.J.contains pos.line = true) (ht : SemB F t tt) (hb : SemSs F b tb) (ho : SemSs F o to) : SemS F (.If t b o pos) (tsJoin (tsIf tt tb to)) := SemS.join (SemS.ite ht hb ho)
@[reducible] noncomputable def tsRet (e : TE) : TS := fun k C Q σ => e k C (fun d σ1 => Q (.ret d) σ1) σ
theorem SemS.ret {e : Expr} {te : TE} (he : SemE F e te) : SemS F (.Return (some e) pos) (tsRet te) := ⟨fun {k C} W {Q σ} q A z s hA hR =>
  wpAny_Return_some ((he.h W q).go hA hR fun v s1 d σ1 z1 hz1 hR1 hd h1 => ⟨.ret d, σ1, z1, hz1, hR1, .ret hd, h1⟩)⟩
@[reducible] noncomputable def tsFl (f : Fl) : TS := fun zu zu Q σ => Q f σ
theorem SemS.brk : SemS F (.Break pos) (tsFl .brk) := ⟨fun {k C} W {Q σ} q A z s hA hR => wpAny_Break ⟨_, σ, z, .refl z, hR, .brk, q⟩⟩
theorem SemS.cont : SemS F (.Continue pos) (tsFl .cont) := ⟨fun {k C} W {Q σ} q A z s hA hR => wpAny_Continue ⟨_, σ, z, .refl z, hR, .cont, q⟩⟩
set_option tactic.hygienic true in
@[reducible] noncomputable def tsAsrt (t : TB) : TS := fun k C Q σ => t k C (fun c σ1 => c = true ∧ Q .next σ1) σ
theorem SemS.asrt {t : Expr} {m : Option Expr} {tt : TB} (ht : SemB F t tt) : SemS F (.Assert t m pos) (tsAsrt tt) := ⟨fun {k C} W {Q σ} q A z s hA hR =>
  wpAny_Assert_holds ((ht.h W q).go hA hR fun c s1 c' σ1 z1 hz1 hR1 e h1 => ⟨Eq.trans (Eq.symm e) h1.1, .next, σ1, z1, hz1, hR1, .next, h1.2⟩)⟩

theorem noted_of {M : Model} {A : Around} {env : Env} {α : Type} {t : Sem α} {Q : α → Shared → Prop} {E' : Value → Shared → Prop} {s : Shared} (h : wpAny M A t Q NoE s) : wpAny M A t Q E' s := wpAny_mono h (fun zu zu x => x) fun zu zu x => x.elim
set_option tactic.hygienic true in
@[reducible] noncomputable def WhlK (I : Nat → St → Prop) (n : Nat) (Q : Fl → St → Prop) : Fl → St → Prop := fun f σ2 => match f with
  | .next | .cont => ∃ m, m < n ∧ I m σ2
  | .brk => Q .next σ2
  | .ret d => Q (.ret d) σ2
set_option tactic.hygienic true in
@[reducible] noncomputable def tsWhl (t : TB) (b : TS) : TS := fun k C Q σ => ∃ (I : Nat → St → Prop) (n : Nat), I n σ ∧ ∀ n σ, I n σ → t k C (fun c σ1 => (c = true → b k C (WhlK I n Q) σ1) ∧ (c = false → Q .next σ1)) σ
theorem SemS.whl {t : Expr} {b : List Stmt} {tt : TB} {tb : TS} (ht : SemB F t tt) (hb : SemSs F b tb) : SemS F (.While t b [] pos) (tsWhl tt tb) := ⟨fun {k C} W {Q σ} q A z s hA hR => by
  obtain ⟨I, n, h0, turn⟩ := q
  refine wpAny_While (codeAny_mono (R := fun r s' => ∃ f, r = .ok f ∧ Post C RepF Q z f s') ?_ fun r s' p => p.elim fun f p => p.1 ▸ p.2)
  refine codeAny_whileLoop (fun n s' => ∃ σ' z', FH.le z z' ∧ Rel C z' σ' s' ∧ I n σ') ?_ n ⟨σ, z, .refl z, hR, h0⟩
  intro n s1 p
  refine p.elim fun σ1 p => p.elim fun z1 p => noted_of (env := C.env) ((ht.h W (turn n σ1 p.2.2)).go hA p.2.1 fun c s2 c' σ2 z2 hz2 hR2 e h1 => ?_)
  cases e
  have hz := p.1.trans hz2
  cases c with
  | true =>
    refine noted_of (env := C.env) ((hb.h W (h1.1 rfl)).go hA hR2 fun f s3 d σ3 z3 hz3 hR3 hd h3 => ?_)
    cases hd with
    | next => exact h3.elim fun m h3 => ⟨m, h3.1, σ3, z3, hz.trans hz3, hR3, h3.2⟩
    | cont => exact h3.elim fun m h3 => ⟨m, h3.1, σ3, z3, hz.trans hz3, hR3, h3.2⟩
    | brk => exact ⟨_, rfl, .next, σ3, z3, hz.trans hz3, hR3, .next, h3⟩
    | ret hv => exact ⟨_, rfl, _, σ3, z3, hz.trans hz3, hR3, .ret hv, h3⟩
  | false => exact wpAny_execs_nil ⟨_, rfl, .next, σ2, z2, hz, hR2, .next, h1.2 rfl⟩⟩
end
end Mine
namespace Mine
section
variable {k : Nat} {C : FC}
structure IterOK (k : Nat) (C : FC) (d : V) (ds : List V) : Prop where
  h : ∀ {A z σ s v}, Room k A → Rel C z σ s → Rep z d v → ∀ (Q : Value → Shared → Prop),
  (∀ (o : Obj) (fp : List Addr) (P : Nat → Value → Prop) (St : Nat → Heap → Prop), o.isFreed = false →
    (∀ i h, St i h → ∃ ob T vs, h.get? s.heap.objs.size = some ob ∧ ob.cls = .type T ∧ ob.data = .fields vs ∧ ["enumerate", "zip", "dict_itemiterator", "dict_reverseitemiterator", "odict_iterator", "itertools.zip_longest", "itertools.pairwise"].contains T = false) →
    Walks C.T.prog C.T.w A s.heap.objs.size fp [s.heap.objs.size] ds.length P St → St 0 (s.heap.push o) → (∀ b ∈ fp, b = s.heap.objs.size ∨ ∃ ob, z b = some ob) →
    (∀ i v, i < ds.length → P i v → ∃ x, ds[i]? = some x ∧ Rep z x v) → Q (.ref s.heap.objs.size) { s with heap := s.heap.push o }) →
  wpAny (Mo C) A (pyIter v) Q NoE s

theorem IterOK.list {l : List V} : IterOK k C (.list l) l := ⟨fun {A z σ s v} hA hR hv Q hQ => hv.eList fun a vs n e hr => by
  have hl := hR.frz _ _ e
  have hlt : a ≠ s.heap.objs.size := Nat.ne_of_lt (Heap.lt_size hl)
  refine wpAny_pyIter_list (isList_of hl) ?_
  have hsz : vs.toArray.size = l.length := by rw [List.size_toArray, hr.length]
  refine hQ _ [s.heap.objs.size, a] (fun i v => vs.toArray[i]? = some v) (fun i h => h.IsListIter s.heap.objs.size a i ∧ h.IsList a vs.toArray) rfl ?_ (hsz ▸ Walks.list hA.h s.heap.objs.size a hlt vs.toArray) ⟨⟨_, Heap.get?_push_size _ rfl, rfl, rfl⟩, (isList_of hl).at fun o h => Heap.get?_push_of_some _ h⟩ ?_ ?_
  · rintro i h ⟨⟨o, h1, h2, h3⟩, _⟩
    exact ⟨o, _, _, h1, h2, h3, by decide⟩
  · intro b hb
    simp only [List.mem_cons, List.not_mem_nil, or_false] at hb
    rcases hb with rfl | rfl
    · exact .inl rfl
    · exact .inr ⟨_, e⟩
  · intro i v _ h
    exact hr.get' (by simpa using h)⟩
theorem IterOK.range {a b c : Int} {n : Nat} (hc : c = 1 ∨ c = -1) (hn : Builtin.Range.rangeSize a b c = n) (ha : -1000000 ≤ a ∧ a ≤ 1000000) (hb : -1000000 ≤ b ∧ b ≤ 1000000) (hn2 : n ≤ 2000000) :
    IterOK k C (.rng a b c) ((List.range n).map fun (i : Nat) => V.int (a + (i : Int) * c)) := ⟨fun {A z σ s v} hA hR hv Q hQ => hv.eRng fun x t u w e => by
  have hl := hR.frz _ _ e
  refine wpAny_pyIter_range hl ?_ ?_
  · unfold Builtin.Range.small
    rw [hn]
    have : (decide (c > 0) = true ∨ decide (c > 0) = false) := by cases decide (c > 0) <;> simp
    rcases hc with rfl | rfl <;> simp [Builtin.Range.rangeFitsLong] <;> lia
  · rw [hn]
    refine hQ _ [s.heap.objs.size] (fun i v => ∃ t, v = Value.int (a + (i : Int) * c) t) (fun i h => IsRangeIter h s.heap.objs.size (a + ((i : Nat) : Int) * c) ((n : Int) - ((i : Nat) : Int)) c) rfl ?_ (by
      rw [List.length_map, List.length_range]; exact Walks.range hA.h _ a c n) (by
      show IsRangeIter _ _ (a + ((0 : Nat) : Int) * c) ((n : Int) - ((0 : Nat) : Int)) c
      have := Heap.get?_push_size s.heap (o := { cls := .type "range_iterator", data := .fields #[rawInt a, rawInt n, rawInt c] }) rfl
      simpa using this) ?_ ?_
    · intro i h hh
      exact ⟨_, _, _, hh, rfl, rfl, by decide⟩
    · intro b hb
      simp only [List.mem_cons, List.not_mem_nil, or_false] at hb
      exact .inl hb
    · rintro i v hi ⟨t, rfl⟩
      rw [List.length_map, List.length_range] at hi
      exact ⟨_, by rw [List.getElem?_map, List.getElem?_range hi]; rfl, .int _ _⟩⟩
theorem IterOK.str {x : List Nat} : IterOK k C (.str x) (x.map fun c => V.str [c]) := ⟨fun {A z σ s v} hA hR hv Q hQ => hv.eStr fun t => by
  have fin : ∀ T W, (∀ i h, (fun i (h : Heap) => h.IsStrIter s.heap.objs.size T (S x) t i) i h → ["enumerate", "zip", "dict_itemiterator", "dict_reverseitemiterator", "odict_iterator", "itertools.zip_longest", "itertools.pairwise"].contains T = false) → W = Walks C.T.prog C.T.w A s.heap.objs.size [s.heap.objs.size] [s.heap.objs.size] (S x).cps.size (SignAt (S x)) (fun i h => h.IsStrIter s.heap.objs.size T (S x) t i) → W →
      Q (.ref s.heap.objs.size) { s with heap := s.heap.push { cls := .type T, data := .fields #[.str (S x) t, .int 0 0] } } := fun T W hT hW w => by
    subst hW
    refine hQ _ [s.heap.objs.size] (SignAt (S x)) (fun i h => h.IsStrIter s.heap.objs.size T (S x) t i) rfl ?_ (by rw [List.length_map]; exact (show (S x).cps.size = x.length by simp) ▸ w) ⟨_, Heap.get?_push_size _ rfl, rfl, rfl⟩ ?_ ?_
    · rintro i h hh
      obtain ⟨o, h1, h2, h3⟩ := id hh
      exact ⟨o, _, _, h1, h2, h3, hT i h hh⟩
    · intro b hb
      simp only [List.mem_cons, List.not_mem_nil, or_false] at hb
      exact .inl hb
    · rintro i v hi ⟨c, u, hc, rfl⟩
      have hc' : x[i]? = some c := by simpa using hc
      exact ⟨.str [c], by rw [List.getElem?_map, hc']; rfl, .str [c] u⟩
  cases ha : (S x).cps.all (· < 128) with
  | true => exact wpAny_pyIter_ascii ha (fin _ _ (fun zu zu zu => by decide) rfl (Walks.strAscii hA.h _ _ _))
  | false => exact wpAny_pyIter_wide ha (fin _ _ (fun zu zu zu => by decide) rfl (Walks.strWide hA.h _ _ _))⟩

theorem letOwned_skip {M : Model} {A : Around} {s : Shared} {target : Expr} {r : Addr} {v : Value} {Q : Unit → Shared → Prop} {E : Value → Shared → Prop} {ob : Obj} {T : String} {vs : Array Value} (h1 : s.heap.get? r = some ob) (h2 : ob.cls = .type T) (h3 : ob.data = .fields vs)
    (h4 : ["enumerate", "zip", "dict_itemiterator", "dict_reverseitemiterator", "odict_iterator", "itertools.zip_longest", "itertools.pairwise"].contains T = false) (q : Q () s) : wpAny M A (letOwnedTupleGo target (.ref r) v) Q E s := by
  have main : ∀ es c, wpAny M A (letOwnedTupleGo (.Tuple es 0 c) (.ref r) v) Q E s := fun zu zu => by
    cases v <;> try exact wpAny_pure q
    refine wpAny_bind (wpAny_load h1 ?_)
    rw [h2, h3]
    dsimp only
    rw [h4]
    exact wpAny_pure q
  cases target
  case Tuple => exact main [] default
  case List => exact main [] default
  all_goals exact wpAny_pure q

end
@[reducible] noncomputable def ForK (I : Nat → List V → List (Addr × List V) → Prop) (i : Nat) (Q : Fl → St → Prop) (raw0 rw : List (Addr × Obj)) : Fl → St → Prop := fun f σ2 => σ2.raw = rw ∧ match f with
  | .next | .cont => I (i + 1) σ2.vars σ2.mem
  | .brk => Q .next ⟨σ2.vars, σ2.mem, raw0⟩
  | .ret d => Q (.ret d) ⟨σ2.vars, σ2.mem, raw0⟩
structure ForOK (k : Nat) (C : FC) (t : TG) (b : TS) (Q : Fl → St → Prop) (d : V) (σ1 : St) : Prop where
  h : ∃ ds, IterOK k C d ds ∧ ∃ I : Nat → List V → List (Addr × List V) → Prop, I 0 σ1.vars σ1.mem ∧
    (∀ i x vars mem rw, ds[i]? = some x → I i vars mem → t k C x (fun σ' => b k C (ForK I i Q σ1.raw rw) σ') ⟨vars, mem, rw⟩) ∧
    ∀ vars mem, I ds.length vars mem → Q .next ⟨vars, mem, σ1.raw⟩
@[reducible] noncomputable def tsFor (t : TG) (it : TE) (b : TS) : TS := fun k C Q σ => it k C (fun d σ1 => ForOK k C t b Q d σ1) σ
inductive ForI (C : FC) (ds : List V) (I : Nat → List V → List (Addr × List V) → Prop) (St : Nat → Heap → Prop) (z1 : FH) (b : Addr) (raw1 : List (Addr × Obj)) (n : Nat) (s : Shared) : Prop
  | mk (i : Nat) (vars : List V) (mem : List (Addr × List V)) (o : Obj) (z : FH) (h1 : z1.le z) (h2 : Rel C z ⟨vars, mem, (b, o) :: raw1⟩ s) (h3 : St i s.heap) (h4 : I i vars mem) (h5 : i ≤ ds.length) (h6 : n = ds.length + 1 - i)
theorem SemS.for {F : FS} {pos : Pos} {target iter : Expr} {b : List Stmt} {tt : TG} {ti : TE} {tb : TS} (hf : ∀ env x, foldedSetIterable iter env x = pure x) (ht : SemT F target tt) (hi : SemE F iter ti) (hb : SemSs F b tb) : SemS F (.For target iter b [] pos) (tsFor tt ti tb) := ⟨fun {k C} W {Q σ} q A z s hA hR => by
  show wpAny (Mo C) A (do
    standAt pos
    let x ← foldedSetIterable iter C.env (← eval iter C.env)
    standAt iter.pos
    runOwn (.forLoop target (← holding [x] (pyIter x)) b [] C.env) C.env) (Post C RepF Q z) NoE s
  refine wpAny_bind (wpAny_standAt (wpAny_bind ((hi.h W q).go hA hR fun v s1 d σ1 z1 hz1 hR1 hd q => ?_)))
  obtain ⟨ds, hit, I, hI0, hstep, hend⟩ := q.h
  rw [hf]
  refine wpAny_bind (wpAny_pure (wpAny_bind (wpAny_standAt (wpAny_bind (wpAny_holding (hit.h hA hR1 hd _ ?_))))))
  intro o fp P St hof hcls Wk hSt0 hfp hP
  obtain ⟨vars1, mem1, raw1⟩ := σ1
  have hn := get_size_none s1.heap
  have hfresh : ∀ p ∈ raw1, p.1 ≠ s1.heap.objs.size := fun p hp q => by
    have := (hR1.raw p.1 p.2 hp).1
    rw [q, hn] at this; cases this
  refine wpAny_runOwn (codeAny_mono (R := fun r s' => ∃ f, r = .ok f ∧ Post C RepF Q z f s') ?_ fun r s' p => p.elim fun f p => p.1 ▸ p.2)
  refine codeAny_forLoop_any (ForI C ds I St z1 s1.heap.objs.size raw1) ?_ (ds.length + 1)
    ⟨0, vars1, mem1, o, z1, .refl z1, hR1.rawNew (s' := { s1 with heap := s1.heap.push o }) hof rfl rfl rfl, hSt0, hI0, Nat.zero_le _, rfl⟩
  rintro n s3 ⟨i, vars, mem, o', z', hz', hR3, hSt, hI, hi, hn⟩
  refine noted_of (env := C.env) ?_
  rcases Nat.lt_or_ge i ds.length with hlt | hge
  · refine Wk.item i s3 _ _ hlt hSt (fun v h' tk hv hSt' hk => ?_)
    obtain ⟨x, hx, hxv⟩ := hP i v hlt hv
    obtain ⟨o2, T, vs, c1, c2, c3, c4⟩ := hcls (i + 1) h' hSt'
    have hraw := hR3.raw _ _ (.head _)
    have hR4 : Rel C z' ⟨vars, mem, (s1.heap.objs.size, o2) :: raw1⟩ { s3 with heap := h', toks := tk } :=
      (hR3.rawOff (s' := { s3 with heap := h', toks := tk }) hfresh (fun b o hb e => hk b o (fun q => hb (List.mem_singleton.mp q)) e) rfl rfl).rawOn c1 hraw.2.1 hraw.2.2.1 hraw.2.2.2.1 hraw.2.2.2.2.1 hraw.2.2.2.2.2.1 hraw.2.2.2.2.2.2
    refine noted_of (env := C.env) (letOwned_skip c1 c2 c3 c4 (noted_of (env := C.env) (wpAny_mono (ht.h W (hstep i x vars mem _ hx hI) hA hR4 (hxv.mono hz')) (fun zu s5 w => w.elim fun σ5 w => w.elim fun z5 w => ?_) fun zu zu x => x)))
    refine noted_of (env := C.env) ((hb.h W w.2.2).go hA w.2.1 fun f s6 fl σ6 z6 hz6 hR6 hfl hq => ?_)
    obtain ⟨vars6, mem6, raw6⟩ := σ6
    obtain ⟨hrw, hq⟩ := hq
    cases hrw
    have hzz := hz'.trans (w.1.trans hz6)
    have hR7 := hR6.rawOff (s' := s6) hfresh (fun zu zu zu e => e) rfl rfl
    have again : I (i + 1) vars6 mem6 → ∃ m, m < n ∧ ForI C ds I St z1 s1.heap.objs.size raw1 m s6 := fun hI6 =>
      ⟨_, hn ▸ Nat.sub_lt_sub_left (Nat.lt_succ_of_lt hlt) (Nat.lt_succ_self i), i + 1, vars6, mem6, o2, z6, hzz, hR6, Wk.frame _ _ _ hSt' (fun b hb' ob e => by
        rcases hfp b hb' with rfl | ⟨ob', e'⟩
        · rw [c1] at e; cases e
          exact (hR6.raw _ _ (.head _)).1
        · have e1 := hR4.frz _ _ (hz' _ _ e')
          rw [show ({ s3 with heap := h', toks := tk } : Shared).heap = h' from rfl, e] at e1; cases e1
          exact hR6.frz _ _ (hz6 _ _ (w.1 _ _ (hz' _ _ e')))), hI6, hlt, rfl⟩
    cases hfl with
    | next => exact again hq
    | cont => exact again hq
    | brk => exact ⟨_, rfl, .next, _, z6, hz1.trans hzz, hR7, .next, hq⟩
    | ret hv => exact ⟨_, rfl, _, _, z6, hz1.trans hzz, hR7, .ret hv, hq⟩
  · obtain rfl : i = ds.length := Nat.le_antisymm hi hge
    exact Wk.done s3 _ _ hSt (fun h' tk hk => wpAny_execs_nil ⟨_, rfl, .next, _, z', hz1.trans hz', hR3.rawOff (s' := { s3 with heap := h', toks := tk }) hfresh (fun b o hb e => hk b o (fun q => hb (List.mem_singleton.mp q)) e) rfl rfl, .next, hend _ _ hI⟩)⟩
theorem ForOK.mk' {k : Nat} {C : FC} {t : TG} {b : TS} {Q : Fl → St → Prop} {d : V} {vars1 : List V} {mem1 : List (Addr × List V)} {raw1 : List (Addr × Obj)} {ds : List V} (hit : IterOK k C d ds) (I : Nat → List V → List (Addr × List V) → Prop) (h0 : I 0 vars1 mem1)
    (hs : ∀ i x vars mem rw, ds[i]? = some x → I i vars mem → t k C x (fun σ' => b k C (ForK I i Q raw1 rw) σ') ⟨vars, mem, rw⟩) (he : ∀ vars mem, I ds.length vars mem → Q .next ⟨vars, mem, raw1⟩) : ForOK k C t b Q d ⟨vars1, mem1, raw1⟩ := ⟨ds, hit, I, h0, hs, he⟩
end Mine
namespace Mine
variable {k : Nat} {C : FC} {σ : St} {pos : Pos}

structure Pre (T : TI) (P : Addr) (z : FH) (s : Shared) : Prop where
  gd : ∀ h : Heap, (∀ a o, a ≠ P → s.heap.get? a = some o → h.get? a = some o) → GdH T h
  zK : ∀ a o, T.K.lookup a = some o → z a = some o
  frz : ∀ a o, z a = some o → s.heap.get? a = some o
  zP : z P = none
  tab : Tab s.heap P
  bare : AllBare s.gens
structure After (P : Addr) (z z' : FH) (s s' : Shared) : Prop where
  le : FH.le z z'
  keep : ∀ a o, a ≠ P → s.heap.get? a = some o → s'.heap.get? a = some o
  frz : ∀ a o, z' a = some o → s'.heap.get? a = some o
  new : ∀ a o, z' a = some o → z a = some o ∨ s.heap.get? a = none
  tab : Tab s'.heap P
  bare : AllBare s'.gens
  os : s'.os = s.os
noncomputable def FnOK (T : TI) (P : Addr) (k : Nat) (f : Addr) (args : List V) (R : V → Prop) : Prop :=
  ∀ A z s vs, Room k A → Pre T P z s → Reps z args vs →
    codeAny (model T.prog T.w) A (.call (.ref f) ⟨vs, []⟩) (fun res s' => ∃ v z' r, res = .ok (.ret v) ∧ After P z z' s s' ∧ Rep z' r v ∧ R r) s
theorem FnOK.imp {T : TI} {P : Addr} {f : Addr} {args : List V} {R R' : V → Prop} (h : FnOK T P k f args R) (hr : ∀ r, R r → R' r) : FnOK T P k f args R' := fun A z s vs hA hP hv =>
  codeAny_mono (h A z s vs hA hP hv) fun zu1 zu2 ⟨v, z', r, a, b, c, d⟩ => ⟨v, z', r, a, b, c, hr r d⟩
theorem FnOK.less {T : TI} {P : Addr} {k k' : Nat} {f : Addr} {args : List V} {R : V → Prop} (h : FnOK T P k' f args R) (hk : k' ≤ k) : FnOK T P k f args R := fun A z s vs hA hP hv => h A z s vs (hA.less hk) hP hv

theorem Rel.pre {z : FH} {s : Shared} (r : Rel C z σ s) : Pre C.T C.P z s where
  gd := fun h hk => r.ok.gd h fun a o e => hk a o (fun q => by rw [q, r.ok.bP] at e; cases e) (r.keep a o e)
  zK := r.zK
  frz := r.frz
  zP := r.zP
  tab := r.tab
  bare := r.bare
theorem Rel.after {z z' : FH} {s s' : Shared} (r : Rel C z σ s) (a : After C.P z z' s s') : Rel C z' σ s' := r.ext a.keep a.le a.frz a.new a.tab a.bare a.os

theorem starEach_any (es : List Expr) (env : Env) (p : Pos) (h : (starEach es env).any (·.1) = false) : (backTo p (starEach es env)).any (·.1) = false := by
  unfold backTo
  rw [List.any_map]
  exact h


structure BltOK (k : Nat) (C : FC) (f : Value) (ds : List V) (Q : V → St → Prop) (σ : St) : Prop where
  h : ∀ {A z s vs}, Room k A → Rel C z σ s → Reps z ds vs → wpAny (Mo C) A (call f vs) (Post C Rep Q z) NoE s
structure FunOK (k : Nat) (C : FC) (f : Addr) (ds : List V) (Q : V → St → Prop) (σ : St) : Prop where
  h : FnOK C.T C.P k f ds (fun r => Q r σ)
section
variable {F : FS}
structure GF (K : Frag) (x : Str) (f : Addr) : Prop where
  g : nsIn K mainGlobals x = some (some (.ref f))
  o : ∃ o fd, K.lookup f = some o ∧ o.data = .func fd
structure GB (K : Frag) (x : Str) (v : Value) : Prop where
  g : nsIn K mainGlobals x = some none
  b : bootBuiltins x = some v
theorem bk (e : Expr) (es : List Expr) (env : Env) (hs : starEach (e :: es) env = (false, eval e env) :: starEach es env) : backTo pos (starEach (e :: es) env) = (false, (do let v ← eval e env; pure v : Sem Value)) :: backTo pos (starEach es env) := by rw [hs]; rfl
@[reducible] noncomputable def tFun (f : Addr) (es : TA) : TE := fun k C Q σ => es k C (fun ds σ1 => FunOK k C f ds Q σ1) σ
theorem SemE.callF {x : Str} {p : Pos} {f : Addr} {e : Expr} {es : List Expr} {t : TA} (G : GF F.T.K x f) (hm : x ∈ F.gs) (hs : ∀ env, starEach (e :: es) env = (false, eval e env) :: starEach es env) (h : SemA F (e :: es) t) : SemE F (.Call (.Name x p) (e :: es) [] pos) (tFun f t) := ⟨fun {k C} W {Q σ} q A z s hA hR => by
  obtain ⟨o, fd, ho, hf⟩ := G.o
  refine wpAny_Call_ofName (name_glob hR (W.G x hm).1 (W.T ▸ G.g) (Calls.callWith_function (o := o) (fd := fd) ?_) (W.G x hm).2.1)
  have hh := h.h W (pos := pos) q
  unfold WA at hh
  rw [bk e es C.env (hs _)] at hh ⊢
  exact Calls.evalArgs_plain (hh.go hA hR fun vs s1 ds σ1 z1 hz1 hR1 hds hq => ⟨⟨hR1.frz _ _ (hR1.zK _ _ (W.T ▸ ho)), hf⟩,
    wpAny_call (codeAny_mono (hq.2.h A z1 s1 vs hA hR1.pre hds) fun r s2 p => p.elim fun v p => p.elim fun z2 p => p.elim fun d p => by
      obtain ⟨rfl, ha, hv, hq2⟩ := p
      exact ⟨d, σ1, z2, hz1.trans ha.le, hR1.after ha, hv, hq2⟩)⟩)⟩
@[reducible] noncomputable def tBlt (f : Value) (es : TA) : TE := fun k C Q σ => es k C (fun ds σ1 => BltOK k C f ds Q σ1) σ
theorem SemE.callB {x : Str} {p : Pos} {id : String} {e : Expr} {es : List Expr} {t : TA} (G : GB F.T.K x (.builtin id)) (hm : x ∈ F.gs) (hs : ∀ env, starEach (e :: es) env = (false, eval e env) :: starEach es env) (hs2 : ∀ env, (starEach es env).any (·.1) = false)
    (h : SemA F (e :: es) t) : SemE F (.Call (.Name x p) (e :: es) [] pos) (tBlt (.builtin id) t) := ⟨fun {k C} W {Q σ} q A z s hA hR => by
  refine wpAny_Call_ofName (name_builtin hR (W.G x hm).1 (W.T ▸ G.g) G.b (Calls.callWith_builtin (starEach_any _ _ _ (by rw [hs]; exact hs2 _)) ?_) (W.G x hm).2.2 (W.G x hm).2.1)
  have hh := h.h W (pos := pos) q
  unfold WA at hh
  rw [bk e es C.env (hs _)] at hh ⊢
  exact Calls.evalArgs_plain (hh.go hA hR fun vs s1 ds σ1 z1 hz1 hR1 hds hq => wpP (hq.2.h hA hR1 hds) hz1)⟩
theorem SemE.callT {x : Str} {p : Pos} {T : String} {e : Expr} {es : List Expr} {t : TA} (G : GB F.T.K x (.type T)) (hm : x ∈ F.gs) (hs : ∀ env, starEach (e :: es) env = (false, eval e env) :: starEach es env) (hs2 : ∀ env, (starEach es env).any (·.1) = false)
    (h : SemA F (e :: es) t) : SemE F (.Call (.Name x p) (e :: es) [] pos) (tBlt (.type T) t) := ⟨fun {k C} W {Q σ} q A z s hA hR => by
  refine wpAny_Call_ofName (name_builtin hR (W.G x hm).1 (W.T ▸ G.g) G.b (PySem.callWith_type (starEach_any _ _ _ (by rw [hs]; exact hs2 _)) ?_) (W.G x hm).2.2 (W.G x hm).2.1)
  have hh := h.h W (pos := pos) q
  unfold WA at hh
  rw [bk e es C.env (hs _)] at hh ⊢
  exact Calls.evalArgs_plain (hh.go hA hR fun vs s1 ds σ1 z1 hz1 hR1 hds hq => wpP (hq.2.h hA hR1 hds) hz1)⟩
theorem FunOK.is {f : Addr} {ds : List V} {Q : V → St → Prop} {T : TI} {P : Addr} {k' : Nat} {r : V} (hT : C.T = T) (hP : C.P = P) (h : FnOK T P k' f ds (fun x => x = r)) (hk : k' ≤ k) (q : Q r σ) : FunOK k C f ds Q σ :=
  ⟨by rw [hT, hP]; exact (h.less hk).imp fun x e => e ▸ q⟩
theorem FunOK.of {f : Addr} {ds : List V} {Q : V → St → Prop} {T : TI} {P : Addr} {k' : Nat} {R : V → Prop} (hT : C.T = T) (hP : C.P = P) (h : FnOK T P k' f ds R) (hk : k' ≤ k) (q : ∀ r, R r → Q r σ) : FunOK k C f ds Q σ :=
  ⟨by rw [hT, hP]; exact (h.less hk).imp q⟩

structure Meth (T : String) (name : Str) (id : String) : Prop where
  pa : PlainAttrs T
  slot : Slot T name id
  ty : typeOf (.builtin id) = pure (.type "method_descriptor")
noncomputable def isTy (σ : St) (T : String) : V → Prop
  | .str _ => T = "str"
  | .list _ => T = "list"
  | .mut a => T = "list" ∧ ∃ xs, memGet σ.mem a = some xs
  | _ => False
theorem ty_get {z : FH} {s : Shared} {d : V} {v : Value} {T : String} (r : Rel C z σ s) (hv : Rep z d v) (h : isTy σ T d) :
    s.TypeIs v T ∧ ∀ a, v = .ref a → ∃ ob, s.heap.get? a = some ob ∧ ob.dict = none := by
  cases d with
  | str x => exact hv.eStr fun t => ⟨h ▸ rfl, fun a e => by cases e⟩
  | list l => exact hv.eList fun a vs n e hr => ⟨h ▸ ⟨_, r.frz _ _ e, rfl⟩, fun b q => by cases q; exact ⟨_, r.frz _ _ e, rfl⟩⟩
  | «mut» a => exact hv.eMut (let ⟨hT, xs, hx⟩ := h; let ⟨_, _, _, vs, n, e, hr⟩ := r.mem _ _ (memGet_mem hx); ⟨hT ▸ ⟨_, e, rfl⟩, fun b q => by cases q; exact ⟨_, e, rfl⟩⟩)
  | _ => exact h.elim
theorem meth_few (es : List Expr) (env : Env) (hsa : (starEach es env).any (·.1) = false) (hl : es.length < 30) :
    ((backTo pos (starEach es env)).all (fun x => !x.1) && (backToKw pos (keywordEach [] env)).all (fun x => x.1.isSome)
      && decide (es.length + ([] : List Keyword).length + (if ([] : List Keyword).isEmpty then 0 else 1) < 30)) = true := by
  have := starEach_any es env pos hsa
  have h2 : (backTo pos (starEach es env)).all (fun x => !x.1) = true := by
    rw [List.all_eq_true]
    intro x hx
    rw [List.any_eq_false] at this
    simpa using this x hx
  rw [h2]
  exact decide_eq_true hl
structure MetOK (k : Nat) (C : FC) (T id : String) (d : V) (K : St → Prop) (σ : St) : Prop where
  ty : isTy σ T d
  h : K σ
@[reducible] noncomputable def tMet (T id : String) (o : TE) (es : TA) : TE := fun k C Q σ => o k C (fun d σ1 => MetOK k C T id d (fun σ1 => es k C (fun ds σ2 => BltOK k C (.builtin id) (d :: ds) Q σ2) σ1) σ1) σ
theorem SemE.met {o e : Expr} {name : Str} {apos : Pos} {T id : String} {es : List Expr} {to : TE} {te : TA} (M : Meth T name id) (hbase : ∀ env, attributeBase o name env (eval o env) = eval o env)
    (hs : ∀ env, starEach (e :: es) env = (false, eval e env) :: starEach es env) (hs2 : ∀ env, (starEach es env).any (·.1) = false) (hl : (e :: es).length < 30) (hline : (apos.endLine == pos.line) = true)
    (ho : SemE F o to) (he : SemA F (e :: es) te) : SemE F (.Call (.Attribute o name apos) (e :: es) [] pos) (tMet T id to te) := ⟨fun {k C} W {Q σ} q A z s hA hR => by
  have hsa : (starEach (e :: es) C.env).any (·.1) = false := by rw [hs]; exact hs2 _
  refine wpAny_Call_method_lateS (hbase _) (meth_few _ _ hsa hl) hline ((ho.h W q).go hA hR fun v s1 d σ1 z1 hz1 hR1 hd h1 => ?_)
  obtain ⟨t1, t2⟩ := ty_get hR1 hd h1.ty
  refine ⟨T, id, M.pa, M.slot, M.ty, t1, t2, Calls.callWith_builtin (starEach_any _ _ _ hsa) ?_⟩
  have hh := he.h W (pos := pos) h1.h
  unfold WA at hh
  rw [bk e es C.env (hs _)] at hh ⊢
  exact Calls.evalArgs_plain (hh.go hA hR1 fun vs s2 ds σ2 z2 hz2 hR2 hds hq => wpP (hq.2.h hA hR2 (.cons (hd.mono hz2) hds)) (hz1.trans hz2))⟩
theorem SemE.met0 {o : Expr} {name : Str} {apos : Pos} {T id : String} {to : TE} (M : Meth T name id) (hbase : ∀ env, attributeBase o name env (eval o env) = eval o env) (hline : (apos.endLine == pos.line) = true)
    (ho : SemE F o to) : SemE F (.Call (.Attribute o name apos) [] [] pos) (tMet T id to taNil) := ⟨fun {k C} W {Q σ} q A z s hA hR => by
  refine wpAny_Call_method_lateS (hbase _) (meth_few _ _ rfl (by decide)) hline ((ho.h W q).go hA hR fun v s1 d σ1 z1 hz1 hR1 hd h1 => ?_)
  obtain ⟨t1, t2⟩ := ty_get hR1 hd h1.ty
  exact ⟨T, id, M.pa, M.slot, M.ty, t1, t2, Calls.callWith_builtin rfl (evalArgs_nil3 (wpP (h1.h.h hA hR1 (.cons hd .nil)) hz1))⟩⟩
end
mutual
inductive Frz (mem : List (Addr × List V)) : V → V → Prop where
  | self (d : V) : Frz mem d d
  | mut {a : Addr} {xs ds : List V} : memGet mem a = some xs → Frzs mem xs ds → Frz mem (.mut a) (.list ds)
  | tup {xs ds : List V} : Frzs mem xs ds → Frz mem (.tup xs) (.tup ds)
  | list {xs ds : List V} : Frzs mem xs ds → Frz mem (.list xs) (.list ds)
inductive Frzs (mem : List (Addr × List V)) : List V → List V → Prop where
  | nil : Frzs mem [] []
  | cons {x d : V} {xs ds : List V} : Frz mem x d → Frzs mem xs ds → Frzs mem (x :: xs) (d :: ds)
end
theorem Frzs.self {mem : List (Addr × List V)} : ∀ l : List V, Frzs mem l l
  | [] => .nil
  | x :: r => .cons (.self x) (Frzs.self r)
theorem Frzs.append {mem : List (Addr × List V)} : ∀ {a b c d : List V}, Frzs mem a b → Frzs mem c d → Frzs mem (a ++ c) (b ++ d)
  | _, _, _, _, .nil, h => h
  | _, _, _, _, .cons x r, h => .cons x (r.append h)

open Classical in
noncomputable def FH.with (z : FH) (mem : List (Addr × List V)) (h : Heap) : FH := fun a => match z a with
  | some o => some o
  | none => if a ∈ mem.map (·.1) then h.get? a else none
theorem FH.le_with (z : FH) (mem : List (Addr × List V)) (h : Heap) : FH.le z (z.with mem h) := fun a o e => by unfold FH.with; rw [e]

mutual
theorem Frz.rep {z : FH} {s : Shared} (r : Rel C z σ s) : ∀ {d q : V} {v : Value}, Frz σ.mem d q → Rep z d v → Rep (z.with σ.mem s.heap) q v
  | _, _, _, .self d, hv => hv.mono (FH.le_with _ _ _)
  | _, _, _, .mut h hs, hv => by
    cases hv
    obtain ⟨h1, h2, h3, vs, n, h4, h5⟩ := r.mem _ _ (memGet_mem h)
    refine .list (n := n) ?_ (Frzs.rep r hs h5)
    unfold FH.with
    rw [h1]
    simp only
    rw [if_pos (List.mem_map_of_mem (f := (·.1)) (memGet_mem h))]
    exact h4
  | _, _, _, .tup hs, hv => by
    cases hv with | tup e hr => exact .tup (FH.le_with _ _ _ _ _ e) (Frzs.rep r hs hr)
  | _, _, _, .list hs, hv => by
    cases hv with | list e hr => exact .list (FH.le_with _ _ _ _ _ e) (Frzs.rep r hs hr)
theorem Frzs.rep {z : FH} {s : Shared} (r : Rel C z σ s) : ∀ {l q : List V} {vs : List Value}, Frzs σ.mem l q → Reps z l vs → Reps (z.with σ.mem s.heap) q vs
  | _, _, _, .nil, hv => by cases hv; exact .nil
  | _, _, _, .cons a b, hv => by
    cases hv with | cons x y => exact .cons (Frz.rep r a x) (Frzs.rep r b y)
end

theorem cells_sub : ∀ (names : List (Str × NameKind)) (lo : Nat) (acc : List (Str × Addr)) (p : Str × Addr), p ∈ acc → p ∈ cellsFrom lo names acc
  | [], _, _, _, h => h
  | (n, kd) :: r, lo, acc, p, h => by
    unfold cellsFrom
    split
    · exact cells_sub r _ _ p (.tail _ h)
    · exact cells_sub r _ _ p h
theorem lookup_some_of_mem {α : Type} : ∀ {l : List (Str × α)} {x : Str} {c : α}, (x, c) ∈ l → (l.lookup x).isSome = true
  | (y, d) :: r, x, c, h => by
    rw [List.lookup_cons]
    cases e : x == y with
    | true => rfl
    | false =>
      rcases List.mem_cons.mp h with q | q
      · cases q; simp at e
      · exact lookup_some_of_mem q
theorem cells_look : ∀ (names : List (Str × NameKind)) (lo : Nat) (acc : List (Str × Addr)) (x : Str), names.lookup x = some .cell → ((cellsFrom lo names acc).lookup x).isSome = true
  | [], _, _, _, h => by cases h
  | (n, kd) :: r, lo, acc, x, h => by
    rw [List.lookup_cons] at h
    unfold cellsFrom
    cases e : x == n with
    | true =>
      rw [e] at h
      simp only [Option.some.injEq] at h
      subst h
      simp only [beq_self_eq_true, if_true]
      have : x = n := by simpa using e
      subst this
      exact lookup_some_of_mem (cells_sub r _ _ _ (.head _))
    | false =>
      rw [e] at h
      split
      · exact cells_look r _ _ x h
      · exact cells_look r _ _ x h

theorem bindL_not {kf : Str → Option NameKind} : ∀ (b : List (Str × Value)) (m : Str → Option Value) (x : Str), x ∉ b.map (·.1) → bindL kf b m x = m x
  | [], _, _, _ => rfl
  | (n, v) :: r, m, x, h => by
    simp only [List.map_cons, List.mem_cons, not_or] at h
    unfold bindL
    rw [bindL_not r _ x h.2]
    split
    · simp [h.1]
    · rfl
theorem bindC_not {kf : Str → Option NameKind} : ∀ (b : List (Str × Value)) (m : Str → Option Value) (x : Str), x ∉ b.map (·.1) → bindC kf b m x = m x
  | [], _, _, _ => rfl
  | (n, v) :: r, m, x, h => by
    simp only [List.map_cons, List.mem_cons, not_or] at h
    unfold bindC
    rw [bindC_not r _ x h.2]
    split
    · rfl
    · simp [h.1]
theorem bindL_get {kf : Str → Option NameKind} : ∀ (b : List (Str × Value)) (m : Str → Option Value) (i : Nat) (x : Str) (v : Value), (b.map (·.1)).Nodup → b[i]? = some (x, v) → kf x = some .local → bindL kf b m x = some v
  | [], _, _, _, _, _, h, _ => by simp at h
  | (n, w) :: r, m, 0, x, v, nd, h, hk => by
    simp only [List.getElem?_cons_zero, Option.some.injEq, Prod.mk.injEq] at h
    obtain ⟨rfl, rfl⟩ := h
    simp only [List.map_cons, List.nodup_cons] at nd
    unfold bindL
    rw [bindL_not r _ _ nd.1, if_pos hk]
    simp
  | (n, w) :: r, m, i + 1, x, v, nd, h, hk => by
    simp only [List.map_cons, List.nodup_cons] at nd
    simp only [List.getElem?_cons_succ] at h
    unfold bindL
    exact bindL_get r _ i x v nd.2 h hk
theorem bindC_get {kf : Str → Option NameKind} : ∀ (b : List (Str × Value)) (m : Str → Option Value) (i : Nat) (x : Str) (v : Value), (b.map (·.1)).Nodup → b[i]? = some (x, v) → kf x ≠ some .local → bindC kf b m x = some v
  | [], _, _, _, _, _, h, _ => by simp at h
  | (n, w) :: r, m, 0, x, v, nd, h, hk => by
    simp only [List.getElem?_cons_zero, Option.some.injEq, Prod.mk.injEq] at h
    obtain ⟨rfl, rfl⟩ := h
    simp only [List.map_cons, List.nodup_cons] at nd
    unfold bindC
    rw [bindC_not r _ _ nd.1, if_neg hk]
    simp
  | (n, w) :: r, m, i + 1, x, v, nd, h, hk => by
    simp only [List.map_cons, List.nodup_cons] at nd
    simp only [List.getElem?_cons_succ] at h
    unfold bindC
    exact bindC_get r _ i x v nd.2 h hk

open Classical in
noncomputable def baseOf (h : Heap) (P : Addr) : FH := fun b => if b = P then none else h.get? b

noncomputable abbrev fcOf (T : TI) (P : Addr) (f : Addr) (qual : Str) (scope : Scope) (cdv : Value) (names : List Str) (h : Heap) (z0 : FH) (os : OsState) : FC :=
  { T := T, env := envOfC qual scope h.objs.size f cdv, base := baseOf h P, z0 := z0, P := P, os := os, names := names, own := true }

set_option tactic.hygienic true in
theorem FnOK.intro {T : TI} {P : Addr} {k : Nat} {f : Addr} {oc : Value} {od : Option Addr} {osl : Array (Option Value)} {name qual : Str} {params : Arguments} {body : List Stmt} {scope : Scope} {dV kV doc pm : Value} {an : Option Addr} {cdv ct : Value}
    {args dds : List V} {dvs : List Value} {R : V → Prop}
    (hK : T.K.lookup f = some ⟨oc, od, .func (fnOf name qual params body scope dV kV doc pm an cdv ct), osl⟩)
    (hcd : codeIn T.K cdv qual = true) (names pn rest : List Str) (hnm : names = pn ++ rest) (hnd : (pn ++ rest).Nodup)
    (hpk : ∀ x ∈ pn, scope.names.lookup x = some .local ∨ scope.names.lookup x = some .cell) (hfr : ∀ x ∈ pn ++ rest, scope.names.lookup x ≠ some .free)
    (hd : ∀ z : FH, (∀ a o, T.K.lookup a = some o → z a = some o) → Reps z dds dvs)
    (hbind : ∀ s vs, T.K.In s.heap → vs.length = args.length → BindsTo s (fnOf name qual params body scope dV kV doc pm an cdv ct) ⟨vs, []⟩ (pn.zip (vs ++ dvs)))
    (hlen : args.length + dds.length = pn.length)
    (hco : scope.isCoroutine = false) (hgen : scope.isGenerator = false) (hkf : scope.kind = .function)
    (hbody : ∀ h z0 os, WSs k (fcOf T P f qual scope cdv names h z0 os) body (fun fl σ' => ∃ d r, (fl = .ret d ∨ (fl = .next ∧ d = .none)) ∧ Frz σ'.mem d r ∧ R r)
      ⟨args ++ dds ++ List.replicate rest.length .undef, [], []⟩) : FnOK T P (k + 1) f args R := fun A z s vs hA hP hv => by
  subst hnm
  have hG : GdH T s.heap := hP.gd _ fun a o zu e => e
  have hfo := hP.frz _ _ (hP.zK _ _ hK)
  refine codeAny_call_function (fd := fnOf name qual params body scope dV kV doc pm an cdv ct) (body := body) (by have := hA.d; lia) hfo rfl hco hgen rfl (codeRec_of hG.k hcd) ?_
  refine hbind s vs hG.k hv.length.symm _ _ _ _ ?_
  have hdv := hd z hP.zK
  have hlen2 : (vs ++ dvs).length = pn.length := by rw [List.length_append, ← hv.length, ← hdv.length, hlen]
  have hzipm : (pn.zip (vs ++ dvs)).map (·.1) = pn := by
    rw [List.map_fst_zip]; lia
  refine wpAny_newFunctionEnv_cells hkf ?_ (fun env henv s' X => ?_)
  · intro x hx
    have hx' : x.1 ∈ pn := by rw [← hzipm]; exact List.mem_map_of_mem (f := (·.1)) hx
    rcases hpk _ hx' with h | h
    · exact .inl h
    · exact .inr ⟨h, cells_look _ _ _ _ h⟩
  · have hE : env = envOfC qual scope s.heap.objs.size f cdv := henv
    subst hE
    obtain ⟨h₁, tk, hs', hkeep⟩ := X.done
    have hLs : s.heap.get? s.heap.objs.size = none := get_size_none _
    have hPlt : P < s.heap.objs.size := by obtain ⟨ps, e, _⟩ := hP.tab; exact Heap.lt_size e
    have hcell : ∀ x c, (envOfC qual scope s.heap.objs.size f cdv).cells.lookup x = some c → s.heap.objs.size < c := fun x c hc => X.above x c (mem_of_lookup hc)
    have hnone : ∀ c, s.heap.objs.size ≤ c → s.heap.get? c = none := fun c hc => by
      cases e : s.heap.get? c with
      | none => rfl
      | some o => exact absurd (Heap.lt_size e) (Nat.not_lt.mpr hc)
    have hbase : ∀ b o, baseOf s.heap P b = some o → s.heap.get? b = some o := fun b o e => by
      unfold baseOf at e; split at e
      · cases e
      · exact e
    have hs'h : s'.heap = h₁ := by rw [hs']
    have hznone : ∀ c, s.heap.objs.size ≤ c → z c = none := fun c hc => by
      cases e : z c with
      | none => rfl
      | some o => have := hP.frz _ _ e; rw [hnone c hc] at this; cases this
    have hbnone : ∀ c, s.heap.objs.size ≤ c → baseOf s.heap P c = none := fun c hc => by
      cases e : baseOf s.heap P c with
      | none => rfl
      | some o => have := hbase _ _ e; rw [hnone c hc] at this; cases this
    have hvars : ∀ (i : Nat) x d, (pn ++ rest)[i]? = some x → (args ++ dds ++ List.replicate rest.length V.undef)[i]? = some d → d ≠ .undef → ∃ v, (pn.zip (vs ++ dvs))[i]? = some (x, v) ∧ Rep z d v := by
      intro i x d e1 e2 e3
      have hi : i < (args ++ dds).length := by
        rcases Nat.lt_or_ge i (args ++ dds).length with h | h
        · exact h
        · rw [List.getElem?_append_right h, List.getElem?_replicate] at e2
          split at e2
          · cases e2; exact absurd rfl e3
          · cases e2
      rw [List.getElem?_append_left hi] at e2
      have hip : i < pn.length := by rw [List.length_append] at hi; lia
      rw [List.getElem?_append_left hip] at e1
      obtain ⟨v, hv1, hv2⟩ := (hv.append hdv).get e2
      exact ⟨v, by rw [List.getElem?_zip_eq_some]; exact ⟨e1, hv1⟩, hv2⟩
    have hndp : ((pn.zip (vs ++ dvs)).map (·.1)).Nodup := by rw [hzipm]; exact (List.nodup_append.mp hnd).1
    have hRel : Rel (fcOf T P f qual scope cdv (pn ++ rest) s.heap z s.os) z ⟨args ++ dds ++ List.replicate rest.length .undef, [], []⟩ s' := {
      ok := {
        nd := hnd
        kind := hkf
        gl := rfl
        bu := rfl
        bL := hbnone _ (Nat.le_refl _)
        LP := (Nat.ne_of_gt hPlt)
        bP := by show baseOf s.heap P P = none; unfold baseOf; simp
        bC := fun zu x c hc => ⟨hbnone _ (Nat.le_of_lt (hcell x c hc)), Nat.ne_of_gt (Nat.lt_trans hPlt (hcell x c hc))⟩
        iC := fun x y c hx hy => name_of_addr X.apart (mem_of_lookup hx) (mem_of_lookup hy)
        gd := fun h hk => hP.gd h fun a o ha e => hk a o (by show baseOf s.heap P a = some o; unfold baseOf; rw [if_neg ha]; exact e) }
      ns := by
        refine ⟨_, X.toInCall.ns, fun i x d e1 e2 e3 e4 => ?_⟩
        obtain ⟨v, q1, q2⟩ := hvars i x d e1 e2 e3
        exact ⟨v, bindL_get _ _ i x v hndp q1 e4, q2⟩
      cel := fun i x d e1 e2 e3 => by
        have hkx : (envOfC qual scope s.heap.objs.size f cdv).kindOf x = some .cell := by
          have hf : scope.names.lookup x ≠ some .free := hfr x (List.mem_of_getElem? e1)
          have e3' : isCel (scope.names.lookup x) = true := e3
          show scope.names.lookup x = some .cell
          cases hq : scope.names.lookup x with
          | none => rw [hq] at e3'; cases e3'
          | some kd => cases kd <;> rw [hq] at e3' hf <;> first | rfl | exact absurd rfl hf | (cases e3')
        have hl := cells_look scope.names (s.heap.objs.size + 1) [] x hkx
        obtain ⟨c, hc⟩ := Option.isSome_iff_exists.mp hl
        refine ⟨c, _, hc, X.cell x c hc, fun hd' => ?_⟩
        obtain ⟨v, q1, q2⟩ := hvars i x d e1 e2 hd'
        exact ⟨v, bindC_get _ _ i x v hndp q1 (by rw [hkx]; decide), q2⟩
      frz := fun a o e => by rw [hs'h]; exact hkeep _ _ (hP.frz _ _ e)
      zK := hP.zK
      zP := hP.zP
      zL := hznone _ (Nat.le_refl _)
      zC := fun zu x c hc => hznone _ (Nat.le_of_lt (hcell x c hc))
      hC := fun x c hc => by obtain ⟨o, h, hd⟩ := X.cell x c hc; exact ⟨o, h, _, hd⟩
      zin := fun a o e => .inl e
      keep := fun b o e => by rw [hs'h]; exact hkeep _ _ (hbase _ _ e)
      mem := fun a xs hm => nomatch hm
      memnd := List.nodup_nil
      raw := fun a o hm => nomatch hm
      tab := by rw [hs'h]; exact hP.tab.keeps hkeep
      bare := by rw [hs']; exact hP.bare
      os := by rw [hs'] }
    refine ⟨hRel.gd.lim, codeAny_func (wpAny_mono (hbody s.heap z s.os _ z s' hA.deeper hRel) ?_ fun zu zu x => x.elim)⟩
    rintro fl s2 ⟨fl', σ', z', hz', hR', hfl, d, r, hret, hfz, hr⟩
    have fin : ∀ v, Rep z' d v → ∃ v' z2 r', (.ok (.ret v) : Result) = .ok (.ret v') ∧ After P z z2 s s2 ∧ Rep z2 r' v' ∧ R r' := fun v hv' => by
      refine ⟨v, z'.with σ'.mem s2.heap, r, rfl, ?_, Frz.rep hR' hfz hv', hr⟩
      have hfz2 : ∀ a o, z'.with σ'.mem s2.heap a = some o → z' a = some o ∨ (a ∈ σ'.mem.map (·.1) ∧ s2.heap.get? a = some o) := fun a o e => by
        unfold FH.with at e
        split at e
        · rename_i o' e'; cases e; exact .inl e'
        · split at e
          · rename_i hm; exact .inr ⟨hm, e⟩
          · cases e
      have hb0 : ∀ a, baseOf s.heap P a = none → a ≠ P → s.heap.get? a = none := fun a e ha => by unfold baseOf at e; rw [if_neg ha] at e; exact e
      exact {
        le := hz'.trans (FH.le_with _ _ _)
        keep := fun a o ha e => hR'.keep a o (by show baseOf s.heap P a = some o; unfold baseOf; rw [if_neg ha]; exact e)
        frz := fun a o e => by
          rcases hfz2 a o e with h | ⟨_, h⟩
          · exact hR'.frz _ _ h
          · exact h
        new := fun a o e => by
          rcases hfz2 a o e with h | ⟨hm, h⟩
          · rcases hR'.zin _ _ h with h | ⟨h1, h2⟩
            · exact .inl h
            · exact .inr (hb0 a h1 h2)
          · obtain ⟨⟨b, ys⟩, hm2, rfl⟩ := List.mem_map.mp hm
            obtain ⟨_, h2, h3, _⟩ := hR'.mem b ys hm2
            exact .inr (hb0 b h2 h3)
        tab := hR'.tab
        bare := hR'.bare
        os := hR'.os }
    rcases hret with rfl | ⟨rfl, rfl⟩
    · cases hfl with | ret hv' => exact fin _ hv'
    · cases hfl; exact fin _ .none


@[reducible] noncomputable def EndK (R : V → Prop) : Fl → St → Prop := fun fl σ' => match fl with
  | .ret d => ∃ r, Frz σ'.mem d r ∧ R r
  | .next => R .none
  | _ => False
noncomputable def scOK (scope : Scope) (pn : List Str) (nk : List (Str × NameKind)) (gs : List Str) : Bool :=
  decide (nk.map (·.1)).Nodup && (pn.all fun x => decide (scope.names.lookup x = some .local ∨ scope.names.lookup x = some .cell)) && (nk.all fun p => decide (scope.names.lookup p.1 = some p.2) && decide (p.2 ≠ .free) && !(p.1 == ("__debug__" : Str))) &&
      (gs.all fun x => decide (scope.names.lookup x = some .globalImplicit) && !(x == ("__debug__" : Str)) && !(x == ("__name__" : Str))) && !scope.isCoroutine && !scope.isGenerator && (scope.kind == .function)
theorem FnOK.sem {F : FS} {P : Addr} {k : Nat} {f : Addr} {oc : Value} {od : Option Addr} {osl : Array (Option Value)} {name qual : Str} {params : Arguments} {body : List Stmt} {scope : Scope} {dV kV doc pm : Value} {an : Option Addr} {cdv ct : Value}
    {args dds : List V} {dvs : List Value} {R : V → Prop} {t : TS} (pn rest : List Str) (vars0 : List V)
    (hK : F.T.K.lookup f = some ⟨oc, od, .func (fnOf name qual params body scope dV kV doc pm an cdv ct), osl⟩)
    (hcd : codeIn F.T.K cdv qual = true) (hnm : F.nk.map (·.1) = pn ++ rest) (hsc : scOK scope pn F.nk F.gs = true)
    (hd : ∀ z : FH, (∀ a o, F.T.K.lookup a = some o → z a = some o) → Reps z dds dvs)
    (hbind : ∀ s vs, F.T.K.In s.heap → vs.length = args.length → BindsTo s (fnOf name qual params body scope dV kV doc pm an cdv ct) ⟨vs, []⟩ (pn.zip (vs ++ dvs)))
    (hlen : args.length + dds.length = pn.length) (hv0 : args ++ dds ++ List.replicate rest.length .undef = vars0) (hsem : SemSs F body t)
    (hbody : ∀ C, C.T = F.T → C.P = P → t k C (EndK R) ⟨vars0, [], []⟩) : FnOK F.T P (k + 1) f args R := by
  unfold scOK at hsc
  simp only [Bool.and_eq_true, List.all_eq_true, decide_eq_true_eq, Bool.not_eq_true', beq_iff_eq, beq_eq_false_iff_ne] at hsc
  obtain ⟨⟨⟨⟨⟨⟨h1, h2⟩, h3⟩, h4⟩, h6⟩, h7⟩, h8⟩ := hsc
  refine FnOK.intro hK hcd (F.nk.map (·.1)) pn rest hnm (hnm ▸ h1) h2 (fun x hx => ?_) hd hbind hlen h6 h7 h8 fun h z0 os => ?_
  · rw [← hnm] at hx
    obtain ⟨p, hp, rfl⟩ := List.mem_map.mp hx
    rw [(h3 p hp).1.1]
    exact fun q => (h3 p hp).1.2 (Option.some.inj q)
  · rw [hv0]
    refine WT.imp (t := execs body _) (hsem.h (C := fcOf F.T P f qual scope cdv (List.map (fun p : Str × NameKind => p.1) F.nk) h z0 os) ⟨rfl, fun zu => rfl, rfl, fun p hp => ⟨(h3 p hp).1.1, by simpa using (h3 p hp).2⟩, fun x hx => ⟨(h4 x hx).1.1, by simpa using (h4 x hx).1.2, (h4 x hx).2⟩⟩ (hbody _ rfl rfl)) fun fl σ' q => ?_
    cases fl with
    | ret d => exact q.elim fun r q => ⟨d, r, .inl rfl, q.1, q.2⟩
    | next => exact ⟨.none, .none, .inr ⟨rfl, rfl⟩, .self _, q⟩
    | _ => exact q.elim
end Mine
namespace Mine
noncomputable def cloL (env : Env) : List (Str × NameKind) → List (Str × Addr) → List (Str × Addr)
  | [], acc => acc
  | (n, kd) :: r, acc => cloL env r (if kd == .free then (match env.cells.lookup n with | some a => (n, a) :: acc | none => acc) else acc)
theorem closure_eq {scope : Scope} {env : Env} (h : ∀ p ∈ scope.names, p.2 = .free → ∃ c, env.cells.lookup p.1 = some c) : closureFor scope env = pure (cloL env scope.names []) := by
  simp only [closureFor]
  generalize scope.names = l at h ⊢
  generalize ([] : List (Str × Addr)) = acc
  simp only [bind_pure]
  induction l generalizing acc with
  | nil => rfl
  | cons p r ih =>
    obtain ⟨n, kd⟩ := p
    have ih' := ih (fun p hp => h p (.tail _ hp))
    simp only [List.forIn_cons]
    unfold cloL
    cases hk : kd == .free with
    | true =>
      obtain ⟨c, hc⟩ := h _ (.head _) (by simpa using hk)
      have e : cellOf env n = pure c := by delta cellOf; rw [hc]
      simp only [hc, if_true, e, pure_bind]
      exact ih' _
    | false =>
      simp only [Bool.false_eq_true, if_false, pure_bind]
      exact ih' _
set_option tactic.hygienic true in
theorem cloL_mem (env : Env) : ∀ (l : List (Str × NameKind)) (acc : List (Str × Addr)) (x : Str) (c : Addr), (x, c) ∈ cloL env l acc → (x, c) ∈ acc ∨ env.cells.lookup x = some c
  | [], acc, x, c, h => .inl h
  | (n, kd) :: r, acc, x, c, h => by
    unfold cloL at h
    rcases cloL_mem env r _ x c h with h | h
    · split at h
      · split at h
        · rename_i a ha
          rcases List.mem_cons.mp h with e | h
          · cases e; exact .inr ha
          · exact .inl h
        · exact .inl h
      · exact .inl h
    · exact .inr h
theorem cloL_sub (env : Env) : ∀ (l : List (Str × NameKind)) (acc : List (Str × Addr)) (p : Str × Addr), p ∈ acc → p ∈ cloL env l acc
  | [], acc, p, h => h
  | (n, kd) :: r, acc, p, h => by
    unfold cloL
    refine cloL_sub env r _ p ?_
    split
    · split
      · exact .tail _ h
      · exact h
    · exact h
theorem cloL_look (env : Env) : ∀ (l : List (Str × NameKind)) (acc : List (Str × Addr)) (x : Str) (c : Addr), (x, NameKind.free) ∈ l → env.cells.lookup x = some c → (x, c) ∈ cloL env l acc
  | (n, kd) :: r, acc, x, c, h, hc => by
    unfold cloL
    rcases List.mem_cons.mp h with e | h
    · cases e
      refine cloL_sub env r _ _ ?_
      simp [hc]
    · exact cloL_look env r _ x c h hc
theorem mem_of_look {α β : Type} [BEq α] [LawfulBEq α] : ∀ {l : List (α × β)} {x : α} {c : β}, l.lookup x = some c → (x, c) ∈ l
  | (y, d) :: r, x, c, h => by
    rw [List.lookup_cons] at h
    cases e : x == y with
    | true => rw [e] at h; cases h; rw [eq_of_beq e]; exact .head _
    | false => rw [e] at h; exact .tail _ (mem_of_look h)
theorem cloL_get {env : Env} {l : List (Str × NameKind)} {x : Str} {c : Addr} (h : (cloL env l []).lookup x = some c) : env.cells.lookup x = some c := by
  rcases cloL_mem env l [] x c (mem_of_look h) with h | h
  · cases h
  · exact h
theorem cloL_some {env : Env} {l : List (Str × NameKind)} {x : Str} {c : Addr} (h : l.lookup x = some .free) (hc : env.cells.lookup x = some c) : (cloL env l []).lookup x = some c := by
  have h1 := lookup_some_of_mem (cloL_look env l [] x c (mem_of_look h) hc)
  obtain ⟨c', h2⟩ := Option.isSome_iff_exists.mp h1
  have := cloL_get h2
  rw [hc] at this; cases this; exact h2

theorem lookup_mapKind {g : Str → NameKind → NameKind} {x : Str} {kd : NameKind} : ∀ {l : List (Str × NameKind)}, l.lookup x = some kd → (l.map fun p => (p.1, g p.1 p.2)).lookup x = some (g x kd)
  | (n, k) :: r, h => by
    rw [List.lookup_cons] at h
    rw [List.map_cons, List.lookup_cons]
    cases e : x == n <;> rw [e] at h
    · exact lookup_mapKind h
    · rw [← eq_of_beq e]; exact congrArg (fun o => o.map (g x)) h
theorem lookup_relabel {env : Env} {sc : Scope} {x : Str} {kd : NameKind} (h : sc.names.lookup x = some kd) :
    (relabel sc env).names.lookup x = some (if (kd == NameKind.free && env.scope.kind == .function && env.kindOf x == some .cell) then .cell else kd) := by
  have e : (relabel sc env).names = sc.names.map fun p => (p.1, if (p.2 == NameKind.free && env.scope.kind == .function && env.kindOf p.1 == some .cell) then .cell else p.2) :=
    List.map_congr_left fun p zu => (apply_ite (Prod.mk p.1) ..).symm
  rw [e]
  exact lookup_mapKind (g := fun n k => if (k == NameKind.free && env.scope.kind == .function && env.kindOf n == some .cell) then .cell else k) h

noncomputable abbrev ciOf (C : FC) (scope : Scope) (cl : List (Str × Addr)) (L : Addr) (base z0 : FH) (names : List Str) : FC :=
  { T := C.T, env := compEnvC scope cl L C.env, base := base, z0 := z0, P := C.P, os := C.os, names := names, own := false }


inductive AtKs (nk : List (Str × NameKind)) : List Ix → List Str → Prop where
  | nil : AtKs nk [] []
  | cons {i : Ix} {x : Str} {is : List Ix} {xs : List Str} : AtK nk i x .cell → AtKs nk is xs → AtKs nk (i :: is) (x :: xs)
@[reducible] noncomputable def vCaps : List Ix → List V → (List V → Prop) → Prop
  | [], _, K => K []
  | i :: is, vars, K => vGet i vars fun d => vCaps is vars fun ds => K (d :: ds)
structure Caps (nk : List (Str × NameKind)) (vars : List V) (nc : List Str) (caps : List V) : Prop where
  len : nc.length = caps.length
  get : ∀ {j : Nat} {x : Str} {d : V}, nc[j]? = some x → caps[j]? = some d → ∃ i, AtK nk i x .cell ∧ vars[i.n]? = some d ∧ d ≠ .undef
theorem vCaps_out {nk : List (Str × NameKind)} {vars : List V} : ∀ {is : List Ix} {nc : List Str} {K : List V → Prop}, AtKs nk is nc → vCaps is vars K → ∃ caps, Caps nk vars nc caps ∧ K caps
  | _, _, _, .nil, q => ⟨[], ⟨rfl, fun e => by simp at e⟩, q⟩
  | _, _, _, .cons h hs, q => by
    obtain ⟨d, h1, h2, h3⟩ := vGet_out q
    obtain ⟨ds, c, h4⟩ := vCaps_out hs h3
    refine ⟨d :: ds, ⟨congrArg (· + 1) c.len, fun {j x d'} e1 e2 => ?_⟩, h4⟩
    cases j with
    | zero => simp only [List.getElem?_cons_zero, Option.some.injEq] at e1 e2; subst e1; subst e2; exact ⟨_, h, h1, h2⟩
    | succ j => exact c.get (by simpa using e1) (by simpa using e2)

noncomputable def tests (ifs : List Expr) (env : Env) : Sem Bool := forIn ifs true fun c r => if r = true then do let ok ← isTrue c env (eval c env); pure (ForInStep.yield ok) else pure (ForInStep.yield r)
noncomputable def WTs (k : Nat) (C : FC) (ifs : List Expr) (Q : Bool → St → Prop) (σ : St) : Prop := WT k C (tests ifs C.env) RepB Q σ
structure SemI (F : FS) (ifs : List Expr) (t : TB) : Prop where
  h : ∀ {k C}, Wf C F → ∀ {Q σ}, t k C Q σ → WTs k C ifs Q σ
theorem SemI.nil {F : FS} : SemI F [] (tbK true) := ⟨fun {k C} W {Q σ} q A z s hA hR => wpAny_tests_nil (Post.bool hR q)⟩
theorem SemI.one {F : FS} {c : Expr} {t : TB} (h : SemB F c t) : SemI F [c] t := ⟨fun {k C} W {Q σ} q A z s hA hR => wpAny_tests_one (h.h W q A z s hA hR)⟩
noncomputable def Stb (nl : Nat) (caps : List V) (rw : List (Addr × Obj)) (σ : St) : Prop := σ.raw = rw ∧ σ.mem = [] ∧ ∃ locs, locs.length = nl ∧ σ.vars = locs ++ caps
theorem baseOf_some {h : Heap} {P a : Addr} {o : Obj} (e : baseOf h P a = some o) : a ≠ P ∧ h.get? a = some o := by
  unfold baseOf at e
  split at e
  · cases e
  · exact ⟨‹_›, e⟩
theorem baseOf_none {h : Heap} {P a : Addr} (e : h.get? a = none) : baseOf h P a = none := by
  unfold baseOf
  split
  · rfl
  · exact e
theorem baseOf_none' {h : Heap} {P a : Addr} (e : baseOf h P a = none) (hp : a ≠ P) : h.get? a = none := by
  unfold baseOf at e
  rw [if_neg hp] at e
  exact e


noncomputable def TurnOK (k : Nat) (Ci : FC) (tt : TG) (ti : TB) (te : TE) (nl : Nat) (caps : List V) (x : V) (J : Option V → Prop) : Prop :=
  ∀ locs rw, locs.length = nl → tt k Ci x (fun σ' => ti k Ci (fun ok σ'' =>
    (ok = true → te k Ci (fun y σ3 => Stb nl caps rw σ3 ∧ J (some y)) σ'') ∧ (ok = false → Stb nl caps rw σ'' ∧ J none)) σ') ⟨locs ++ caps, [], rw⟩
section
variable {k : Nat} {C : FC} {pos : Pos} {F : FS}

inductive CompI (Ci : FC) (ds : List V) (nl : Nat) (caps : List V) (it D : Addr) (zs : FH) (J : Nat → List V → Prop) (St : Nat → Heap → Prop) (m : Nat) (s : Shared) : Prop
  | mk (i : Nat) (locs acc : List V) (vs : List Value) (n : Nat) (o : Obj) (z : FH) (h1 : zs.le z) (h2 : locs.length = nl) (h3 : Rel Ci z ⟨locs ++ caps, [], [(it, o), (D, lstO (List.toArray vs) n)]⟩ s) (h4 : Reps z acc vs) (h5 : St i s.heap) (h6 : J i acc) (h7 : acc.length ≤ i) (h8 : i ≤ ds.length) (h9 : m = ds.length + 1 - i)
theorem wE {α : Type} {M : Model} {A : Around} {s : Shared} {E : Value → Shared → Prop} {m m' : Sem α} {Q : α → Shared → Prop} (e : m = m') (h : wpAny M A m' Q E s) : wpAny M A m Q E s := e ▸ h
theorem comp_loop {Ci : FC} {Fi : FS} (Wi : Wf Ci Fi) {elt target iter : Expr} {ifs : List Expr} {tt : TG} {ti : TB} {te : TE} (ht : SemT Fi target tt) (hi : SemI Fi ifs ti) (he : SemE Fi elt te)
    {scope : Scope} {it : Addr} {D : Addr} {A : Around} {zs : FH} {s0 : Shared} {o0 : Obj} {ds : List V} {nl : Nat} {caps : List V} {J : Nat → List V → Prop}
    {fp : List Addr} {P : Nat → Value → Prop} {St : Nat → Heap → Prop} {RR : Result → Shared → Prop}
    (hA : Room k A) (hsz : ds.length ≤ 16777216)
    (hcls : ∀ i h, St i h → ∃ ob T vs, h.get? it = some ob ∧ ob.cls = .type T ∧ ob.data = .fields vs ∧ ["enumerate", "zip", "dict_itemiterator", "dict_reverseitemiterator", "odict_iterator", "itertools.zip_longest", "itertools.pairwise"].contains T = false)
    (W : Walks Ci.T.prog Ci.T.w A it fp [it] ds.length P St) (hfp : ∀ b ∈ fp, b = it ∨ ∃ ob, zs b = some ob)
    (hP : ∀ i v, i < ds.length → P i v → ∃ x, ds[i]? = some x ∧ Rep zs x v)
    (hne : it ≠ D) {n0 : Nat} {locs0 : List V} (hl0 : locs0.length = nl)
    (hR : Rel Ci zs ⟨locs0 ++ caps, [], [(it, o0), (D, lstO #[] n0)]⟩ s0) (hSt : St 0 s0.heap) (hJ0 : J 0 [])
    (hstep : ∀ i x acc, ds[i]? = some x → J i acc → acc.length ≤ i → TurnOK k Ci tt ti te nl caps x (fun r => match r with | some y => J (i + 1) (acc ++ [y]) | none => J (i + 1) acc))
    (hRR : ∀ s' z' n vs acc σ, FH.le zs z' → Rel Ci z' ⟨σ, [], [(D, lstO (List.toArray vs) n)]⟩ s' → Reps z' acc vs → J ds.length acc → acc.length ≤ ds.length → RR (.ok .next) s') :
    codeAny (Mo Ci) A (.compLoop (.ListComp elt [⟨target, iter, ifs, 0⟩] scope pos) 0 (.ref it) (.ref D) Ci.env) RR s0 := by
  refine codeAny_loop rfl (CompI Ci ds nl caps it D zs J St) ?_ (ds.length + 1)
    ⟨0, locs0, [], [], n0, o0, zs, .refl _, hl0, hR, .nil, hSt, hJ0, Nat.le_refl _, Nat.zero_le _, rfl⟩
  rintro m s3 ⟨i, locs, acc, vs, n, o', z', hz', hll, hR3, hacc, hSt3, hI, hai, hi', rfl⟩
  show wpAny _ A ((compTurn (.ListComp elt [⟨target, iter, ifs, 0⟩] scope pos) 0 (.ref it) (.ref D) Ci.env).onRaise (fun x => do noteFrame x Ci.env; theTreesLotGoes x)) _ _ s3
  refine wpAny_noted ?_
  refine wE (compTurn_list ..) ?_
  refine wpAny_bind (wpAny_standAt (wpAny_bind ?_))
  have hfresh : ∀ p ∈ [(D, lstO (List.toArray vs) n)], p.1 ≠ it := fun p hp => (List.mem_singleton.mp hp) ▸ hne.symm
  rcases Nat.lt_or_ge i ds.length with hlt | hge
  · refine W.item i s3 _ _ hlt hSt3 (fun v h' tk hv hSt' hk => ?_)
    obtain ⟨x, hx, hxv⟩ := hP i v hlt hv
    obtain ⟨o2, T, fs, c1, c2, c3, c4⟩ := hcls (i + 1) h' hSt'
    have hraw := hR3.raw _ _ (.head _)
    have hR4 : Rel Ci z' ⟨locs ++ caps, [], (it, o2) :: [(D, lstO (List.toArray vs) n)]⟩ { s3 with heap := h', toks := tk } :=
      (hR3.rawOff (s' := { s3 with heap := h', toks := tk }) hfresh (fun b o hb e => hk b o (fun q => hb (List.mem_singleton.mp q)) e) rfl rfl).rawOn c1 hraw.2.1 hraw.2.2.1 hraw.2.2.2.1 hraw.2.2.2.2.1 hraw.2.2.2.2.2.1 hraw.2.2.2.2.2.2
    refine wpAny_bind (noted_of (env := Ci.env) (letOwned_skip c1 c2 c3 c4 ?_))
    have hfp4 : ∀ b ∈ fp, ∀ o, h'.get? b = some o → ∀ {z6 : FH} {σ6 : List V} {r6 : List (Addr × Obj)} {s6 : Shared}, FH.le z' z6 → (it, o2) ∈ r6 → Rel Ci z6 ⟨σ6, [], r6⟩ s6 → s6.heap.get? b = some o := fun b hb ob e z6 σ6 r6 s6 hz6 hm hR6 => by
      rcases hfp b hb with rfl | ⟨ob', e'⟩
      · rw [c1] at e; cases e
        exact (hR6.raw _ _ hm).1
      · have e1 := hR4.frz _ _ (hz' _ _ e')
        rw [show ({ s3 with heap := h', toks := tk } : Shared).heap = h' from rfl, e] at e1; cases e1
        exact hR6.frz _ _ (hz6 _ _ (hz' _ _ e'))
    refine wpAny_bind (noted_of (env := Ci.env) (wpAny_mono (ht.h Wi (hstep i x acc hx hI hai locs _ hll) hA hR4 (hxv.mono hz')) (fun zu s5 w => w.elim fun σ5 w => w.elim fun z5 w => ?_) fun zu zu x => x))
    refine wpAny_bind (noted_of (env := Ci.env) ((hi.h Wi w.2.2).go hA w.2.1 fun ok s6 ok' σ6 z6 hz6 hR6 hok hq => ?_))
    cases hok
    have hz56 := w.1.trans hz6
    cases ok with
    | false =>
      obtain ⟨vars6, mem6, raw6⟩ := σ6
      obtain ⟨⟨hr6, hm6, locs6, hl6, hv6⟩, hJ6⟩ := hq.2 rfl
      cases hr6; cases hm6; cases hv6
      exact wpAny_pure ⟨rfl, _, Nat.sub_lt_sub_left (Nat.lt_succ_of_lt hlt) (Nat.lt_succ_self i), i + 1, locs6, acc, vs, n, o2, z6, hz'.trans hz56, hl6, hR6, hacc.mono hz56, W.frame _ _ _ hSt' (fun b hb' ob e => hfp4 b hb' ob e hz56 (.head _) hR6), hJ6, Nat.le_succ_of_le hai, hlt, rfl⟩
    | true =>
      refine wpAny_bind (wpAny_bind (noted_of (env := Ci.env) ((he.h Wi (hq.1 rfl)).go hA hR6 fun y s7 yd σ7 z7 hz7 hR7 hy q7 => ?_)))
      obtain ⟨vars7, mem7, raw7⟩ := σ7
      obtain ⟨⟨hr7, hm7, locs7, hl7, hv7⟩, hJ7⟩ := q7
      cases hr7; cases hm7; cases hv7
      have hD := hR7.raw D _ (.tail _ (.head _))
      refine wpAny_bind (wpAny_list_append_plain ⟨n, hD.1⟩ (fun h8 hpl8 hsb8 => wpAny_pure (wpAny_pure ?_)) (by rw [sizeLine_eq, List.size_toArray, ← hacc.length]; exact Nat.le_trans hai (Nat.le_trans (Nat.le_of_lt hlt) hsz)))
      obtain ⟨n8, he8⟩ := hpl8
      have flip : ∀ {a b : Addr × Obj} {z : FH} {σ : List V} {s : Shared}, Rel Ci z ⟨σ, [], [a, b]⟩ s → Rel Ci z ⟨σ, [], [b, a]⟩ s := fun {a b z σ s} h => { h with raw := fun c o hm => h.raw c o (by
        simp only [List.mem_cons, List.not_mem_nil, or_false] at hm ⊢
        exact hm.symm) }
      have hR8 := (flip hR7).rawOff (s' := { s7 with heap := h8 }) (fun p hp => (List.mem_singleton.mp hp) ▸ hne) (fun b o hb e => hsb8.extBut b o hb e) rfl rfl
      have he8' : h8.get? D = some (lstO (List.toArray (vs ++ [y])) n8) := by rw [he8]; simp
      have hRA := flip (hR8.rawOn (a := D) (o := lstO (List.toArray (vs ++ [y])) n8) he8' hD.2.1 hD.2.2.1 hD.2.2.2.1 hD.2.2.2.2.1 hD.2.2.2.2.2.1 (List.not_mem_nil))
      have hzz : FH.le z' z7 := hz56.trans hz7
      exact ⟨rfl, _, Nat.sub_lt_sub_left (Nat.lt_succ_of_lt hlt) (Nat.lt_succ_self i), i + 1, locs7, acc ++ [yd], vs ++ [y], n8, o2, z7, hz'.trans hzz, hl7, hRA, (hacc.mono hzz).append (.cons hy .nil), W.frame _ _ _ hSt' (fun b hb' ob e => hfp4 b hb' ob e hzz (.head _) hRA), hJ7, by rw [List.length_append]; exact Nat.succ_le_succ hai, hlt, rfl⟩
  · obtain rfl : i = ds.length := Nat.le_antisymm hi' hge
    exact W.done s3 _ _ hSt3 (fun h' tk hk => wpAny_pure (hRR _ z' n vs acc _ hz' (hR3.rawOff (s' := { s3 with heap := h', toks := tk }) hfresh (fun b o hb e => hk b o (fun q => hb (List.mem_singleton.mp q)) e) rfl rfl) hacc hI hai))

noncomputable def scopeOK (scope : Scope) (nl nc gs : List Str) : Bool :=
  decide (nl ++ nc).Nodup && nl.all (fun x => decide (scope.names.lookup x = some .local)) && nc.all (fun x => decide (scope.names.lookup x = some .free)) && (nl ++ nc).all (fun x => !(x == ("__debug__" : Str))) &&
  scope.names.all (fun p => (p.2 != .local || decide (scope.names.lookup p.1 = some .local)) && p.2 != .cell && (p.2 != .free || decide (p.1 ∈ nc))) &&
  gs.all (fun x => decide (scope.names.lookup x = some .globalImplicit) && !(x == ("__debug__" : Str)) && !(x == ("__name__" : Str))) && (scope.kind == .function)

structure ScopeOK (scope : Scope) (nl nc gs : List Str) : Prop where
  nd : (nl ++ nc).Nodup
  l : ∀ x ∈ nl, scope.names.lookup x = some .local
  c : ∀ x ∈ nc, scope.names.lookup x = some .free
  db : ∀ x ∈ nl ++ nc, (x == ("__debug__" : Str)) = false
  nm : ∀ p ∈ scope.names, (p.2 = .local → scope.names.lookup p.1 = some .local) ∧ p.2 ≠ .cell ∧ (p.2 = .free → p.1 ∈ nc)
  g : ∀ x ∈ gs, scope.names.lookup x = some .globalImplicit ∧ (x == ("__debug__" : Str)) = false ∧ x ≠ ("__name__" : Str)
  k : scope.kind = .function
theorem ScopeOK.of {scope : Scope} {nl nc gs : List Str} (h : scopeOK scope nl nc gs = true) : ScopeOK scope nl nc gs := by
  unfold scopeOK at h
  simp only [Bool.and_eq_true, List.all_eq_true, decide_eq_true_eq, Bool.not_eq_true', Bool.or_eq_true, bne_iff_ne, ne_eq, beq_iff_eq] at h
  obtain ⟨⟨⟨⟨⟨⟨h1, h2⟩, h3⟩, h4⟩, h5⟩, h6⟩, h7⟩ := h
  refine ⟨h1, h2, h3, h4, fun p hp => ?_, fun x hx => ?_, h7⟩
  · obtain ⟨⟨a, b⟩, c⟩ := h5 p hp
    exact ⟨fun e => a.resolve_left (fun q => q e), b, fun e => c.resolve_left (fun q => q e)⟩
  · obtain ⟨⟨a, b⟩, c⟩ := h6 x hx
    exact ⟨a, b, fun q => by subst q; simp at c⟩
@[reducible] noncomputable def nkOf (nl nc : List Str) : List (Str × NameKind) := nl.map (fun x => (x, .local)) ++ nc.map (fun x => (x, .cell))
@[reducible] noncomputable def FS.inner (F : FS) (nk : List (Str × NameKind)) (gs : List Str) : FS := { T := F.T, nk := nk, gs := gs, own := false, J := F.J }
theorem inner_kind {scope : Scope} {nl nc gs : List Str} (S : ScopeOK scope nl nc gs) (hk : C.env.scope.kind = .function) (hc : ∀ x ∈ nc, C.env.kindOf x = some .cell) {cl : List (Str × Addr)} {L : Addr} :
    (∀ x ∈ nl, (compEnvC scope cl L C.env).kindOf x = some .local) ∧ (∀ x ∈ nc, (compEnvC scope cl L C.env).kindOf x = some .cell) ∧ (∀ x ∈ gs, (compEnvC scope cl L C.env).kindOf x = some .globalImplicit) := by
  refine ⟨fun x hx => ?_, fun x hx => ?_, fun x hx => ?_⟩
  · exact (lookup_relabel (S.l x hx)).trans (by simp)
  · refine (lookup_relabel (S.c x hx)).trans ?_
    rw [hk, hc x hx]; rfl
  · exact (lookup_relabel (S.g x hx).1).trans (by simp)
theorem getElem?_append_cases {α : Type} {a b : List α} {i : Nat} {x : α} (h : (a ++ b)[i]? = some x) : (i < a.length ∧ a[i]? = some x) ∨ (a.length ≤ i ∧ b[i - a.length]? = some x) := by
  rcases Nat.lt_or_ge i a.length with q | q
  · rw [List.getElem?_append_left q] at h; exact .inl ⟨q, h⟩
  · rw [List.getElem?_append_right q] at h; exact .inr ⟨q, h⟩
theorem nk_names (nl nc : List Str) : (nkOf nl nc).map (·.1) = nl ++ nc := by simp [nkOf, List.map_map, Function.comp_def]
theorem inner_wf {scope : Scope} {nl nc gs : List Str} (S : ScopeOK scope nl nc gs) (W : Wf C F) (hk : C.env.scope.kind = .function) (hc : ∀ x ∈ nc, C.env.kindOf x = some .cell) {cl : List (Str × Addr)} {L : Addr} {base z0 : FH} :
    Wf (ciOf C scope cl L base z0 (nl ++ nc)) (F.inner (nkOf nl nc) gs) := by
  obtain ⟨h1, h2, h3⟩ := inner_kind (cl := cl) (L := L) S hk hc
  refine ⟨W.T, nofun, (nk_names nl nc).symm, fun p hp => ?_, fun x hx => ⟨h3 x hx, (S.g x hx).2⟩⟩
  rcases List.mem_append.mp hp with hp | hp
  · obtain ⟨x, hx, rfl⟩ := List.mem_map.mp hp
    exact ⟨h1 x hx, S.db x (List.mem_append_left _ hx)⟩
  · obtain ⟨x, hx, rfl⟩ := List.mem_map.mp hp
    exact ⟨h2 x hx, S.db x (List.mem_append_right _ hx)⟩
theorem Caps.cell {vars : List V} {nc : List Str} {caps : List V} (W : Wf C F) (hcaps : Caps F.nk vars nc caps) : ∀ x ∈ nc, C.env.kindOf x = some .cell := fun x hx => by
  obtain ⟨j, hj, e⟩ := List.mem_iff_getElem.mp hx
  obtain ⟨i, q1, _⟩ := hcaps.get (by rw [List.getElem?_eq_getElem hj, e]) (List.getElem?_eq_getElem (hcaps.len ▸ hj))
  exact W.kd q1
theorem inner_rel {scope : Scope} {nl nc gs : List Str} (S : ScopeOK scope nl nc gs) {z : FH} {σ : Mine.St} {s s4 : Shared} (W : Wf C F) (hR : Rel C z σ s) {caps : List V} (hcaps : Caps F.nk σ.vars nc caps) {I D L : Addr} {oI : Obj} {nD : Nat} {mL : Str → Option Value}
    (hI : s.heap.get? I = none) (hD : s.heap.get? D = none) (hL : s.heap.get? L = none) (hIL : I ≠ L) (hDL : D ≠ L)
    (hk : ∀ a o, s.heap.get? a = some o → s4.heap.get? a = some o) (h4I : s4.heap.get? I = some oI) (h4D : s4.heap.get? D = some (lstO #[] nD)) (h4L : s4.heap.Ns L mL) (hg : s4.gens = s.gens) (ho : s4.os = s.os) :
    Rel (ciOf C scope (cloL C.env scope.names []) L (baseOf s.heap C.P) z (nl ++ nc)) z ⟨nl.map (fun zu => V.undef) ++ caps, [], [(I, oI), (D, lstO #[] nD)]⟩ s4 := by
  have hcell := hcaps.cell W
  obtain ⟨k1, k2, k3⟩ := inner_kind (cl := cloL C.env scope.names []) (L := L) S hR.ok.kind hcell
  have hne : ∀ {a b o}, s.heap.get? a = none → s.heap.get? b = some o → a ≠ b := fun h1 h2 q => by rw [q, h2] at h1; cases h1
  obtain ⟨ps, hPe, hPt⟩ := hR.tab
  have fin : ∀ a, s.heap.get? a = none → a ≠ L → ∀ o', s4.heap.get? a = some o' →
    s4.heap.get? a = some o' ∧ z a = none ∧ baseOf s.heap C.P a = none ∧ a ≠ C.P ∧ a ≠ L ∧ (∀ x c, (cloL C.env scope.names []).lookup x = some c → a ≠ c) ∧ a ∉ ([] : List (Addr × List V)).map (·.1) := fun a ha hal o' e =>
      ⟨e, hR.z_none ha, baseOf_none ha, hR.ne_P ha, hal, fun x c hc => by
        obtain ⟨o, h, _⟩ := hR.hC x c (cloL_get hc)
        exact hne ha h, by simp⟩
  exact {
    ok := {
      nd := S.nd
      kind := S.k
      gl := hR.ok.gl
      bu := hR.ok.bu
      bL := baseOf_none hL
      LP := hR.ne_P hL
      bP := by show baseOf s.heap C.P C.P = none; unfold baseOf; simp
      bC := nofun
      iC := fun x y c hx hy => hR.ok.iC x y c (cloL_get hx) (cloL_get hy)
      gd := fun h hb => hR.ok.gd h fun a o e => hb a o (by
        show baseOf s.heap C.P a = some o
        unfold baseOf
        rw [if_neg (fun q => by rw [q, hR.ok.bP] at e; cases e)]
        exact hR.keep _ _ e) }
    ns := by
      refine ⟨mL, h4L, fun i x d e1 e2 e3 e4 => ?_⟩
      rcases getElem?_append_cases e1 with ⟨q, e⟩ | ⟨q, e⟩
      · simp only at e2
        rw [List.getElem?_append_left (by simpa using q), List.getElem?_map] at e2
        cases h : nl[i]? with
        | none => rw [h] at e2; cases e2
        | some y => rw [h] at e2; cases e2; exact absurd rfl e3
      · have := k2 x (List.mem_of_getElem? e)
        rw [show (ciOf C scope (cloL C.env scope.names []) L (baseOf s.heap C.P) z (nl ++ nc)).env.kindOf x = _ from this] at e4
        cases e4
    cel := fun i x d e1 e2 e3 => by
      rcases getElem?_append_cases e1 with ⟨q, e⟩ | ⟨q, e⟩
      · have := k1 x (List.mem_of_getElem? e)
        rw [show (ciOf C scope (cloL C.env scope.names []) L (baseOf s.heap C.P) z (nl ++ nc)).env.kindOf x = _ from this] at e3
        cases e3
      · simp only at e2
        rw [List.getElem?_append_right (by simpa using q), List.length_map] at e2
        obtain ⟨j, q1, q2, q3⟩ := hcaps.get e e2
        obtain ⟨c, ov, h1, ⟨o, h2, h3⟩, h4⟩ := hR.cel j.n x d (W.at q1) q2 (by rw [W.kd q1]; rfl)
        exact ⟨c, ov, cloL_some (S.c x (List.mem_of_getElem? e)) h1, ⟨o, hk _ _ h2, h3⟩, h4⟩
    frz := fun a o e => hk _ _ (hR.frz _ _ e)
    zK := hR.zK
    zP := hR.zP
    zL := hR.z_none hL
    zC := nofun
    hC := fun x c hc => by
      obtain ⟨o, h, hd⟩ := hR.hC x c (cloL_get hc)
      exact ⟨o, hk _ _ h, hd⟩
    zin := fun a o e => .inl e
    keep := fun b o e => hk _ _ (baseOf_some e).2
    mem := nofun
    memnd := List.nodup_nil
    raw := fun a o hm => by
      simp only [List.mem_cons, List.not_mem_nil, or_false, Prod.mk.injEq] at hm
      rcases hm with ⟨rfl, rfl⟩ | ⟨rfl, rfl⟩
      · exact fin _ hI hIL _ h4I
      · exact fin _ hD hDL _ h4D
    tab := hR.tab.keeps hk
    bare := hg ▸ hR.bare
    os := ho.trans hR.os }

theorem inner_back {scope : Scope} {names : List Str} {cl : List (Str × Addr)} {z z' : FH} {σ : Mine.St} {σ' : List V} {s s' : Shared} {h' : Heap} {D L : Addr} {vs : List Value} {n : Nat} {acc : List V}
    (hR : Rel C z σ s) (hR' : Rel (ciOf C scope cl L (baseOf s.heap C.P) z names) z' ⟨σ', [], [(D, lstO vs.toArray n)]⟩ s') (hz : FH.le z z') (hD : s.heap.get? D = none) (hL : s.heap.get? L = none) (hk : ∀ a o, a ≠ L → s'.heap.get? a = some o → h'.get? a = some o)
    (hacc : Reps z' acc vs) : FH.le z (z'.add D (lstO vs.toArray n)) ∧ Rel C (z'.add D (lstO vs.toArray n)) σ { s' with heap := h' } ∧ Rep (z'.add D (lstO vs.toArray n)) (.list acc) (.ref D) := by
  obtain ⟨d1, d2, d3, d4, d5, d6, d7⟩ := hR'.raw D _ (.head _)
  have hle := FH.le_add (o := lstO vs.toArray n) d2
  have hLz : z' L = none := hR'.zL
  have hLP : L ≠ C.P := hR'.ok.LP
  refine ⟨hz.trans hle, hR.ext (fun a o ha e => hk _ _ (fun q => by rw [q, hL] at e; cases e) (hR'.keep a o (by show baseOf s.heap C.P a = some o; unfold baseOf; rw [if_neg ha]; exact e))) (hz.trans hle) (fun a o e => ?_) (fun a o e => ?_) ?_ hR'.bare (hR'.os.trans hR.os.symm), .list (FH.add_self _ _ _) (hacc.mono hle)⟩
  · unfold FH.add at e
    split at e
    · subst_vars; cases e; exact hk _ _ d5 d1
    · exact hk _ _ (fun q => by rw [q, hLz] at e; cases e) (hR'.frz _ _ e)
  · unfold FH.add at e
    split at e
    · subst_vars; exact .inr hD
    · rcases hR'.zin _ _ e with h | ⟨h1, h2⟩
      · exact .inl h
      · exact .inr (baseOf_none' h1 h2)
  · obtain ⟨ps, e, q⟩ := hR'.tab
    exact ⟨ps, hk _ _ hLP.symm e, q⟩


structure CompK (k : Nat) (C : FC) (tt : TG) (ti : TB) (te : TE) (nl : Nat) (caps : List V) (Q : List V → St → Prop) (d : V) (σ1 : St) : Prop where
  h : ∃ ds, IterOK k C d ds ∧ ds.length ≤ 16777216 ∧ ∀ Ci : FC, Ci.T = C.T → Ci.P = C.P →
    ∃ J : Nat → List V → Prop, J 0 [] ∧ (∀ i x acc, ds[i]? = some x → J i acc → acc.length ≤ i → TurnOK k Ci tt ti te nl caps x (fun r => match r with | some y => J (i + 1) (acc ++ [y]) | none => J (i + 1) acc)) ∧
      ∀ acc, J ds.length acc → acc.length ≤ ds.length → Q acc σ1

theorem comp_go {elt target iter : Expr} {ifs : List Expr} {scope : Scope} {nl nc gs : List Str} {tt : TG} {ti : TB} {te : TE} {caps : List V} {A : Around} {z : FH} {σ : Mine.St} {s : Shared} {v : Value} {d : V} {Q : List V → Mine.St → Prop} (S : ScopeOK scope nl nc gs) (W : Wf C F)
    (ht : SemT (F.inner (nkOf nl nc) gs) target tt) (hi : SemI (F.inner (nkOf nl nc) gs) ifs ti) (he : SemE (F.inner (nkOf nl nc) gs) elt te) (hcaps : Caps F.nk σ.vars nc caps)
    (hA : Room k A) (hR : Rel C z σ s) (hv : Rep z d v) (h : CompK k C tt ti te nl.length caps Q d σ) {use : Option (Value → Sem Unit)} {QQ : Value → Shared → Prop}
    (hend : ∀ (L D : Addr) (z2 : FH) (acc : List V) (mL : Str → Option Value) (s' : Shared), s.heap.get? L = none → D ≠ L → s'.heap.Ns L mL → z2 L = none → FH.le z z2 → Q acc σ → Rep z2 (.list acc) (.ref D) →
      (∀ h', (∀ a o, a ≠ L → s'.heap.get? a = some o → h'.get? a = some o) → Rel C z2 σ { s' with heap := h' }) → compPost (Mo C) A NoE use QQ (.ref D) L (.ok .next) s') :
    wpAny (Mo C) A (pyIter v) (fun it s₂ => wpAny (Mo C) A (newList []) (fun acc s₃ =>
      wpAny (Mo C) A (newFunctionEnv scope C.env.globals (cloL C.env scope.names []) [] C.env.qual none .none (some C.env)) (fun cenv s₄ =>
        codeAny (Mo C) A (.compStart (.ListComp elt [⟨target, iter, ifs, 0⟩] scope pos) 0 it acc { cenv with scope := relabel scope C.env }) (compPost (Mo C) A NoE use QQ acc cenv.locals) s₄) NoE s₃) NoE s₂) NoE s := by
  obtain ⟨ds, hit, hsz, hbody⟩ := h.h
  refine hit.h hA hR hv _ ?_
  intro o fp P St hof hcls Wk hSt0 hfp hP
  refine wpAny_newObj_type (hd := by size_fits) (wpAny_newFunctionEnv (fun y hy => (S.nm y hy).2.1) (by intro y hy; simp at hy) (fun h₁ hns₁ hsb₁ => ?_) S.k)
  dsimp only at hns₁ hsb₁ ⊢
  generalize hH1 : s.heap.push o = H1 at hns₁ hsb₁ hSt0 ⊢
  have hD : H1.objs.size = s.heap.objs.size + 1 := by rw [← hH1, Heap.size_push]
  generalize hH2 : H1.push { cls := .type "list", dict := none, data := .seq ([] : List Value).toArray } = H2 at hns₁ hsb₁ ⊢
  have hC : H2.objs.size = s.heap.objs.size + 2 := by rw [← hH2, Heap.size_push, hD]
  have hDI : H1.objs.size ≠ s.heap.objs.size := by rw [hD]; exact Nat.succ_ne_self _
  have hDC : H1.objs.size ≠ H2.objs.size := by rw [hD, hC]; exact Nat.ne_of_lt (Nat.lt_succ_self _)
  have hIC : s.heap.objs.size ≠ H2.objs.size := by rw [hC]; exact Nat.ne_of_lt (Nat.lt_succ_of_lt (Nat.lt_succ_self _))
  have fresh : ∀ a, s.heap.objs.size ≤ a → s.heap.get? a = none := fun a ha => by
    cases e : s.heap.get? a with
    | none => rfl
    | some o' => exact absurd (Heap.lt_size e) (Nat.not_lt.mpr ha)
  have hfD := fresh H1.objs.size (by rw [hD]; exact Nat.le_succ _)
  have hfL := fresh H2.objs.size (by rw [hC]; exact Nat.le_add_right _ _)
  have hfI := fresh s.heap.objs.size (Nat.le_refl _)
  have hne : ∀ {a b o'}, s.heap.get? a = none → s.heap.get? b = some o' → b ≠ a := fun h1 h2 q => by rw [← q, h2] at h1; cases h1
  have old : ∀ b o', s.heap.get? b = some o' → h₁.get? b = some o' := fun b o' e => hsb₁.extBut b o' (hne hfL e) (Heap.get?_push_of_some _ (hH2 ▸ Heap.get?_push_of_some _ (hH1 ▸ Heap.get?_push_of_some _ e)))
  have eI : h₁.get? s.heap.objs.size = some o := hsb₁.extBut _ _ hIC (Heap.get?_push_of_some _ (hH2 ▸ Heap.get?_push_of_some _ (hH1 ▸ Heap.get?_push_size _ hof)))
  have eD : h₁.get? H1.objs.size = some (lstO #[] 0) := hsb₁.extBut _ _ hDC (Heap.get?_push_of_some _ (hH2 ▸ Heap.get?_push_size _ rfl))
  have hin := inner_rel (s4 := { s with heap := h₁, toks := s.toks + ([] : List (Str × Value)).length }) S W hR hcaps hfI hfD hfL hIC hDC old eI eD hns₁ rfl rfl
  obtain ⟨J, hJ0, hstep, hQ⟩ := hbody (ciOf C scope (cloL C.env scope.names []) H2.objs.size (baseOf s.heap C.P) z (nl ++ nc)) rfl rfl
  have hSt1 : St 0 h₁ := Wk.frame _ _ _ hSt0 fun b hb ob e => hsb₁.extBut b ob (fun q => by
    rcases hfp b hb with rfl | ⟨ob', e'⟩
    · exact hIC q
    · exact hne hfL (hR.frz _ _ e') q) (Heap.get?_push_of_some _ (hH2 ▸ Heap.get?_push_of_some _ e))
  have loop : ∀ s₃ : Shared, s₃ = { s with heap := h₁, toks := s.toks + ([] : List (Str × Value)).length } →
      codeAny (Mo C) A (.compLoop (.ListComp elt [⟨target, iter, ifs, 0⟩] scope pos) 0 (.ref s.heap.objs.size) (.ref H1.objs.size) (compEnvC scope (cloL C.env scope.names []) H2.objs.size C.env))
        (compPost (Mo C) A NoE use QQ (.ref H1.objs.size) H2.objs.size) s₃ := by
    rintro s₃ rfl
    refine comp_loop (Ci := ciOf C scope (cloL C.env scope.names []) H2.objs.size (baseOf s.heap C.P) z (nl ++ nc)) (inner_wf S W hR.ok.kind (hcaps.cell W)) ht hi he hA hsz hcls Wk hfp hP hDI.symm (List.length_map (as := nl) (fun zu => V.undef)) hin hSt1 hJ0 hstep ?_
    intro s' z' n vs acc σ' hz' hR' hacc hJ hal
    obtain ⟨mL, hmL, _⟩ := hR'.ns
    have hz2L : (z'.add H1.objs.size (lstO vs.toArray n)) H2.objs.size = none := by
      unfold FH.add; rw [if_neg hDC.symm]; exact hR'.zL
    refine hend H2.objs.size H1.objs.size (z'.add H1.objs.size (lstO vs.toArray n)) acc mL s' hfL hDC hmL hz2L ?_ (hQ acc hJ hal) ?_ fun h' hk => (inner_back hR hR' hz' hfD hfL hk hacc).2.1
    · exact (inner_back (h' := s'.heap) hR hR' hz' hfD hfL (fun zu zu zu e => e) hacc).1
    · exact (inner_back (h' := s'.heap) hR hR' hz' hfD hfL (fun zu zu zu e => e) hacc).2.2
  exact codeAny_compStart_list (loop _ rfl) (Wk.self 0 _ _ _ hSt1 (loop _ rfl))

theorem clos_of {scope : Scope} {nl nc gs : List Str} {z : FH} {σ : Mine.St} {s : Shared} {caps : List V} (S : ScopeOK scope nl nc gs) (W : Wf C F) (hR : Rel C z σ s) (hcaps : Caps F.nk σ.vars nc caps) : closureFor scope C.env = pure (cloL C.env scope.names []) :=
  closure_eq fun p hp hf => by
    have hx := (S.nm p hp).2.2 hf
    obtain ⟨j, hj, e⟩ := List.mem_iff_getElem.mp hx
    obtain ⟨i, q1, q2, _⟩ := hcaps.get (by rw [List.getElem?_eq_getElem hj, e]) (List.getElem?_eq_getElem (hcaps.len ▸ hj))
    obtain ⟨c, ov, h1, _⟩ := hR.cel i.n p.1 _ (W.at q1) q2 (by rw [W.kd q1]; rfl)
    exact ⟨c, h1⟩
@[reducible] noncomputable def tComp (it : TE) (tt : TG) (ti : TB) (te : TE) (nl : Nat) (is : List Ix) : TE := fun k C Q σ => vCaps is σ.vars fun zu => it k C (fun d σ1 => vCaps is σ1.vars fun caps => CompK k C tt ti te nl caps (fun acc σ1 => Q (.list acc) σ1) d σ1) σ
theorem SemE.comp {elt target iter : Expr} {ifs : List Expr} {scope : Scope} {tt : TG} {ti : TB} {te tit : TE} {is : List Ix} (nl nc gs : List Str) (nk : List (Str × NameKind)) (hnk : nkOf nl nc = nk) (hf : ∀ env x, foldedSetIterable iter env x = pure x) (hs : scopeOK scope nl nc gs = true) (hc : AtKs F.nk is nc)
    (hit : SemE F iter tit) (ht : SemT (F.inner nk gs) target tt) (hi : SemI (F.inner nk gs) ifs ti) (he : SemE (F.inner nk gs) elt te) : SemE F (.ListComp elt [⟨target, iter, ifs, 0⟩] scope pos) (tComp tit tt ti te nl.length is) := ⟨fun {k C} W {Q σ} q A z s hA hR => by
  subst hnk
  have S := ScopeOK.of hs
  obtain ⟨caps0, hc0, q⟩ := vCaps_out hc q
  rw [eval_ListComp]
  refine wpAny_comprehension_free (use := none) rfl (hf _) (clos_of S W hR hc0) S.k (fun x hx e => (S.nm x hx).1 e) ((hit.h W q).go hA hR fun v s1 d σ1 z1 hz1 hR1 hd hK => ?_)
  obtain ⟨caps, hcaps, hK⟩ := vCaps_out hc hK
  refine comp_go S W ht hi he hcaps hA hR1 hd hK ?_
  intro L D z2 acc mL s' hL hDL hmL hz2 hzz hq hrep hback
  exact ⟨mL, hmL, fun h' hsb => ⟨_, _, z2, hz1.trans hzz, hback h' (fun a o ha e => hsb.extBut a o ha e), hrep, hq⟩⟩⟩

theorem blockKind_fn {env : Env} (h : env.scope.kind = .function) : env.blockKind = .function := by unfold Env.blockKind; rw [h]; rfl
set_option tactic.hygienic true in
theorem SemS.asgU {x : Str} {px spos : Pos} {elt target iter : Expr} {ifs : List Expr} {scope : Scope} {i : Ix} {tt : TG} {ti : TB} {te tit : TE} {is : List Ix} (nl nc gs : List Str) (nk : List (Str × NameKind)) (hnk : nkOf nl nc = nk) (hx : AtK F.nk i x .local)
    (hline : (px.line == pos.line && !(scope.names.any fun (n, k) => n == x && (k == .local || k == .cell))) = true) (hf : ∀ env x, foldedSetIterable iter env x = pure x) (hs : scopeOK scope nl nc gs = true) (hc : AtKs F.nk is nc)
    (hit : SemE F iter tit) (ht : SemT (F.inner nk gs) target tt) (hi : SemI (F.inner nk gs) ifs ti) (he : SemE (F.inner nk gs) elt te) :
    SemS F (.Assign [.Name x px] (.ListComp elt [⟨target, iter, ifs, 0⟩] scope pos) spos) (tsAsg (tComp tit tt ti te nl.length is) (tgVar i)) := ⟨fun {k C} W {Q σ} q A z s hA hR => by
  subst hnk
  have S := ScopeOK.of hs
  obtain ⟨caps0, hc0, q⟩ := vCaps_out hc q
  have hsw : swapsWith (.ListComp elt [⟨target, iter, ifs, 0⟩] scope pos) (some (.Name x px)) spos.line C.env = pure true := by
    show (pure _ : Sem Bool) = pure true
    simp only [Bool.and_eq_true] at hline
    rw [show C.env.blockKind = .function from blockKind_fn hR.ok.kind, W.kd hx, hline.2, show (Expr.ListComp elt [⟨target, iter, ifs, 0⟩] scope pos).pos.line = pos.line from rfl, hline.1]
    rfl
  rw [exec_Assign_Name_used _ _ _ _ hsw]
  refine wpAny_bind (wpAny_standAt (wpAny_bind ?_))
  show wpAny _ A (do let _ ← comprehension (.ListComp elt [⟨target, iter, ifs, 0⟩] scope pos) scope C.env _ (newList []) false (eval iter C.env) (some (PySem.assign (.Name x px) C.env))) _ _ s
  refine wpAny_bind (wpAny_mono (wpAny_comprehension_free (use := some (PySem.assign (.Name x px) C.env)) (Q := fun zu s' => Post C RepF Q z .next s') rfl (hf _) (clos_of S W hR hc0) S.k (fun x hx e => (S.nm x hx).1 e)
    ((hit.h W q).go hA hR fun v s1 d σ1 z1 hz1 hR1 hd hK => ?_)) (fun zu s' hq => wpAny_pure (wpAny_pure hq)) fun zu zu x => x)
  obtain ⟨caps, hcaps, hK⟩ := vCaps_out hc hK
  refine comp_go S W ht hi he hcaps hA hR1 hd hK ?_
  intro L D z2 acc mL s' hL hDL hmL hz2 hzz hq hrep hback
  show wpAny _ A (PySem.assign (.Name x px) C.env (.ref D)) _ _ s'
  obtain ⟨vars1, mem1, raw1⟩ := σ1
  obtain ⟨oL, es, ep, hoL, hoL2⟩ := hmL
  have hRb : Rel C z2 ⟨vars1, mem1, raw1⟩ s' := hback s'.heap fun zu zu zu e => e
  have hne : ∀ {b o'}, s1.heap.get? b = some o' → L ≠ b := fun h2 q => by rw [q, h2] at hL; cases hL
  have hRr : Rel C z2 ⟨vars1, mem1, (L, oL) :: raw1⟩ s' := hRb.rawOn hoL hz2 (hR1.base_none hL) (hR1.ne_P hL) (by
      obtain ⟨m, ⟨o, es, ep, h1, _⟩, _⟩ := hR1.ns; exact hne h1) (fun y c hc => by obtain ⟨o, h1, _⟩ := hR1.hC y c hc; exact hne h1) (fun hm => by
      obtain ⟨⟨a, ys⟩, hm, e⟩ := List.mem_map.mp hm
      obtain ⟨_, _, _, vs, n, h4, _⟩ := hR1.mem a ys hm
      exact hne h4 e.symm)
  have hfresh : ∀ p ∈ raw1, p.1 ≠ L := fun p hp q => hne (hR1.raw p.1 p.2 hp).1 q.symm
  refine wpAny_mono ((SemT.name (pos := px) (t := tgVar i) (SemN.loc hx)).h (k := k) W (d := .list acc) (Q := fun σ' => σ' = ⟨vSet i vars1 (.list acc), mem1, (L, oL) :: raw1⟩) (σ := ⟨vars1, mem1, (L, oL) :: raw1⟩) rfl hA hRr hrep) (fun zu s2 w => w.elim fun σ2 w => w.elim fun z3 w => ?_) fun zu zu x => x
  obtain ⟨hz3, hR3, rfl⟩ := w
  exact ⟨mL, ⟨oL, es, ep, (hR3.raw _ _ (.head _)).1, hoL2⟩, fun h' hsb => ⟨.next, _, z3, ((hz1.trans hzz).trans hz3), hR3.rawOff (s' := { s2 with heap := h' }) hfresh (fun b o hb e => hsb.extBut b o hb e) rfl rfl, .next, hq⟩⟩⟩
end

theorem Stb.one {caps : List V} {rw : List (Addr × Obj)} {a : V} {J : Prop} (h : J) : Stb 1 caps rw ⟨a :: caps, [], rw⟩ ∧ J := ⟨⟨rfl, rfl, [a], rfl, rfl⟩, h⟩
theorem Stb.two {caps : List V} {rw : List (Addr × Obj)} {a b : V} {J : Prop} (h : J) : Stb 2 caps rw ⟨a :: b :: caps, [], rw⟩ ∧ J := ⟨⟨rfl, rfl, [a, b], rfl, rfl⟩, h⟩
noncomputable abbrev Turn1 (k : Nat) (Ci : FC) (tt : TG) (ti : TB) (te : TE) (caps : List V) (x : V) (r : Option V) : Prop :=
  ∀ a rw, tt k Ci x (fun σ' => ti k Ci (fun ok σ'' => (ok = true → te k Ci (fun y σ3 => Stb 1 caps rw σ3 ∧ some y = r) σ'') ∧ (ok = false → Stb 1 caps rw σ'' ∧ none = r)) σ') ⟨a :: caps, [], rw⟩
noncomputable abbrev Turn2 (k : Nat) (Ci : FC) (tt : TG) (ti : TB) (te : TE) (caps : List V) (x : V) (r : Option V) : Prop :=
  ∀ a b rw, tt k Ci x (fun σ' => ti k Ci (fun ok σ'' => (ok = true → te k Ci (fun y σ3 => Stb 2 caps rw σ3 ∧ some y = r) σ'') ∧ (ok = false → Stb 2 caps rw σ'' ∧ none = r)) σ') ⟨a :: b :: caps, [], rw⟩
theorem CompK.fn {k : Nat} {C : FC} {tt : TG} {ti : TB} {te : TE} {nl : Nat} {caps : List V} {Q : List V → Mine.St → Prop} {d : V} {σ1 : Mine.St} {α : Type} (l : List α) (g : α → V) (f : α → Option V)
    (hit : IterOK k C d (l.map g)) (hl : l.length ≤ 16777216)
    (ht : ∀ Ci : FC, Ci.T = C.T → Ci.P = C.P → ∀ a ∈ l, ∀ J : Option V → Prop, J (f a) → TurnOK k Ci tt ti te nl caps (g a) J)
    (hq : Q (l.filterMap f) σ1) : CompK k C tt ti te nl caps Q d σ1 := by
  refine ⟨l.map g, hit, by simpa using hl, fun Ci h1 h2 => ⟨fun i acc => acc = (l.take i).filterMap f, by simp, fun i x acc hx hJ zu => ?_, fun acc hJ zu => ?_⟩⟩
  · rw [List.getElem?_map] at hx
    cases hi : l[i]? with
    | none => rw [hi] at hx; cases hx
    | some a =>
      rw [hi] at hx; cases hx
      refine ht Ci h1 h2 a (List.mem_of_getElem? hi) _ ?_
      have e : (l.take (i + 1)).filterMap f = acc ++ (f a).toList := by
        rw [List.take_add_one, hi, hJ, List.filterMap_append]
        cases h : f a <;> simp [h]
      cases h : f a <;> simp only [h] at e ⊢ <;> rw [e] <;> simp
  · rw [hJ, List.length_map, List.take_length]; exact hq
theorem filterMap_if {α β : Type} (l : List α) (p : α → Bool) (f : α → β) : l.filterMap (fun a => if p a = true then some (f a) else none) = (l.filter p).map f := by
  induction l with
  | nil => rfl
  | cons a r ih => cases h : p a <;> simp [h, ih]
theorem J_eq {α : Type} {J : Option α → Prop} {x y : Option α} (h : J x) (e : x = y) : J y := e ▸ h
theorem CompK.filt1 {k : Nat} {C : FC} {tt : TG} {ti : TB} {te : TE} {caps : List V} {Q : List V → Mine.St → Prop} {d : V} {σ1 : Mine.St} {α : Type} (l : List α) (g : α → V) (p : α → Bool) (f : α → V) (hit : IterOK k C d (l.map g)) (hl : l.length ≤ 16777216)
    (ht : ∀ Ci : FC, Ci.T = C.T → Ci.P = C.P → ∀ a ∈ l, ∀ J : Option V → Prop, J (if p a = true then some (f a) else none) → ∀ a0 rw, tt k Ci (g a) (fun σ' => ti k Ci (fun ok σ'' => (ok = true → te k Ci (fun y σ3 => Stb 1 caps rw σ3 ∧ J (some y)) σ'') ∧ (ok = false → Stb 1 caps rw σ'' ∧ J none)) σ') ⟨a0 :: caps, [], rw⟩)
    (hq : Q ((l.filter p).map f) σ1) : CompK k C tt ti te 1 caps Q d σ1 := CompK.fn l g _ hit hl (fun Ci h1 h2 a ha J hJ locs rw hlen => match locs, hlen with | [a0], _ => ht Ci h1 h2 a ha J hJ a0 rw) (by rw [filterMap_if]; exact hq)
theorem CompK.filt2 {k : Nat} {C : FC} {tt : TG} {ti : TB} {te : TE} {caps : List V} {Q : List V → Mine.St → Prop} {d : V} {σ1 : Mine.St} {α : Type} (l : List α) (g : α → V) (p : α → Bool) (f : α → V) (hit : IterOK k C d (l.map g)) (hl : l.length ≤ 16777216)
    (ht : ∀ Ci : FC, Ci.T = C.T → Ci.P = C.P → ∀ a ∈ l, ∀ J : Option V → Prop, J (if p a = true then some (f a) else none) → ∀ a0 b0 rw, tt k Ci (g a) (fun σ' => ti k Ci (fun ok σ'' => (ok = true → te k Ci (fun y σ3 => Stb 2 caps rw σ3 ∧ J (some y)) σ'') ∧ (ok = false → Stb 2 caps rw σ'' ∧ J none)) σ') ⟨a0 :: b0 :: caps, [], rw⟩)
    (hq : Q ((l.filter p).map f) σ1) : CompK k C tt ti te 2 caps Q d σ1 := CompK.fn l g _ hit hl (fun Ci h1 h2 a ha J hJ locs rw hlen => match locs, hlen with | [a0, b0], _ => ht Ci h1 h2 a ha J hJ a0 b0 rw) (by rw [filterMap_if]; exact hq)
theorem CompK.map1 {k : Nat} {C : FC} {tt : TG} {ti : TB} {te : TE} {caps : List V} {Q : List V → Mine.St → Prop} {d : V} {σ1 : Mine.St} {α : Type} (l : List α) (g : α → V) (f : α → V) (hit : IterOK k C d (l.map g)) (hl : l.length ≤ 16777216)
    (ht : ∀ Ci : FC, Ci.T = C.T → Ci.P = C.P → ∀ a ∈ l, ∀ J : Option V → Prop, J (some (f a)) → ∀ a0 rw, tt k Ci (g a) (fun σ' => ti k Ci (fun ok σ'' => (ok = true → te k Ci (fun y σ3 => Stb 1 caps rw σ3 ∧ J (some y)) σ'') ∧ (ok = false → Stb 1 caps rw σ'' ∧ J none)) σ') ⟨a0 :: caps, [], rw⟩)
    (hq : Q (l.map f) σ1) : CompK k C tt ti te 1 caps Q d σ1 := CompK.fn l g (fun a => some (f a)) hit hl (fun Ci h1 h2 a ha J hJ locs rw hlen => match locs, hlen with | [a0], _ => ht Ci h1 h2 a ha J hJ a0 rw) (by rw [show (fun a => some (f a)) = some ∘ f from rfl, List.filterMap_eq_map]; exact hq)
end Mine
namespace Mine
variable {k : Nat} {C : FC} {σ : Mine.St} {pos : Pos}
theorem BinOK.powI {Q : V → St → Prop} (q : Q (.int 100000000) σ) : BinOK k C .Pow (.int 10) (.int 8) Q σ := ⟨fun hA hR ha hb => ha.eInt fun zu => hb.eInt fun zu =>
  AutoIntOps.pow_4 (by decide) (by decide) (by decide) (by decide) (by decide +kernel) (Post.val hR (.int _ _) q)⟩
theorem BinOK.mulS {c : Nat} {n : Int} {Q : V → St → Prop} (h : n = 1 ∨ n = 2) (q : Q (.str (List.replicate n.toNat c)) σ) : BinOK k C .Mult (.str [c]) (.int n) Q σ := ⟨fun hA hR ha hb => ha.eStr fun zu => hb.eInt fun zu => by
  refine P.mul_str (by rcases h with rfl | rfl <;> decide) (fun zu zu => by rcases h with rfl | rfl <;> simp [S_len]) (fun zu zu => by rcases h with rfl | rfl <;> simp [S_len, Builtin.Str.tooLong, sizeLine]) ?_
  rcases h with rfl | rfl
  · exact Post.val hR (.str _ _) q
  · have e : ∀ t : Tok, (if (2 : Int) < 1 then Made.str Str.empty else if ((2 : Int) == 1 || (S [c]).length == 0) = true then Made.val (.str (S [c]) t) else Made.str ⟨List.foldl (fun x1 x2 => x1 ++ x2) #[] (List.replicate (2 : Int).toNat (S [c]).cps)⟩) = Made.str (S [c, c]) := by
      intro t; simp [S_len, S]
    rw [e]
    exact ⟨by rw [S_len, sizeLine_eq]; simp, Post.val hR (.str [c, c] _) q⟩⟩
theorem TruOK.lst {d : V} {l : List V} {Q : Bool → St → Prop} (hl : lst? σ d = some l) (h : l.length ≤ 16777216) (q : Q (!l.isEmpty) σ) : TruOK k C d Q σ := ⟨fun hA hR ha => lst_e hR ha hl fun a vs n e hr => by
  refine wpAny_truthy_list (isList_of e) (by rw [List.size_toArray, ← hr.length]; lia) ?_
  rw [show vs.toArray.isEmpty = l.isEmpty by have := hr.length; cases l <;> cases vs <;> simp_all]
  exact Post.bool hR q⟩
theorem BinOK.addL {a b : V} {xs ys : List V} {Q : V → St → Prop} (ha : lst? σ a = some xs) (hb : lst? σ b = some ys) (h : xs.length + ys.length ≤ 16777216) (q : Q (.list (xs ++ ys)) σ) : BinOK k C .Add a b Q σ := ⟨fun hA hR hva hvb => lst_e hR hva ha fun p vs n e hr => lst_e hR hvb hb fun p' ws n' e' hr' =>
  P.add_list (items := vs.toArray) (items2 := ws.toArray) e e' (Post.lstN (n := 0) (.refl _) hR (hr.append hr') q (by rw [List.append_toArray])) (by rw [List.size_toArray, List.size_toArray, ← hr.length, ← hr'.length, sizeLine_eq]; exact h)⟩
theorem seqI {i : Int} {n : Nat} (h : -(n : Int) ≤ i ∧ i < n) : seqIndex? i n = some (if i < 0 then i + n else i).toNat := by
  unfold seqIndex?
  split <;> simp_all <;> lia
noncomputable def itm {α : Type} (l : List α) (i : Int) : Option α := l[(if i < 0 then i + l.length else i).toNat]?
theorem isSq.of {d : V} {l : List V} (h : lst? σ d = some l) : isSq σ d := by
  cases d with
  | list _ => trivial
  | «mut» a => exact ⟨l, h⟩
  | _ => cases h
theorem IdxOK.lst {a d : V} {l : List V} {i : Int} {Q : V → St → Prop} (ha : lst? σ a = some l) (h : -(l.length : Int) ≤ i ∧ i < l.length) (hs : l.length ≤ 16777216) (hd : itm l i = some d) (q : Q d σ) : IdxOK k C a (.int i) Q σ := ⟨isSq.of ha, ⟨fun hA hR hva hvi => hvi.eInt fun zu => lst_e hR hva ha fun p vs n e hr => by
  unfold itm at hd
  obtain ⟨v, hv, hvr⟩ := hr.get hd
  have hlen := hr.length
  by_cases h0 : i < 0
  · rw [if_pos h0] at hv
    exact wpAny_getItem_list_neg (isList_of e) h0 (by rw [List.size_toArray]; lia) (by lia) (by rw [List.size_toArray, ← hlen]; simpa using hv) (Post.val hR hvr q)
  · rw [if_neg h0] at hv
    exact wpAny_getItem_list (isList_of e) (by lia) (by lia) (by simpa using hv) (Post.val hR hvr q)⟩⟩
theorem IdxOK.tup {d : V} {l : List V} {i : Int} {Q : V → St → Prop} (h : -(l.length : Int) ≤ i ∧ i < l.length) (hs : l.length ≤ 16777216) (hd : itm l i = some d) (q : Q d σ) : IdxOK k C (.tup l) (.int i) Q σ := ⟨trivial, ⟨fun hA hR hva hvi => hvi.eInt fun zu => tup_e hR hva fun p vs n e hr => by
  unfold itm at hd
  obtain ⟨v, hv, hvr⟩ := hr.get hd
  have hlen := hr.length
  exact getItem_tuple (isTup_of e) (by lia) (by lia) (seqI (n := vs.toArray.size) (by rw [List.size_toArray]; lia)) (by rw [List.size_toArray, ← hlen]; simpa using hv) (Post.val hR hvr q)⟩⟩
theorem IdxOK.str {l : List Nat} {c : Nat} {i : Int} {Q : V → St → Prop} (h : -(l.length : Int) ≤ i ∧ i < l.length) (hs : l.length ≤ 16777216) (hd : itm l i = some c) (q : Q (.str [c]) σ) : IdxOK k C (.str l) (.int i) Q σ := ⟨trivial, ⟨fun hA hR hva hvi => hvi.eInt fun zu => hva.eStr fun zu => by
  unfold itm at hd
  refine P.getItem_str (c := c) (by simp; lia) ?_ (Post.val hR (.str [c] _) q)
  rw [S_len, seqI h]
  simpa using hd⟩⟩
theorem itm_rng {α : Type} {l : List α} {i : Int} {c : α} (h : itm l i = some c) (hi : -1 ≤ i) : -(l.length : Int) ≤ i ∧ i < l.length := by
  have := (List.getElem?_eq_some_iff.mp h).1
  split at this <;> omega
theorem itN (n : Nat) : (-1 : Int) ≤ (n : Int) := Int.le_trans (by decide) (Int.natCast_nonneg n)
theorem IdxOK.strI {l : List Nat} {c : Nat} {i : Int} {Q : V → St → Prop} (hi : -1 ≤ i) (hs : l.length ≤ 16777216) (hd : itm l i = some c) (q : Q (.str [c]) σ) : IdxOK k C (.str l) (.int i) Q σ := IdxOK.str (itm_rng hd hi) hs hd q
theorem IdxOK.lstI {a d : V} {l : List V} {i : Int} {Q : V → St → Prop} (ha : lst? σ a = some l) (hi : -1 ≤ i) (hs : l.length ≤ 16777216) (hd : itm l i = some d) (q : Q d σ) : IdxOK k C a (.int i) Q σ := IdxOK.lst ha (itm_rng hd hi) hs hd q
theorem IdxOK.map {α : Type} {a : V} {f : α → V} {l : List α} {i : Int} {Q : V → St → Prop} (ha : lst? σ a = some (l.map f)) (h : 0 ≤ i ∧ i < l.length) (hs : l.length ≤ 16777216) (q : ∀ y, l[i.toNat]? = some y → Q (f y) σ) : IdxOK k C a (.int i) Q σ := by
  have h2 : i.toNat < l.length := by lia
  refine IdxOK.lst (d := f l[i.toNat]) ha (by rw [List.length_map]; lia) (by rw [List.length_map]; exact hs) ?_ (q _ (List.getElem?_eq_getElem h2))
  unfold itm
  rw [if_neg (by lia), List.getElem?_map, List.getElem?_eq_getElem h2]
  rfl
noncomputable def slc {α : Type} (l : List α) (lo hi : Option Int) : List α := (l.drop (lo.elim 0 (clipAt l.length))).take (hi.elim l.length (clipAt l.length) - lo.elim 0 (clipAt l.length))
theorem RepP.isPart {o : Option Int} {v : Value} (h : RepP o v) : IsPart v o := by cases h <;> constructor
theorem RepP.pv {o : Option Int} {v : Value} (h : RepP o v) : ∃ p : Option (Int × Tok), v = partValue p ∧ p.map (·.1) = o := by
  cases h with
  | none => exact ⟨Option.none, rfl, rfl⟩
  | int i t => exact ⟨Option.some (i, t), rfl, rfl⟩
theorem SlcOK.lst {a : V} {l : List V} {lo hi : Option Int} {Q : V → St → Prop} (ha : lst? σ a = some l) (hs : l.length ≤ 16777216) (q : Q (.list (slc l lo hi)) σ) : SlcOK k C a lo hi none Q σ := ⟨isSq.of ha, fun {A z s va b vl vu vt} hA hR hva hl hu ht hb => lst_e hR hva ha fun p vs n e hr => by
  cases ht
  refine wpAny_getItem_list_slice (isList_of e) ⟨_, hb, rfl, rfl⟩ hl.isPart hu.isPart .none (by simp) ?_ (by rw [List.size_toArray, ← hr.length, sizeLine_eq]; exact hs)
  rw [slicePick_plain]
  have hlen := hr.length
  refine Post.lstN (n := 0) (.refl _) hR (vs := slc vs lo hi) ?_ q (by simp [slc])
  unfold slc
  rw [hlen]
  exact (hr.drop _).take _⟩
theorem clip_le (n : Nat) (i : Int) : clipAt n i ≤ n := Int.toNat_le.mpr (Int.max_le.mpr ⟨Int.natCast_nonneg n, Int.min_le_right _ _⟩)
theorem strIdx (lo hi : Option Int) (n : Nat) : Builtin.Str.strSliceIndices lo hi 1 n = (List.range (hi.elim n (clipAt n) - lo.elim 0 (clipAt n))).map (lo.elim 0 (clipAt n) + ·) := by
  have h : Builtin.Str.strSliceIndices lo hi 1 n = sliceRange ((lo.elim 0 (clipAt n) : Nat) : Int) ((hi.elim n (clipAt n) : Nat) : Int) 1 := by
    unfold Builtin.Str.strSliceIndices
    cases lo <;> cases hi <;> simp [clipAt_cast]
  rw [h, sliceRange_one]
set_option tactic.hygienic true in
theorem SlcOK.str {l : List Nat} {lo hi : Option Int} {Q : V → St → Prop} (hs : l.length ≤ 16777216) (q : Q (.str (slc l lo hi)) σ) : SlcOK k C (.str l) lo hi none Q σ := ⟨trivial, fun {A z s va b vl vu vt} hA hR hva hl hu ht hb => hva.eStr fun zu => by
  cases ht
  obtain ⟨pl, rfl, hpl⟩ := hl.pv
  obtain ⟨pu, rfl, hpu⟩ := hu.pv
  refine wpAny_getItem_str_slice (l := pl) (u := pu) (st := none) ⟨_, hb, rfl, rfl⟩ rfl ?_
  have hp : slicePicked (S l) pl pu none = (List.range (hi.elim l.length (clipAt l.length) - lo.elim 0 (clipAt l.length))).map (lo.elim 0 (clipAt l.length) + ·) := by
    unfold slicePicked
    rw [hpl, hpu, S_len]
    exact strIdx lo hi l.length
  have hidx : (slicePicked (S l) pl pu none).filterMap ((S l).cps[·]?) = slc l lo hi := by
    rw [hp, pick_run]; rfl
  unfold sliceMade
  rw [hidx]
  split
  · rename_i hc
    simp only [Bool.and_eq_true, beq_iff_eq] at hc
    have hall : slc l lo hi = l := by
      have hc2 := hc.2
      rw [S_len, hp, List.length_map, List.length_range] at hc2
      have h1 : lo.elim 0 (clipAt l.length) ≤ l.length := by cases lo; exact Nat.zero_le _; exact clip_le _ _
      have h2 : hi.elim l.length (clipAt l.length) ≤ l.length := by cases hi; exact Nat.le_refl _; exact clip_le _ _
      unfold slc
      rw [hc2]
      rcases Nat.eq_zero_or_pos l.length with h0 | h0
      · rw [List.length_eq_zero_iff.mp h0]; simp
      · have h3 : lo.elim 0 (clipAt l.length) = 0 := by lia
        rw [h3]; simp
    rw [hall] at q
    exact Post.val hR (.str _ _) q
  · refine ⟨?_, Post.val hR (.str _ _) q⟩
    show (S (slc l lo hi)).length ≤ sizeLine
    rw [S_len, sizeLine_eq]
    unfold slc
    simp only [List.length_take, List.length_drop]
    lia⟩
theorem Rel.grow {z : FH} {s s' : Shared} (r : Rel C z σ s) (hk : ∀ a o, s.heap.get? a = some o → s'.heap.get? a = some o) (g : s'.gens = s.gens := by rfl) (o : s'.os = s.os := by rfl) : Rel C z σ s' :=
  r.ext (fun a o zu e => hk a o e) (.refl z) (fun a o e => hk _ _ (r.frz _ _ e)) (fun a o e => .inl e) (r.tab.keeps hk) (g ▸ r.bare) o
theorem Post.grow {Q : V → St → Prop} {z : FH} {s s' : Shared} {d : V} {v : Value} (r : Rel C z σ s) (hk : ∀ a o, s.heap.get? a = some o → s'.heap.get? a = some o) (hv : Rep z d v) (q : Q d σ)
    (g : s'.gens = s.gens := by rfl) (o : s'.os = s.os := by rfl) : Post C Rep Q z v s' := ⟨d, σ, z, .refl z, r.grow hk g o, hv, q⟩

theorem CmpOK.inS {c : Nat} {l : List Nat} {Q : V → St → Prop} (q : Q (.bool (decide (c ∈ l))) σ) : CmpOK k C .In (.str [c]) (.str l) Q σ := ⟨fun hA hR ha hb => ha.eStr fun zu => hb.eStr fun zu => by
  refine P.in_str ?_
  have := StrLaws.found_one (S l) c
  rw [show (⟨#[c]⟩ : Str) = S [c] from rfl] at this
  rw [this]
  exact Post.val hR (.bool _) (by simpa using q)⟩
theorem CmpOK.notinS {c : Nat} {l : List Nat} {Q : V → St → Prop} (q : Q (.bool (!decide (c ∈ l))) σ) : CmpOK k C .NotIn (.str [c]) (.str l) Q σ := ⟨fun hA hR ha hb => ha.eStr fun zu => hb.eStr fun zu => by
  refine P.notIn_str ?_
  have := StrLaws.found_one (S l) c
  rw [show (⟨#[c]⟩ : Str) = S [c] from rfl] at this
  rw [this]
  exact Post.val hR (.bool _) (by simpa using q)⟩
theorem ints_of {z : FH} : ∀ {ns : List Int} {vs : List Value}, Reps z (ns.map V.int) vs → IntsAre vs ns
  | [], _, h => h.eNil .nil
  | n :: r, _, h => h.eCons fun v vs a b => a.eInt fun zu => .cons _ _ (ints_of b)
theorem strs_of {z : FH} : ∀ {ns : List (List Nat)} {vs : List Value}, Reps z (ns.map V.str) vs → StrsAre vs (ns.map S)
  | [], _, h => h.eNil .nil
  | n :: r, _, h => h.eCons fun v vs a b => a.eStr fun zu => .cons _ _ (strs_of b)
theorem any_eq_mem {ns : List Int} {i : Int} : (ns.any fun x => x == i) = decide (i ∈ ns) := by
  induction ns with
  | nil => rfl
  | cons a r ih =>
    simp only [List.any_cons, ih, List.mem_cons]
    by_cases h : a = i
    · subst h; simp
    · have : ¬ i = a := fun q => h q.symm
      simp [h, this]
theorem CmpOK.inI {i : Int} {b : V} {ns : List Int} {Q : V → St → Prop} (hb : lst? σ b = some (ns.map V.int)) (q : Q (.bool (decide (i ∈ ns))) σ) : CmpOK k C .In (.int i) b Q σ := ⟨fun hA hR ha hvb => ha.eInt fun zu => lst_e hR hvb hb fun p vs n e hr =>
  in_list_ints (isList_of e) (ints_of hr) (any_eq_mem ▸ Post.val hR (.bool _) q)⟩
theorem CmpOK.notinI {i : Int} {b : V} {ns : List Int} {Q : V → St → Prop} (hb : lst? σ b = some (ns.map V.int)) (q : Q (.bool (!decide (i ∈ ns))) σ) : CmpOK k C .NotIn (.int i) b Q σ := ⟨fun hA hR ha hvb => ha.eInt fun zu => lst_e hR hvb hb fun p vs n e hr =>
  notin_list_ints (isList_of e) (ints_of hr) (any_eq_mem ▸ Post.val hR (.bool _) q)⟩
theorem any_str {ns : List (List Nat)} {c : List Nat} : ((ns.map S).any fun x => x == S c) = decide (c ∈ ns) := by
  induction ns with
  | nil => rfl
  | cons a r ih =>
    simp only [List.map_cons, List.any_cons, ih, List.mem_cons, S_inj]
    by_cases h : a = c
    · subst h; simp
    · have : ¬ c = a := fun q => h q.symm
      simp [h, this]
theorem CmpOK.inT {c : List Nat} {ns : List (List Nat)} {Q : V → St → Prop} (q : Q (.bool (decide (c ∈ ns))) σ) : CmpOK k C .In (.str c) (.tup (ns.map V.str)) Q σ := ⟨fun hA hR ha hvb => ha.eStr fun zu => tup_e hR hvb fun p vs n e hr =>
  in_tuple_strs (isTup_of e) (strs_of hr) ((any_str (ns := ns) (c := c)) ▸ Post.val hR (.bool _) q)⟩
theorem CmpOK.isNone {a : V} {Q : V → St → Prop} (h : a ≠ .none → Q (.bool false) σ) (h' : a = .none → Q (.bool true) σ) : CmpOK k C .Is a .none Q σ := ⟨fun hA hR ha hb => hb.eNone (is_none (by
  cases ha <;> first | exact Post.val hR (.bool _) (h' rfl) | exact Post.val hR (.bool _) (h (by simp))))⟩
theorem CmpOK.isNotNone {a : V} {Q : V → St → Prop} (h : a ≠ .none → Q (.bool true) σ) (h' : a = .none → Q (.bool false) σ) : CmpOK k C .IsNot a .none Q σ := ⟨fun hA hR ha hb => hb.eNone (isNot_none (by
  cases ha <;> first | exact Post.val hR (.bool _) (h' rfl) | exact Post.val hR (.bool _) (h (by simp))))⟩
theorem CmpOK.isNotStr {x : List Nat} {a : Addr} {Q : V → St → Prop} (q : Q (.bool true) σ) : CmpOK k C .IsNot (.str x) (.obj a) Q σ := ⟨fun hA hR ha hb => ha.eStr fun zu => hb.eObj fun zu => wpAny_bind (wpAny_pure (wpAny_pure (Post.val hR (.bool _) q)))⟩
theorem CmpOK.isStr {x : List Nat} {a : Addr} {Q : V → St → Prop} (q : Q (.bool false) σ) : CmpOK k C .Is (.str x) (.obj a) Q σ := ⟨fun hA hR ha hb => ha.eStr fun zu => hb.eObj fun zu => wpAny_bind (wpAny_pure (wpAny_pure (Post.val hR (.bool _) q)))⟩
theorem isSame_ref (a : Addr) : isSame (.ref a) (.ref a) = pure true := by
  unfold isSame
  simp
theorem CmpOK.isNotObj {a : Addr} {Q : V → St → Prop} (q : Q (.bool false) σ) : CmpOK k C .IsNot (.obj a) (.obj a) Q σ := ⟨fun hA hR ha hb => ha.eObj fun zu => hb.eObj fun zu => by
  show wpAny _ _ (do return Value.bool (!(← isSame (.ref a) (.ref a)))) _ _ _
  rw [isSame_ref]
  exact wpAny_bind (wpAny_pure (wpAny_pure (Post.val hR (.bool _) q)))⟩
theorem CmpOK.isObj {a : Addr} {Q : V → St → Prop} (q : Q (.bool true) σ) : CmpOK k C .Is (.obj a) (.obj a) Q σ := ⟨fun hA hR ha hb => ha.eObj fun zu => hb.eObj fun zu => by
  show wpAny _ _ (do return Value.bool (← isSame (.ref a) (.ref a))) _ _ _
  rw [isSame_ref]
  exact wpAny_bind (wpAny_pure (wpAny_pure (Post.val hR (.bool _) q)))⟩
theorem cmp_lists {z : FH} {A : Around} {s : Shared} {p p' : Addr} {vs ws : List Value} {n n' : Nat} {Q : Value → Shared → Prop} (hA : Room k A) (e : s.heap.get? p = some (lstO vs.toArray n)) (e' : s.heap.get? p' = some (lstO ws.toArray n')) (f : Nat → Bool)
    (he : vs.length = ws.length → ∀ j (h1 : j < vs.toArray.size) (h2 : j < ws.toArray.size), SeqAt.EqAt A.in1 s vs.toArray[j] ws.toArray[j] (f j))
    (q : Q (.bool (if vs.length = ws.length then (List.range vs.length).all f else false)) s) : wpAny (Mo C) A (compareOp .Eq (.ref p) (.ref p')) Q NoE s := by
  show wpAny (Mo C) A (richCompare .Eq (.ref p) (.ref p')) Q NoE s
  have hu : A.units < cLine := by have := hA.u; lia
  by_cases hl : vs.length = ws.length
  · rw [if_pos hl] at q
    refine richCompare_meets_room (T := "list") ⟨_, e, rfl⟩ ⟨_, e', rfl⟩ F.slot_list_eq F.entry_list_eq (F.args_list_eq_2 _ _) (SeqAt.list_eqAt p p' vs.toArray ws.toArray n n' none none #[] #[] (by simpa using hl) f) ⟨e, e', he hl, ?_⟩ hu
    rw [List.size_toArray]
    exact ⟨by simp, q⟩
  · rw [if_neg hl] at q
    refine richCompare_meets_room (T := "list") ⟨_, e, rfl⟩ ⟨_, e', rfl⟩ F.slot_list_eq F.entry_list_eq (F.args_list_eq_2 _ _) (SeqAt.list_eq_lengthsAt p p' vs.toArray ws.toArray n n' none none #[] #[] (by simpa using hl)) ⟨e, e', ?_⟩ hu
    exact ⟨by simp, q⟩
theorem cmp_listsN {z : FH} {A : Around} {s : Shared} {p p' : Addr} {vs ws : List Value} {n n' : Nat} {Q : Value → Shared → Prop} (hA : Room k A) (e : s.heap.get? p = some (lstO vs.toArray n)) (e' : s.heap.get? p' = some (lstO ws.toArray n')) (f : Nat → Bool)
    (he : vs.length = ws.length → ∀ j (h1 : j < vs.toArray.size) (h2 : j < ws.toArray.size), SeqAt.EqAt A.in1 s vs.toArray[j] ws.toArray[j] (f j))
    (q : Q (.bool (!(if vs.length = ws.length then (List.range vs.length).all f else false))) s) : wpAny (Mo C) A (compareOp .NotEq (.ref p) (.ref p')) Q NoE s := by
  show wpAny (Mo C) A (richCompare .NotEq (.ref p) (.ref p')) Q NoE s
  have hu : A.units < cLine := by have := hA.u; lia
  by_cases hl : vs.length = ws.length
  · rw [if_pos hl] at q
    refine richCompare_meets_room (T := "list") ⟨_, e, rfl⟩ ⟨_, e', rfl⟩ F.slot_list_ne F.entry_list_ne (F.args_list_ne_2 _ _) (SeqAt.list_neAt p p' vs.toArray ws.toArray n n' none none #[] #[] (by simpa using hl) f) ⟨e, e', he hl, ?_⟩ hu
    rw [List.size_toArray]
    exact ⟨by simp, q⟩
  · rw [if_neg hl] at q
    refine richCompare_meets_room (T := "list") ⟨_, e, rfl⟩ ⟨_, e', rfl⟩ F.slot_list_ne F.entry_list_ne (F.args_list_ne_2 _ _) (SeqAt.list_ne_lengthsAt p p' vs.toArray ws.toArray n n' none none #[] #[] (by simpa using hl)) ⟨e, e', ?_⟩ hu
    exact ⟨by simp, q⟩
theorem nil_same {xs : List V} {z : FH} {vs : List Value} (hr : Reps z xs vs) : (if vs.length = ([] : List Value).length then (List.range vs.length).all (fun zu => true) else false) = xs.isEmpty := by
  have := hr.length
  cases xs <;> cases vs <;> simp_all
theorem CmpOK.eqNil {a b : V} {xs : List V} {Q : V → St → Prop} (ha : lst? σ a = some xs) (hb : lst? σ b = some []) (q : Q (.bool xs.isEmpty) σ) : CmpOK k C .Eq a b Q σ := ⟨fun {A z s va vb} hA hR hva hvb => lst_e hR hva ha fun p vs n e hr => lst_e hR hvb hb fun p' ws n' e' hr' => by
  cases hr'
  exact cmp_lists (z := z) hA e e' (fun zu => true) (fun hl j h1 h2 => absurd h2 (Nat.not_lt_zero _)) (nil_same hr ▸ Post.val hR (.bool _) q)⟩
theorem CmpOK.neNil {a b : V} {xs : List V} {Q : V → St → Prop} (ha : lst? σ a = some xs) (hb : lst? σ b = some []) (q : Q (.bool (!xs.isEmpty)) σ) : CmpOK k C .NotEq a b Q σ := ⟨fun {A z s va vb} hA hR hva hvb => lst_e hR hva ha fun p vs n e hr => lst_e hR hvb hb fun p' ws n' e' hr' => by
  cases hr'
  exact cmp_listsN (z := z) hA e e' (fun zu => true) (fun hl j h1 h2 => absurd h2 (Nat.not_lt_zero _)) (nil_same hr ▸ Post.val hR (.bool _) q)⟩
theorem CmpOK.neStrs {a b : V} {xs : List (List Nat)} {Q : V → St → Prop} (ha : lst? σ a = some (xs.map V.str)) (hb : lst? σ b = some (xs.map V.str)) (q : Q (.bool false) σ) : CmpOK k C .NotEq a b Q σ := ⟨fun {A z s va vb} hA hR hva hvb => lst_e hR hva ha fun p vs n e hr => lst_e hR hvb hb fun p' ws n' e' hr' => by
  have l1 := hr.length
  have l2 := hr'.length
  refine cmp_listsN (z := z) hA e e' (fun zu => true) (fun hl j h1 h2 => ?_) ?_
  · have h1' : j < (xs.map V.str).length := by rw [l1]; simpa using h1
    obtain ⟨v, hv, hvr⟩ := hr.get (List.getElem?_eq_getElem h1')
    obtain ⟨v', hv', hvr'⟩ := hr'.get (List.getElem?_eq_getElem h1')
    have e1 : vs.toArray[j] = v := by simpa using (List.getElem?_eq_some_iff.mp hv).2
    have e2 : ws.toArray[j] = v' := by simpa using (List.getElem?_eq_some_iff.mp hv').2
    rw [e1, e2]
    simp only [List.getElem_map] at hvr hvr'
    refine hvr.eStr fun t1 => hvr'.eStr fun t2 => ?_
    have := SeqAt.EqAt.str_str (A := A.in1) (s := s) (S (xs[j]'(by simpa using h1'))) t1 (S (xs[j]'(by simpa using h1'))) t2
    simpa only [beq_self_eq_true] using this
  · rw [if_pos (l1.symm.trans l2)]
    rw [show (!(List.range vs.length).all fun zu => true) = false by simp]
    exact Post.val hR (.bool _) q⟩
theorem rangeSize_to (n : Nat) : Builtin.Range.rangeSize 0 n 1 = n := by
  unfold Builtin.Range.rangeSize
  simp only [show (1 : Int) > 0 by decide, if_true, Int.ediv_one]
  split <;> lia
theorem range_item {a c : Int} {n i : Nat} {x : V} (h : ((List.range n).map fun (i : Nat) => V.int (a + (i : Int) * c))[i]? = some x) : i < n ∧ x = .int (a + (i : Int) * c) := by
  rw [List.getElem?_map] at h
  rcases Nat.lt_or_ge i n with hi | hi
  · rw [List.getElem?_range hi] at h; cases h; exact ⟨hi, rfl⟩
  · rw [List.getElem?_eq_none (by simpa using hi)] at h; cases h

theorem BltOK.lenL {d : V} {l : List V} {Q : V → St → Prop} (hl : lst? σ d = some l) (h : l.length ≤ 16777216) (q : Q (.int l.length) σ) : BltOK k C (.builtin "len") [d] Q σ := ⟨fun {A z s vs} hA hR hv => hv.e1 fun v a => lst_e hR a hl fun p ws n e hr =>
  Calls.call_len_list (isList_of e) (by rw [List.size_toArray, ← hr.length]; lia) (by rw [List.size_toArray, ← hr.length]; exact Post.val hR (.int _ _) q)⟩
theorem BltOK.lenS {l : List Nat} {Q : V → St → Prop} (h : l.length ≤ 16777216) (q : Q (.int l.length) σ) : BltOK k C (.builtin "len") [.str l] Q σ := ⟨fun {A z s vs} hA hR hv => hv.e1 fun v a => a.eStr fun zu =>
  P.len_str (by rw [S_len]; lia) (by rw [S_len]; exact Post.val hR (.int _ _) q)⟩
theorem BltOK.ord {c : Nat} {Q : V → St → Prop} (q : Q (.int c) σ) : BltOK k C (.builtin "ord") [.str [c]] Q σ := ⟨fun hA hR hv => hv.e1 fun v a => a.eStr fun zu => P.ord_of_char (Post.val hR (.int _ _) q)⟩
theorem BltOK.chr {i : Int} {Q : V → St → Prop} (h : 0 ≤ i ∧ i ≤ 1114111) (q : Q (.str [i.toNat]) σ) : BltOK k C (.builtin "chr") [.int i] Q σ := ⟨fun hA hR hv => hv.e1 fun v a => a.eInt fun zu => chr_of_range h.1 h.2 (Post.val hR (.str [i.toNat] _) q)⟩
theorem items_of {vs : List Value} {ns : List Int} (h : IntsAre vs ns) : ∃ xs : Array (Int × Tok), vs.toArray = intItems xs ∧ xs.toList.map (·.1) = ns := by
  induction h with
  | nil => exact ⟨#[], by simp [intItems], rfl⟩
  | cons n t _ ih =>
    obtain ⟨xs, h1, h2⟩ := ih
    refine ⟨((n, t) :: xs.toList).toArray, ?_, by simp [h2]⟩
    have := congrArg Array.toList h1
    apply Array.toList_inj.mp
    simp [intItems] at this ⊢
    exact this
theorem BltOK.sum {d : V} {ns : List Int} {Q : V → St → Prop} (hl : lst? σ d = some (ns.map V.int)) (q : Q (.int ns.sum) σ) : BltOK k C (.builtin "sum") [d] Q σ := ⟨fun {A z s vs} hA hR hv => hv.e1 fun v a => lst_e hR a hl fun p ws n e hr => by
  obtain ⟨xs, h1, h2⟩ := items_of (ints_of hr)
  have hi := isList_of e
  rw [h1] at hi
  refine sum_intListG hA.h hi (fun h' tk t' hk => ?_)
  have : preSum (numAt xs) xs.size = ns.sum := by
    rw [preSum_eq, List.take_of_length_le (by simp)]
    rw [h2]
  rw [this]
  exact Post.grow hR hk (.int _ _) q⟩
theorem BltOK.max {d : V} {ns : List Int} {Q : V → St → Prop} (hl : lst? σ d = some (ns.map V.int)) (hne : ns ≠ []) (q : ∀ m, m ∈ ns → (∀ x ∈ ns, x ≤ m) → Q (.int m) σ) : BltOK k C (.builtin "max") [d] Q σ := ⟨fun {A z s vs} hA hR hv => hv.e1 fun v a => lst_e hR a hl fun p ws n e hr => by
  obtain ⟨xs, h1, h2⟩ := items_of (ints_of hr)
  have hi := isList_of e
  rw [h1] at hi
  have hsz : xs.size = ns.length := by rw [← h2]; simp
  have hpos : 0 < xs.size := by rw [hsz]; exact List.length_pos_iff.mpr hne
  have hnum : ∀ j, j < xs.size → ns[j]? = some (numAt xs j) := fun j hj => by
    rw [← h2]; simp [numAt, hj]
  refine max_intList hA.h hi hpos (fun v h' tk hv hk => ?_)
  obtain ⟨t, rfl⟩ := intItems_at hv
  have hb := argBest_gt (numAt xs) (xs.size - 1)
  refine Post.grow hR hk (.int _ _) (q _ ?_ ?_)
  · exact List.mem_of_getElem? (hnum _ (by lia))
  · intro x hx
    obtain ⟨j, hj, rfl⟩ := List.getElem_of_mem hx
    have := hnum j (by lia)
    rw [List.getElem?_eq_getElem hj] at this
    rw [Option.some.inj this]
    exact hb.2 j (by lia)⟩
theorem BltOK.min {d : V} {ns : List Int} {Q : V → St → Prop} (hl : lst? σ d = some (ns.map V.int)) (hne : ns ≠ []) (q : ∀ m, m ∈ ns → (∀ x ∈ ns, m ≤ x) → Q (.int m) σ) : BltOK k C (.builtin "min") [d] Q σ := ⟨fun {A z s vs} hA hR hv => hv.e1 fun v a => lst_e hR a hl fun p ws n e hr => by
  obtain ⟨xs, h1, h2⟩ := items_of (ints_of hr)
  have hi := isList_of e
  rw [h1] at hi
  have hsz : xs.size = ns.length := by rw [← h2]; simp
  have hpos : 0 < xs.size := by rw [hsz]; exact List.length_pos_iff.mpr hne
  have hnum : ∀ j, j < xs.size → ns[j]? = some (numAt xs j) := fun j hj => by
    rw [← h2]; simp [numAt, hj]
  refine min_intList hA.h hi hpos (fun v h' tk hv hk => ?_)
  obtain ⟨t, rfl⟩ := intItems_at hv
  have hb := argBest_lt (numAt xs) (xs.size - 1)
  refine Post.grow hR hk (.int _ _) (q _ ?_ ?_)
  · exact List.mem_of_getElem? (hnum _ (by lia))
  · intro x hx
    obtain ⟨j, hj, rfl⟩ := List.getElem_of_mem hx
    have := hnum j (by lia)
    rw [List.getElem?_eq_getElem hj] at this
    rw [Option.some.inj this]
    exact hb.2 j (by lia)⟩
theorem Post.rngN {Q : V → St → Prop} {z : FH} {s s' : Shared} {a b c : Int} {t u v : Tok} (r : Rel C z σ s) (q : Q (.rng a b c) σ)
    (h : s'.heap = s.heap.push { cls := .type "range", data := .fields #[.int a t, .int b u, .int c v] } := by rfl) (g : s'.gens = s.gens := by rfl) (o : s'.os = s.os := by rfl) : Post C Rep Q z (.ref s.heap.objs.size) s' :=
  have x := r.alloc (o := { cls := .type "range", data := .fields #[.int a t, .int b u, .int c v] }) rfl h g o
  ⟨.rng a b c, σ, _, x.1, x.2, .rng (FH.add_self ..), q⟩
theorem BltOK.range1 {n : Int} {Q : V → St → Prop} (q : Q (.rng 0 n 1) σ) : BltOK k C (.type "range") [.int n] Q σ := ⟨fun hA hR hv => hv.e1 fun v a => a.eInt fun zu => call_range_1 (Post.rngN hR q)⟩
theorem BltOK.range2 {a b : Int} {Q : V → St → Prop} (q : Q (.rng a b 1) σ) : BltOK k C (.type "range") [.int a, .int b] Q σ := ⟨fun hA hR hv => hv.e2 fun v w h1 h2 => h1.eInt fun zu => h2.eInt fun zu => call_range_2 (Post.rngN hR q)⟩
theorem BltOK.range3 {a b : Int} {Q : V → St → Prop} (q : Q (.rng a b (-1)) σ) : BltOK k C (.type "range") [.int a, .int b, .int (-1)] Q σ := ⟨fun hA hR hv => hv.e3 fun v w x h1 h2 h3 => h1.eInt fun zu => h2.eInt fun zu => h3.eInt fun zu =>
  call_range_3 (by decide) (Post.rngN hR q) (.inl (by unfold Builtin.divisionGoesByPylong; exact Bool.and_eq_false_iff.mpr (.inl (by decide))))⟩
end Mine
namespace Mine
variable {k : Nat} {C : FC} {σ : Mine.St} {pos : Pos} {vars : List V} {mem : List (Addr × List V)} {raw : List (Addr × Obj)}
theorem meth_append : Meth "list" "append" "list.append" := ⟨F.plainAttrs_list, slot_list_append, by show builtinType _ = _; rw [builtinType_eq_fast]; kernel_rfl⟩
theorem meth_extend : Meth "list" "extend" "list.extend" := ⟨F.plainAttrs_list, F.slot_list_extend, F.type_list_extend⟩
theorem meth_find : Meth "str" "find" "str.find" := ⟨F.plainAttrs_str, F.slot_str_find, F.type_str_find⟩
theorem meth_replace : Meth "str" "replace" "str.replace" := ⟨F.plainAttrs_str, F.slot_str_replace, F.type_str_replace⟩
theorem meth_rstrip : Meth "str" "rstrip" "str.rstrip" := ⟨F.plainAttrs_str, F.slot_str_rstrip, F.type_str_rstrip⟩
theorem meth_endswith : Meth "str" "endswith" "str.endswith" := ⟨F.plainAttrs_str, F.slot_str_endswith, F.type_str_endswith⟩
theorem meth_splitlines : Meth "str" "splitlines" "str.splitlines" := ⟨F.plainAttrs_str, F.slot_str_splitlines, F.type_str_splitlines⟩
theorem meth_join : Meth "str" "join" "str.join" := ⟨F.plainAttrs_str, F.slot_str_join, F.type_str_join⟩
theorem meth_translate : Meth "str" "translate" "str.translate" := ⟨F.plainAttrs_str, F.slot_str_translate, F.type_str_translate⟩

theorem BltOK.append {a : Addr} {xs : List V} {d : V} {Q : V → Mine.St → Prop} (hx : memGet mem a = some xs) (hl : xs.length ≤ 16777215) (q : Q .none ⟨vars, memSet mem a (xs ++ [d]), raw⟩) : BltOK k C (.builtin "list.append") [.mut a, d] Q ⟨vars, mem, raw⟩ := ⟨fun {A z s vs} hA hR hv => hv.e2 fun v w h1 h2 => h1.eMut (by
  obtain ⟨q1, q2, q3, vs, n, q4, q5⟩ := hR.mem _ _ (memGet_mem hx)
  refine wpAny_list_append_plain ⟨n, q4⟩ (fun h' hp hs => ?_) (by rw [sizeLine_eq, List.size_toArray, ← q5.length]; lia)
  obtain ⟨n', e⟩ := hp
  exact ⟨.none, _, z, .refl z, hR.upd (n := n') hx (q5.append (.cons h2 .nil)) (by rw [e, List.push_toArray]) hs rfl rfl, .none, q⟩)⟩
theorem BltOK.extend {a : Addr} {xs ys : List V} {Q : V → Mine.St → Prop} (hx : memGet mem a = some xs) (hl : xs.length + ys.length ≤ 16777215) (q : Q .none ⟨vars, memSet mem a (xs ++ ys), raw⟩) : BltOK k C (.builtin "list.extend") [.mut a, .list ys] Q ⟨vars, mem, raw⟩ := ⟨fun {A z s vs} hA hR hv => hv.e2 fun v w h1 h2 => h1.eMut (h2.eList fun b ws m e2 r2 => by
  obtain ⟨q1, q2, q3, vs, n, q4, q5⟩ := hR.mem _ _ (memGet_mem hx)
  have hsz : vs.toArray.size + ws.toArray.size ≤ sizeLine := by rw [sizeLine_eq, List.size_toArray, List.size_toArray, ← q5.length, ← r2.length]; lia
  refine call_meets PySem.F.slot_list_extend ⟨_, q4, rfl⟩ PySem.F.entry_list_extend (PySem.F.args_list_extend_2 _ _) (AutoSeq1.list_extend_list_list_0 a vs.toArray n b ws.toArray m (extend_door hsz) (Nat.le_trans (Nat.le_add_right _ _) hsz)) ⟨q4, hR.frz _ _ e2, ?_⟩
  refine ⟨.none, _, z, .refl z, hR.upd (n := if (vs.toArray ++ ws.toArray).size == vs.toArray.size then n else n + 1) hx (q5.append r2) ?_ (Heap.SameBut.update ..) rfl rfl, .none, q⟩
  show (s.heap.update a (Obj.mapSeq fun x => x ++ ws.toArray)).get? a = _
  rw [Heap.get?_update_self _ q4 (by rw [mapSeq_app]; rfl), mapSeq_app, List.append_toArray])⟩
theorem FH.with_none {z : FH} {mem : List (Addr × List V)} {h : Heap} {a : Addr} (h1 : z a = none) (h2 : a ∉ mem.map (·.1)) : z.with mem h a = none := by
  unfold FH.with; rw [h1]; simp [h2]
set_option tactic.hygienic true in
theorem FH.with_cases {z : FH} {mem : List (Addr × List V)} {h : Heap} {a : Addr} {o : Obj} (e : z.with mem h a = some o) : z a = some o ∨ (a ∈ mem.map (·.1) ∧ h.get? a = some o) := by
  unfold FH.with at e
  split at e
  · rename_i o' e'; cases e; exact .inl e'
  · split at e
    · rename_i hm; exact .inr ⟨hm, e⟩
    · cases e
theorem Frzs.get {mem : List (Addr × List V)} : ∀ {xs ds : List V}, Frzs mem xs ds → ∀ {i : Nat} {d' : V}, ds[i]? = some d' → ∃ d, xs[i]? = some d ∧ Frz mem d d'
  | _, _, .nil, i, d', e => by simp at e
  | _, _, .cons a b, 0, d', e => by simp only [List.getElem?_cons_zero, Option.some.injEq] at e; subst e; exact ⟨_, rfl, a⟩
  | _, _, .cons a b, i + 1, d', e => by simpa using b.get (by simpa using e)
theorem Rel.freeze {z : FH} {vars vars' : List V} {mem : List (Addr × List V)} {raw : List (Addr × Obj)} {s : Shared} (hR : Rel C z ⟨vars, mem, raw⟩ s) (hv : Frzs mem vars vars') :
    FH.le z (z.with mem s.heap) ∧ Rel C (z.with mem s.heap) ⟨vars', [], raw⟩ s := by
  have hL : C.env.locals ∉ mem.map (·.1) := fun hm => by
    obtain ⟨⟨a, ys⟩, hm, e⟩ := List.mem_map.mp hm
    obtain ⟨_, _, _, vs, n, h4, _⟩ := hR.mem a ys hm
    obtain ⟨m, ⟨o, es, ep, h1, h2, _⟩, _⟩ := hR.ns
    simp only at e; rw [← e, h4] at h1; cases h1; cases h2
  have key := fun {i : Nat} {d' : V} => Frzs.get (mem := mem) (i := i) (d' := d') hv
  refine ⟨FH.le_with _ _ _, ?_⟩
  exact {
    ok := hR.ok
    ns := by
      obtain ⟨m, h1, h2⟩ := hR.ns
      refine ⟨m, h1, fun i x d e1 e2 e3 e4 => ?_⟩
      obtain ⟨d0, q1, q2⟩ := key e2
      obtain ⟨v, q3, q4⟩ := h2 i x d0 e1 q1 (fun q => by subst q; cases q2; exact e3 rfl) e4
      exact ⟨v, q3, Frz.rep hR q2 q4⟩
    cel := fun i x d e1 e2 e3 => by
      obtain ⟨d0, q1, q2⟩ := key e2
      obtain ⟨c, ov, h1, h2, h3⟩ := hR.cel i x d0 e1 q1 e3
      refine ⟨c, ov, h1, h2, fun hd => ?_⟩
      obtain ⟨v, q3, q4⟩ := h3 (fun q => by subst q; cases q2; exact hd rfl)
      exact ⟨v, q3, Frz.rep hR q2 q4⟩
    frz := fun a o e => by
      rcases FH.with_cases e with h | ⟨_, h⟩
      · exact hR.frz _ _ h
      · exact h
    zK := fun a o e => FH.le_with _ _ _ _ _ (hR.zK a o e)
    zP := FH.with_none hR.zP fun hm => by
      obtain ⟨⟨a, ys⟩, hm, e⟩ := List.mem_map.mp hm
      exact (hR.mem a ys hm).2.2.1 e
    zL := FH.with_none hR.zL hL
    zC := fun ho x c hc => by
      refine FH.with_none (hR.zC ho x c hc) fun hm => ?_
      obtain ⟨⟨a, ys⟩, hm, e⟩ := List.mem_map.mp hm
      obtain ⟨_, _, _, vs, n, h4, _⟩ := hR.mem a ys hm
      obtain ⟨o, h, ov, hd⟩ := hR.hC x c hc
      simp only at e; rw [← e, h4] at h; cases h; cases hd
    hC := hR.hC
    zin := fun a o e => by
      rcases FH.with_cases e with h | ⟨h, _⟩
      · exact hR.zin _ _ h
      · obtain ⟨⟨b, ys⟩, hm, e⟩ := List.mem_map.mp h
        obtain ⟨_, h2, h3, _⟩ := hR.mem b ys hm
        simp only at e; subst e
        exact .inr ⟨h2, h3⟩
    keep := hR.keep
    mem := nofun
    memnd := List.nodup_nil
    raw := fun a o hm => by
      obtain ⟨h1, h2, h3, h4, h5, h6, h7⟩ := hR.raw a o hm
      exact ⟨h1, FH.with_none h2 h7, h3, h4, h5, h6, by simp⟩
    tab := hR.tab
    bare := hR.bare
    os := hR.os }
theorem WT.freeze {α β : Type} {t : Sem α} {R : FH → β → α → Prop} {Q : β → Mine.St → Prop} {vars vars' : List V} {mem : List (Addr × List V)} {raw : List (Addr × Obj)} (hv : Frzs mem vars vars')
    (h : WT k C t R Q ⟨vars', [], raw⟩) : WT k C t R Q ⟨vars, mem, raw⟩ := fun A z s hA hR =>
  let ⟨h1, h2⟩ := hR.freeze hv
  wpAny_mono (h A _ s hA h2) (fun zu zu p => p.le h1) fun zu zu x => x
noncomputable def isStr (l : List Nat) : Value → Bool
  | .str y _ => decide (y = S l)
  | _ => false
set_option tactic.hygienic true in
theorem isStr.out {l : List Nat} {v : Value} (h : isStr l v = true) : ∃ t, v = .str (S l) t := by
  cases v
  case str y t => exact ⟨t, of_decide_eq_true h ▸ rfl⟩
  all_goals exact Bool.noConfusion h
noncomputable def strsB : List (List Nat) → List Value → Bool
  | [], [] => true
  | [], _ :: _ => false
  | _ :: _, [] => false
  | x :: r, v :: r' => isStr x v && strsB r r'
theorem strsB.reps {z : FH} : ∀ {ls : List (List Nat)} {vs : List Value}, strsB ls vs = true → Reps z (ls.map V.str) vs
  | [], [], _ => .nil
  | [], _ :: _, h => Bool.noConfusion h
  | _ :: _, [], h => Bool.noConfusion h
  | x :: r, v :: r', h => let ⟨h1, h2⟩ := Bool.and_eq_true_iff.mp h; let ⟨t, e⟩ := isStr.out h1; .cons (e ▸ .str x t) (strsB.reps h2)
noncomputable def sq (o : Option Obj) : Array Value × Nat := match o with
  | some ⟨_, _, .seq vs n, _⟩ => (vs, n)
  | _ => (#[], 0)
noncomputable def strLst (K : Frag) (a : Addr) (ls : List (List Nat)) : Prop := K.lookup a = some ⟨.type "list", none, .seq (sq (K.lookup a)).1 (sq (K.lookup a)).2, ⟨[]⟩⟩ ∧ strsB ls (sq (K.lookup a)).1.toList = true
theorem strLst.rep {K : Frag} {a : Addr} {ls : List (List Nat)} (h : strLst K a ls) {z : FH} (hz : ∀ a o, K.lookup a = some o → z a = some o) : Rep z (.list (ls.map V.str)) (.ref a) :=
  .list (vs := (sq (K.lookup a)).1.toList) (n := (sq (K.lookup a)).2) (by rw [Array.toArray_toList]; exact hz _ _ h.1) (strsB.reps h.2)

set_option tactic.hygienic true in
theorem memGet_set {l : List (Addr × List V)} {a : Addr} {xs ys : List V} (h : memGet l a = some xs) : memGet (memSet l a ys) a = some ys := by
  induction l with
  | nil => cases h
  | cons p r ih =>
    obtain ⟨b, zs⟩ := p
    unfold memGet at h
    unfold memSet
    split
    · rename_i e; unfold memGet; rw [if_pos e]
    · rename_i e; rw [if_neg e] at h; unfold memGet; rw [if_neg e]; exact ih h
set_option tactic.hygienic true in
theorem memGet_set_ne {l : List (Addr × List V)} {a b : Addr} {ys : List V} (hab : b ≠ a) : memGet (memSet l a ys) b = memGet l b := by
  induction l with
  | nil => rfl
  | cons p r ih =>
    obtain ⟨c, zs⟩ := p
    unfold memSet
    split
    · rename_i e; unfold memGet; rw [if_neg (fun q => hab (q.symm.trans e)), if_neg (fun q => hab (q.symm.trans e))]
    · rename_i e; unfold memGet; rw [ih]
theorem memGet_cons_ne {l : List (Addr × List V)} {a b : Addr} {ys : List V} (hab : b ≠ a) : memGet ((a, ys) :: l) b = memGet l b := by
  show (if a = b then some ys else memGet l b) = _
  rw [if_neg (Ne.symm hab)]
theorem memGet_key {l : List (Addr × List V)} {a : Addr} {xs : List V} (h : memGet l a = some xs) : a ∈ l.map (·.1) := List.mem_map_of_mem (f := (·.1)) (memGet_mem h)

theorem slc_map {α β : Type} (f : α → β) (l : List α) (lo hi : Option Int) : slc (l.map f) lo hi = (slc l lo hi).map f := by
  unfold slc; simp [List.map_take, List.map_drop]

theorem lstM {a : Addr} {l : List V} (h : memGet σ.mem a = some l) : lst? σ (.mut a) = some l := h
theorem itm_last {α : Type} (l : List α) (d : α) : itm (l ++ [d]) (-1) = some d := by
  unfold itm
  rw [if_pos (by decide), show ((-1 : Int) + ((l ++ [d]).length : Nat)).toNat = l.length by simp; lia]
  simp
theorem clip_nat (n k : Nat) : clipAt n (k : Int) = min k n := clipAt_nat n k
theorem slc_NN {α : Type} (l : List α) (a b : Nat) : slc l (some (a : Int)) (some (b : Int)) = (l.drop a).take (b - a) := by
  show (l.drop (clipAt l.length a)).take (clipAt l.length b - clipAt l.length a) = _
  rw [clip_nat, clip_nat]
  rcases Nat.le_total a l.length with h | h
  · rw [Nat.min_eq_left h, List.take_eq_take_iff, List.length_drop]
    rcases Nat.le_total b l.length with g | g
    · rw [Nat.min_eq_left g]
    · rw [Nat.min_eq_right g, Nat.min_self, Nat.min_eq_right (Nat.sub_le_sub_right g a)]
  · rw [Nat.min_eq_right h, List.drop_of_length_le h, List.drop_length, List.take_nil, List.take_nil]
theorem slc_N0 {α : Type} (l : List α) (a : Nat) : slc l (some (a : Int)) none = l.drop a := by
  show (l.drop (clipAt l.length a)).take (l.length - clipAt l.length a) = _
  rw [clip_nat, ← List.length_drop, List.take_length]
  rcases Nat.le_total a l.length with h | h
  · rw [Nat.min_eq_left h]
  · rw [Nat.min_eq_right h, List.drop_of_length_le h, List.drop_length]
theorem slc_0N {α : Type} (l : List α) (b : Nat) : slc l none (some (b : Int)) = l.take b := by
  show l.take (clipAt l.length b) = _
  rw [clip_nat, List.take_eq_take_iff, Nat.min_assoc, Nat.min_self]
theorem clip_neg {n : Nat} (h : 1 ≤ n) : clipAt n (-1) = n - 1 := clipAt_neg n 1 (Nat.le_refl 1)
theorem slc_init {α : Type} (l : List α) (a : α) : slc (l ++ [a]) none (some (-1)) = l := by
  show (l ++ [a]).take (clipAt (l ++ [a]).length (-1)) = l
  rw [List.length_append, show l.length + [a].length = l.length + 1 from rfl, clip_neg (Nat.le_add_left 1 _)]
  exact List.take_left
theorem slc_mid {α : Type} (a z : α) (m : List α) : slc (a :: (m ++ [z])) (some 1) (some (-1)) = m := by
  show ((a :: (m ++ [z])).drop (clipAt (m ++ [z]).length.succ ((1 : Nat) : Int))).take (clipAt (m ++ [z]).length.succ (-1) - clipAt (m ++ [z]).length.succ ((1 : Nat) : Int)) = m
  rw [clip_nat, clip_neg (Nat.succ_pos _), Nat.min_eq_left (Nat.succ_pos _), List.length_append]
  exact List.take_left

theorem memGet_one {a : Addr} {xs : List V} {r : List (Addr × List V)} : memGet ((a, xs) :: r) a = some xs := by show (if a = a then _ else _) = _; rw [if_pos rfl]
theorem memSet_one {a : Addr} {xs ys : List V} {r : List (Addr × List V)} : memSet ((a, xs) :: r) a ys = (a, ys) :: r := by show (if a = a then _ else _) = _; rw [if_pos rfl]
theorem lst_one {vars : List V} {a : Addr} {xs : List V} {r : List (Addr × List V)} {raw : List (Addr × Obj)} : lst? ⟨vars, (a, xs) :: r, raw⟩ (.mut a) = some xs := memGet_one
@[reducible] noncomputable def tsFrz (t : TS) : TS := fun k C Q σ => ∃ vars', Frzs σ.mem σ.vars vars' ∧ t k C Q ⟨vars', [], σ.raw⟩
theorem SemS.frz {F : FS} {st : Stmt} {t : TS} (h : SemS F st t) : SemS F st (tsFrz t) := ⟨fun {k C} W {Q σ} q =>
  let ⟨vars', q1, q2⟩ := q
  WT.freeze (vars := σ.vars) (mem := σ.mem) (raw := σ.raw) q1 (h.h W q2)⟩
theorem SemS.ifZ {F : FS} {pos : Pos} {t : Expr} {b o : List Stmt} {tt : TB} {tb to : TS} (hj : F.Z.contains pos.line = true) (ht : SemB F t tt) (hb : SemSs F b tb) (ho : SemSs F o to) : SemS F (.If t b o pos) (tsFrz (tsJoin (tsIf tt tb to))) := SemS.frz (SemS.join (SemS.ite ht hb ho))
theorem back_pick {α : Type} (l : List α) (m : Nat) (hm : m ≤ l.length) : ∀ c, c ≤ m → (List.range c).filterMap (fun (j : Nat) => l[m - 1 - j]?) = ((l.drop (m - c)).take c).reverse
  | 0, _ => by simp
  | c + 1, hc => by
    rw [List.range_succ, List.filterMap_append, back_pick l m hm c (by lia)]
    have e : l.drop (m - (c + 1)) = l[m - (c + 1)] :: l.drop (m - c) := by
      rw [List.drop_eq_getElem_cons (by lia)]; congr 2; lia
    rw [e, List.take_succ_cons, List.reverse_cons]
    congr 1
    have : l[m - 1 - c]? = some l[m - (c + 1)] := by
      rw [show m - 1 - c = m - (c + 1) by lia]; exact List.getElem?_eq_getElem _
    simp [this]
theorem filterMap_cong {α β : Type} {f g : α → Option β} : ∀ {l : List α}, (∀ a ∈ l, f a = g a) → l.filterMap f = l.filterMap g
  | [], _ => rfl
  | a :: r, h => by rw [List.filterMap_cons, List.filterMap_cons, h a (.head _), filterMap_cong fun b hb => h b (.tail _ hb)]
theorem back_slice (l : List Value) (lo hi : Option Int) (m c : Nat) (hm : m ≤ l.length) (hc : c ≤ m) (hB : sliceBounds lo hi (some (-1)) l.length = ((m : Int) - 1, ((m - c : Nat) : Int) - 1, -1)) :
    slicePick l.toArray lo hi (some (-1)) = (((l.drop (m - c)).take c).reverse).toArray := by
  unfold slicePick
  rw [List.size_toArray, hB]
  have hcount : (if (-1 : Int) > 0 then (if (m : Int) - 1 < ((m - c : Nat) : Int) - 1 then (((m - c : Nat) : Int) - 1 - ((m : Int) - 1) + -1 - 1) / -1 else 0) else (if (m : Int) - 1 > ((m - c : Nat) : Int) - 1 then ((m : Int) - 1 - (((m - c : Nat) : Int) - 1) - -1 - 1) / (- -1) else 0)) = (c : Int) := by
    rw [if_neg (by decide)]
    split
    · simp; lia
    · lia
  unfold sliceRange
  dsimp only
  rw [hcount, Int.toNat_natCast, List.filterMap_map]
  congr 1
  rw [← back_pick l m hm c hc]
  refine filterMap_cong fun j hj => ?_
  have hj' : j < c := by simpa using hj
  simp only [Function.comp]
  rw [show ((m : Int) - 1 + -1 * (j : Int)).toNat = m - 1 - j by lia]
  simp
theorem SlcOK.back {l : List V} {lo hi : Option Int} {Q : V → Mine.St → Prop} (m c : Nat) (hm : m ≤ l.length) (hc : c ≤ m) (hB : sliceBounds lo hi (some (-1)) l.length = ((m : Int) - 1, ((m - c : Nat) : Int) - 1, -1)) (hs : l.length ≤ 16777216)
    (q : Q (.list (((l.drop (m - c)).take c).reverse)) σ) : SlcOK k C (.list l) lo hi (some (-1)) Q σ := ⟨trivial, fun {A z s va b vl vu vt} hA hR hva hl hu ht hb => lst_e (l := l) hR hva rfl fun p vs n e hr => by
  refine wpAny_getItem_list_slice (isList_of e) ⟨_, hb, rfl, rfl⟩ hl.isPart hu.isPart ht.isPart (by simp) ?_ (by rw [List.size_toArray, ← hr.length, sizeLine_eq]; exact hs)
  have hlen := hr.length
  rw [back_slice vs lo hi m c (by lia) hc (by rw [← hlen]; exact hB)]
  exact Post.lstN (n := 0) (.refl _) hR ((hr.drop _).take _).reverse q⟩
theorem SlcOK.rev {l : List V} {Q : V → Mine.St → Prop} (hs : l.length ≤ 16777216) (q : Q (.list l.reverse) σ) : SlcOK k C (.list l) none none (some (-1)) Q σ := by
  refine SlcOK.back l.length l.length (Nat.le_refl _) (Nat.le_refl _) ?_ hs ?_
  · unfold sliceBounds; simp
  · simpa using q
theorem SlcOK.revMid {l m : List V} {a d : V} {Q : V → Mine.St → Prop} (hl : l = a :: (m ++ [d])) (hs : l.length ≤ 16777216) (q : Q (.list m.reverse) σ) : SlcOK k C (.list l) (some (-2)) (some 0) (some (-1)) Q σ := by
  subst hl
  refine SlcOK.back (m.length + 1) m.length (by simp) (by lia) ?_ hs ?_
  · unfold sliceBounds; simp; lia
  · simpa using q

theorem rangeSize_toI (b : Int) : Builtin.Range.rangeSize 0 b 1 = (b.toNat : Int) := by
  unfold Builtin.Range.rangeSize
  simp
  split <;> lia
theorem rangeSize_I (a b : Int) : Builtin.Range.rangeSize a b 1 = ((b - a).toNat : Int) := by
  unfold Builtin.Range.rangeSize
  simp
  split <;> lia
noncomputable def seg {α : Type} (l : List α) (a b : Nat) : List α := (l.drop a).take (b - a)
theorem slc_seg {α : Type} (l : List α) (a b : Nat) (hb : b ≤ l.length) (hab : a ≤ b) : slc l (some (a : Int)) (some (b : Int)) = seg l a b := slc_NN l a b
theorem BltOK.lenM {α : Type} {f : α → V} {d : V} {l : List α} {Q : V → Mine.St → Prop} (hl : lst? σ d = some (l.map f)) (h : l.length ≤ 16777216) (q : Q (.int l.length) σ) : BltOK k C (.builtin "len") [d] Q σ :=
  BltOK.lenL hl (by rw [List.length_map]; exact h) (by rw [List.length_map]; exact q)
theorem SlcOK.lstE {a : V} {l r : List V} {lo hi : Option Int} {Q : V → Mine.St → Prop} (ha : lst? σ a = some l) (hs : l.length ≤ 16777216) (e : slc l lo hi = r) (q : Q (.list r) σ) : SlcOK k C a lo hi none Q σ := SlcOK.lst ha hs (e ▸ q)
theorem SlcOK.strE {l r : List Nat} {lo hi : Option Int} {Q : V → Mine.St → Prop} (hs : l.length ≤ 16777216) (e : slc l lo hi = r) (q : Q (.str r) σ) : SlcOK k C (.str l) lo hi none Q σ := SlcOK.str hs (e ▸ q)
theorem IdxOK.hd {a d : V} {l : List V} {Q : V → Mine.St → Prop} (ha : lst? σ a = some (d :: l)) (hs : l.length ≤ 1000000) (q : Q d σ) : IdxOK k C a (.int 0) Q σ :=
  IdxOK.lst ha ⟨by simp only [List.length_cons]; lia, by simp only [List.length_cons]; lia⟩ (by simp only [List.length_cons]; lia) rfl q
theorem IdxOK.end {a d : V} {l : List V} {Q : V → Mine.St → Prop} (ha : lst? σ a = some (l ++ [d])) (hs : l.length ≤ 1000000) (q : Q d σ) : IdxOK k C a (.int (-1)) Q σ :=
  IdxOK.lst ha ⟨by simp only [List.length_append, List.length_singleton]; lia, by simp only [List.length_append, List.length_singleton]; lia⟩ (by simp only [List.length_append, List.length_singleton]; lia) (itm_last l d) q
end Mine
namespace Mine
variable {k : Nat} {C : FC} {σ : Mine.St} {pos : Pos}
theorem S_getD (x : List Nat) (v : Nat) : (S x).cps.getD v 0 = x.getD v 0 := by
  simp [S, Array.getD_eq_getD_getElem?, List.getD_eq_getElem?_getD]
theorem BltOK.find {x : List Nat} {c a : Nat} {Q : V → Mine.St → Prop} (hm : c ∈ x.drop a) (q : Q (.int ((a + (x.drop a).idxOf c : Nat) : Int)) σ) : BltOK k C (.builtin "str.find") [.str x, .str [c], .int (a : Int)] Q σ := ⟨fun {A z s vs} hA hR hv => hv.e3 fun v w u h1 h2 h3 => h1.eStr fun zu => h2.eStr fun zu => h3.eInt fun zu => by
  have hfi : fromIndex (S x).length (a : Int) = a := by unfold fromIndex; rw [if_neg (by lia)]; lia
  have hlen : (S x).length = x.length := S_len x
  have hlt : (x.drop a).idxOf c < (x.drop a).length := List.idxOf_lt_length_of_mem hm
  have hat : x.getD (a + (x.drop a).idxOf c) 0 = c := by
    have h := List.getElem_idxOf hlt
    rw [List.getElem_drop] at h
    rw [List.getD_eq_getElem?_getD, List.getElem?_eq_getElem (by rw [List.length_drop] at hlt; lia)]
    exact h
  have key : Txt.find3 (S x) ⟨#[c]⟩ (a : Int) = ((a + (x.drop a).idxOf c : Nat) : Int) := by
    rcases StrLaws.find3_spec (S x) c (a : Int) with ⟨_, h⟩ | ⟨v, h1, h2, h3, h4, h5⟩
    · exfalso
      refine h (a + (x.drop a).idxOf c) (by rw [hfi]; lia) (by rw [hlen]; rw [List.length_drop] at hlt; lia) ?_
      rw [S_getD]; exact hat
    · rw [h1]
      rw [hfi] at h2 h5
      rw [S_getD] at h4
      congr 1
      rcases Nat.lt_trichotomy v (a + (x.drop a).idxOf c) with q | q | q
      · exfalso
        rw [hlen] at h3
        have hlt2 : v - a < (x.drop a).idxOf c := by lia
        have := List.not_of_lt_findIdx hlt2
        rw [List.getElem_drop] at this
        rw [List.getD_eq_getElem?_getD, List.getElem?_eq_getElem h3] at h4
        have e : x[v] = c := h4
        simp only [show a + (v - a) = v by lia] at this
        rw [e] at this
        simp at this
      · exact q
      · exfalso
        refine h5 _ (by lia) q ?_
        rw [S_getD]; exact hat
  refine SC.find3 ?_
  rw [show (S [c]) = (⟨#[c]⟩ : Str) from rfl, key]
  exact Post.val (hR.same rfl rfl rfl) (.int _ _) q⟩

noncomputable def joinN (sep : List Nat) : List (List Nat) → List Nat
  | [] => []
  | x :: r => x ++ r.flatMap fun p => sep ++ p
theorem glued_fold (sep : List Nat) : ∀ (r : List (List Nat)) (x : List Nat), (r.map S).foldl (fun acc p => acc ++ (S sep).cps ++ p.cps) x.toArray = (x ++ r.flatMap fun p => sep ++ p).toArray
  | [], x => by simp
  | p :: r, x => by
    simp only [List.map_cons, List.foldl_cons]
    have e : x.toArray ++ (S sep).cps ++ (S p).cps = (x ++ sep ++ p).toArray := by simp [S]
    rw [e, glued_fold sep r]
    simp
theorem join_S (sep : List Nat) (l : List (List Nat)) : Txt.join (S sep) (l.map S) = S (joinN sep l) := by
  unfold Txt.join Builtin.Str.glued
  cases l with
  | nil => rfl
  | cons x r =>
    simp only [List.map_cons, List.drop_one, List.tail_cons, List.headD_cons]
    exact congrArg Str.mk (glued_fold sep r x)
theorem sum_S (l : List (List Nat)) : ((l.map S).map (·.length)).sum = (l.map (·.length)).sum := by
  rw [List.map_map]; congr 1
theorem BltOK.join {sep : List Nat} {d : V} {l : List (List Nat)} {Q : V → Mine.St → Prop} (hd : lst? σ d = some (l.map V.str)) (hs : (l.map (·.length)).sum + l.length * sep.length ≤ 16777216) (q : Q (.str (joinN sep l)) σ) : BltOK k C (.builtin "str.join") [.str sep, d] Q σ := ⟨fun {A z s vs} hA hR hv => hv.e2 fun v w h1 h2 => h1.eStr fun zu => lst_e hR h2 hd fun p vs n e hr => by
  refine join_list (ys := l.map S) (isList_of e) (strs_of hr) (by rw [sum_S, List.length_map, S_len]; exact hs) fun t' k' => ?_
  rw [join_S]
  exact Post.val (hR.same rfl rfl rfl) (.str _ _) q⟩

theorem rstrip_same {x : List Nat} (h : ∀ c, x.getLast? = some c → Unicode.isSpace c = false) : Txt.rstrip (S x) = S x := by
  have hs : PySem.stripSame Unicode.isSpace false true (S x) = true := by
    unfold PySem.stripSame PySem.stripLo PySem.stripHi
    simp only [Bool.false_eq_true, if_false, if_true, beq_self_eq_true, Bool.true_and, List.drop_zero, beq_iff_eq]
    have : (x.reverse.takeWhile Unicode.isSpace).length = 0 := by
      cases hx : x.reverse with
      | nil => rfl
      | cons c r =>
        have hl : x.getLast? = some c := by rw [← List.head?_reverse, hx]; rfl
        rw [List.takeWhile_cons, h c hl]; rfl
    show (S x).length - (x.reverse.takeWhile Unicode.isSpace).length = (S x).length
    rw [this]; rfl
  unfold Txt.rstrip Txt.stripBy
  rw [hs]; rfl
theorem BltOK.rstrip {x : List Nat} {Q : V → Mine.St → Prop} (h : ∀ c, x.getLast? = some c → Unicode.isSpace c = false) (hl : x.length ≤ 16777216) (q : Q (.str x) σ) : BltOK k C (.builtin "str.rstrip") [.str x] Q σ := ⟨fun {A z s vs} hA hR hv => hv.e1 fun v h1 => h1.eStr fun zu => by
  refine SCL.rstrip (fun t' k' zu => ?_) (by rw [S_len, sizeLine_eq]; exact hl)
  rw [rstrip_same h]
  exact Post.val (hR.same rfl rfl rfl) (.str _ _) q⟩

theorem BltOK.endswithT {x : List Nat} {c : Nat} {Q : V → Mine.St → Prop} (q : Q (.bool true) σ) : BltOK k C (.builtin "str.endswith") [.str (x ++ [c]), .str [c]] Q σ := ⟨fun {A z s vs} hA hR hv => hv.e2 fun v w h1 h2 => h1.eStr fun zu => h2.eStr fun zu => by
  refine SC.endswith ?_
  have : Txt.endswith (S (x ++ [c])) (S [c]) = true := by
    unfold Txt.endswith Builtin.Str.subAt
    rw [S_len, S_len]
    simp [S]
  rw [this]
  exact Post.val hR (.bool _) q⟩

noncomputable def linesN : List Nat → List Nat → List (List Nat)
  | acc, [] => if acc = [] then [] else [acc]
  | acc, c :: r => if c = 10 then acc :: linesN [] r else linesN (acc ++ [c]) r
theorem seg_nil {α : Type} (x : List α) (a : Nat) : seg x a a = [] := by simp [seg]
theorem seg_snoc {α : Type} {x : List α} {a b : Nat} (hab : a ≤ b) (hb : b < x.length) : seg x a (b + 1) = seg x a b ++ [x[b]] := by
  unfold seg
  rw [show b + 1 - a = (b - a) + 1 by lia, List.take_add_one, List.getElem?_drop, show a + (b - a) = b by lia, List.getElem?_eq_getElem hb]
  rfl
theorem ls_lines (x : List Nat) (hx : ∀ c ∈ x, Unicode.isLineBreak c = true → c = 10) : ∀ (m cur : Nat) (lines : Array (Nat × Nat × Nat)) (start : Nat), cur + m = x.length → start ≤ cur →
    (StrLaws.lsEnd (S x) (Id.run (forIn (m := Id) (List.range' cur m) ((lines, start) : StrLaws.LsSt) (StrLaws.lsBody (S x))))).map (fun p => seg x p.1 p.2.1) = lines.toList.map (fun p => seg x p.1 p.2.1) ++ linesN (seg x start cur) (x.drop cur)
  | 0, cur, lines, start, hm, hs => by
    have hc : cur = x.length := by lia
    subst hc
    show (StrLaws.lsEnd (S x) (lines, start)).map _ = _
    unfold StrLaws.lsEnd
    rw [S_len, List.drop_length]
    unfold linesN
    dsimp only
    by_cases h : start < x.length
    · rw [if_pos h, if_neg (by unfold seg; intro q; have := congrArg List.length q; simp at this; lia), Array.toList_push, List.map_append]; rfl
    · rw [if_neg h, if_pos (by rw [show start = x.length by lia]; exact seg_nil _ _), List.append_nil]
  | m + 1, cur, lines, start, hm, hs => by
    have hcl : cur < x.length := by lia
    rw [List.range'_succ, List.forIn_cons]
    have hd : x.drop cur = x[cur] :: x.drop (cur + 1) := List.drop_eq_getElem_cons hcl
    have hg : (S x).cps.getD cur 0 = x[cur] := by rw [S_getD, List.getD_eq_getElem?_getD, List.getElem?_eq_getElem hcl]; rfl
    unfold StrLaws.lsBody
    rw [hd]
    unfold linesN
    cases hb : Unicode.isLineBreak x[cur] with
    | true =>
      have h10 := hx _ (List.getElem_mem hcl) hb
      have hc : (decide (start ≤ cur) && Unicode.isLineBreak ((S x).cps.getD cur 0)) = true := by rw [hg, hb, decide_eq_true hs]; rfl
      have hn : StrLaws.lsNext (S x) cur = cur + 1 := by
        unfold StrLaws.lsNext
        rw [hg, h10]; rfl
      simp only [hc, if_true]
      rw [if_pos h10, hn]
      refine (ls_lines x hx m (cur + 1) _ (cur + 1) (by lia) (Nat.le_refl _)).trans ?_
      rw [Array.toList_push, List.map_append, seg_nil, List.append_assoc]; rfl
    | false =>
      have h10 : ¬ x[cur] = 10 := fun q => by rw [q] at hb; revert hb; decide
      have hc : (decide (start ≤ cur) && Unicode.isLineBreak ((S x).cps.getD cur 0)) = false := by rw [hg, hb, Bool.and_false]
      simp only [hc, if_false, Bool.false_eq_true]
      rw [if_neg h10]
      refine (ls_lines x hx m (cur + 1) lines start (by lia) (by lia)).trans ?_
      rw [seg_snoc hs hcl]
theorem strSub_S (x : List Nat) (i j : Nat) : Builtin.Str.strSub (S x) i j = S (seg x i j) := by
  unfold Builtin.Str.strSub seg
  simp [S]
set_option tactic.hygienic true in
theorem lines_S (x : List Nat) (hx : ∀ c ∈ x, Unicode.isLineBreak c = true → c = 10) : Txt.lines (S x) = (linesN [] x).map S := by
  have h1 : Txt.lines (S x) = linesOf (S x) := by
    unfold Txt.lines
    split
    · rename_i h
      have h' := eq_of_beq h
      unfold linesOf
      rw [h', List.map_singleton, strSub_S, S_len]
      simp [seg]
    · rfl
  rw [h1]
  unfold linesOf lineCuts
  rw [StrLaws.ls_eq, List.map_map]
  have key := ls_lines x hx x.length 0 #[] 0 (by lia) (Nat.le_refl _)
  rw [seg_nil] at key
  simp only [List.map_nil, List.nil_append, List.drop_zero] at key
  rw [← key, List.map_map, S_len]
  refine List.map_congr_left fun p zu => ?_
  show Builtin.Str.strSub (S x) p.1 p.2.1 = _
  rw [strSub_S]; rfl

theorem strsRep {z : FH} : ∀ {l : List (Str × Tok)} {ys : List (List Nat)}, l.map (·.1) = ys.map S → Reps z (ys.map V.str) (strValues l)
  | [], [], _ => .nil
  | (x, t) :: l, y :: ys, h => by
    simp only [List.map_cons, List.cons.injEq] at h
    obtain ⟨h1, h2⟩ := h
    subst h1
    exact .cons (.str y t) (strsRep h2)
  | [], _ :: _, h => by simp at h
  | _ :: _, [], h => by simp at h
theorem BltOK.splitlines {x : List Nat} {Q : V → Mine.St → Prop} (hx : ∀ c ∈ x, Unicode.isLineBreak c = true → c = 10) (hl : x.length ≤ 1000000) (q : Q (.list ((linesN [] x).map V.str)) σ) : BltOK k C (.builtin "str.splitlines") [.str x] Q σ := ⟨fun {A z s vs} hA hR hv => hv.e1 fun v h1 => h1.eStr fun t => by
  have hll : (S x).length ≤ sizeLine := by rw [S_len, sizeLine_eq]; lia
  have hlc : (lineCuts (S x)).length ≤ sizeLine := by have := lineCuts_le (S x); rw [S_len] at this; rw [sizeLine_eq]; lia
  refine call_meets F.slot_str_splitlines (typeIs_str _ _ _) F.entry_str_splitlines (F.args_str_splitlines_1 _) (meets_str_splitlines (S x) t hll hlc) ?_
  have hL := lines_S x hx
  cases hw : lineCuts (S x) == [(0, (S x).length)]
  · simp only [Bool.false_eq_true, if_false]
    rw [strsFrom_eq]
    have e : linesOf (S x) = (linesN [] x).map S := by rw [← hL]; exact (if_neg (ne_true_of_eq_false hw)).symm
    exact Post.lstN (n := 0) (FH.le.refl _) hR (strsRep (l := numbered s.toks (linesOf (S x))) ((numbered_texts _ _).trans e)) q
  · simp only [if_true]
    have e : [S x] = (linesN [] x).map S := by rw [← hL]; exact (if_pos hw).symm
    exact Post.lstN (n := 0) (FH.le.refl _) hR (strsRep (l := [(S x, t)]) e) q⟩
end Mine
namespace Mine
variable {k : Nat} {C : FC} {σ : Mine.St} {pos : Pos}
inductive TInv2 (x : List Nat) (f : Nat → List Nat) (I : Shared → Prop) (rest : List Nat) : List Str × Nat × Bool × List (Nat × Option Nat) × Bool → Shared → Prop
  | mk (done : List Nat) {b1 : List Str} {b2 : Nat} {b3 : Bool} {b4 : List (Nat × Option Nat)} {s : Shared} (h1 : x = done ++ rest) (h2 : (b1.reverse.flatMap fun p => p.cps.toList) = done.flatMap f) (h3 : b2 = (done.flatMap f).length) (h4 : ∀ p ∈ b4, ∃ d, p.2 = some d ∧ f p.1 = [d]) (h5 : I s) : TInv2 x f I rest (b1, b2, b3, b4, false) s
open Builtin.Str in
theorem htl {n : Nat} (h : n ≤ 16777216) : tooLong n = false := decide_eq_false (Nat.not_lt.mpr (by rw [sizeLine_eq]; exact h))
theorem foldl_cps : ∀ (l : List Str) (acc : Array Nat), l.foldl (fun acc p => acc ++ p.cps) acc = acc ++ (l.flatMap fun p => p.cps.toList).toArray
  | [], acc => by simp
  | p :: r, acc => by
    rw [List.foldl_cons, foldl_cps r, List.flatMap_cons]
    apply Array.ext'
    simp
theorem bE {α β : Type} {M : Model} {A : Around} {s : Shared} {E : Value → Shared → Prop} {m : Sem α} {v : α} {f : α → Sem β} {Q : β → Shared → Prop} (e : m = pure v) (h : wpAny M A (f v) Q E s) : wpAny M A (m >>= f) Q E s := e ▸ wpAny_bind (wpAny_pure h)
theorem bP {α : Type} {M : Model} {A : Around} {s : Shared} {E : Value → Shared → Prop} {m : Sem α} {v : α} {Q : α → Shared → Prop} (e : m = pure v) (h : Q v s) : wpAny M A m Q E s := e ▸ wpAny_pure h
theorem itF {α : Type} {M : Model} {A : Around} {E : Value → Shared → Prop} {s : Shared} {Q : α → Shared → Prop} {b : Bool} {x y : Sem α} (h : b = false) (k : wpAny M A y Q E s) : wpAny M A (if b = true then x else y) Q E s := by subst h; exact k
theorem itT {α : Type} {M : Model} {A : Around} {E : Value → Shared → Prop} {s : Shared} {Q : α → Shared → Prop} {b : Bool} {x y : Sem α} (h : b = true) (k : wpAny M A x Q E s) : wpAny M A (if b = true then x else y) Q E s := by subst h; exact k
open Builtin.Str in
theorem translate_run {prog : Program} {w : World} {A : Around} {E : Value → Shared → Prop} {s : Shared} {x : List Nat} {t : Tok} {vt : Value} {Q : Value → Shared → Prop} (f : Nat → List Nat) (I : Shared → Prop) (hne : x ≠ [])
    (hT : ∀ c ∈ x, ∀ s E', I s → wpAny (model prog w) A.in1 (tableLookup vt c) (fun m s' => I s' ∧ ((m = .keep ∧ f c = [c]) ∨ m = .text (S (f c)))) E' s) (hlen : (x.flatMap f).length ≤ 16777216) (hI : I s)
    (hQ : ∀ t' s', I s' → Q (.str (S (x.flatMap f)) t') { s' with toks := s'.toks + 1 }) : wpAny (model prog w) A (call (.builtin "str.translate") [.str (S x) t, vt]) Q E s := by
  refine wpAny_call_entry F.slot_str_translate (typeIs_str _ _ _) F.entry_str_translate ?_ (F.args_str_translate_2 _ _)
  refine bE (show strOneArg "translate" ⟨[.str (S x) t, vt], []⟩ = pure (.str (S x) t, S x, vt) from rfl) ?_
  refine itF (beq_false_of_ne (by rw [S_len]; exact Nat.ne_of_gt (List.length_pos_iff.mpr hne))) ?_
  refine wpAny_bind ?_
  rw [← Array.forIn_toList]
  refine wpAny_forIn_list _ (TInv2 x f I) _ ?_ ?_ _ _ (.mk [] rfl rfl rfl nofun hI)
  · rintro c rest _ s1 (@⟨done, pieces, total, fast, known, _, hx, hp, ht, hk, hI1⟩)
    have hcx : c ∈ x := by rw [hx]; simp
    have hlx : (x.flatMap f).length = (done.flatMap f).length + (f c).length + (rest.flatMap f).length := by rw [hx]; simp; lia
    refine itF (htl (by lia)) ?_
    have step : ∀ (pieces' : List Str) (total' : Nat) (fast' : Bool) (known' : List (Nat × Option Nat)) (s2 : Shared), I s2 → (∀ p ∈ known', ∃ d, p.2 = some d ∧ f p.1 = [d]) → pieces'.reverse.flatMap (fun p => p.cps.toList) = done.flatMap f ++ f c → total' = total + (f c).length →
        TInv2 x f I rest (pieces', total', fast', known', false) s2 := fun pieces' total' fast' known' s2 h1 h2 h3 h4 =>
      .mk (done ++ [c]) (by rw [hx]; simp) (by rw [h3]; simp) (by rw [h4, ht]; simp) h2 h1
    have slow : ∀ (fast' : Bool) (known' : List (Nat × Option Nat)) (s2 : Shared), I s2 → (∀ p ∈ known', ∃ d, p.2 = some d ∧ f p.1 = [d]) →
        wpAny (model prog w) A.in1 (do
          let m ← tableLookup vt c
          match m with
          | .keep => pure (ForInStep.yield ((⟨#[c]⟩ : Str) :: pieces, total + 1, fast', known', false))
          | .drop => pure (ForInStep.yield (pieces, total, fast', known', true))
          | .char d => pure (ForInStep.yield ((⟨#[d]⟩ : Str) :: pieces, total + 1, fast', known', false))
          | .text t => pure (ForInStep.yield (t :: pieces, total + t.length, fast', known', false)))
        (fun r s' => match r with | .yield b' => TInv2 x f I rest b' s' | .done b' => False) E s2 := fun fast' known' s2 h1 h2 => by
      refine wpAny_bind (wpAny_mono (hT c hcx s2 E h1) ?_ fun zu zu x => x)
      rintro m s3 ⟨h3, ⟨rfl, hf⟩ | rfl⟩
      · exact wpAny_pure (step _ _ _ _ _ h3 h2 (by simp [hp, hf]) (by simp [hf]))
      · exact wpAny_pure (step _ _ _ _ _ h3 h2 (by simp [hp, S]) (by simp [S_len]))
    rcases Bool.eq_false_or_eq_true fast with hfast | hfast
    rotate_left
    · refine itF hfast (wpAny_mono (slow fast known s1 hI1 hk) ?_ fun zu zu x => x)
      intro r s' hr
      cases r with
      | yield b => exact hr
      | done b => exact hr.elim
    · refine itT hfast ?_
      have known1 : ∀ d, f c = [d] → ∀ p ∈ ((c, some d) :: known : List (Nat × Option Nat)), ∃ e, p.2 = some e ∧ f p.1 = [e] := fun d hf p hp => by
        rcases List.mem_cons.mp hp with rfl | hp
        · exact ⟨d, rfl, hf⟩
        · exact hk p hp
      cases hlk : known.lookup c with
      | some a =>
        obtain ⟨d, hd1, hd2⟩ := hk _ (mem_of_look hlk)
        dsimp only at hd1 hd2
        subst hd1
        refine wpAny_bind (wpAny_pure ?_)
        exact wpAny_pure (step _ _ _ _ _ hI1 hk (by simp [hp, hd2]) (by simp [hd2]))
      | none =>
        refine wpAny_bind (wpAny_mono (hT c hcx s1 E hI1) ?_ fun zu zu x => x)
        rintro m s3 ⟨h3, ⟨rfl, hf⟩ | rfl⟩
        · dsimp only
          refine wpAny_bind (wpAny_pure ?_)
          exact wpAny_pure (step _ _ _ _ _ h3 (known1 c hf) (by simp [hp, hf]) (by simp [hf]))
        · dsimp only
          generalize ha0 : (if ((S (f c)).length == 1 && (S (f c)).cps.all fun x => decide (x < 128)) = true then some (S (f c)).cps[0]? else none) = a0
          by_cases hb : ((S (f c)).length == 1 && (S (f c)).cps.all fun x => decide (x < 128)) = true
          · rw [if_pos hb] at ha0
            obtain ⟨d, hd⟩ : ∃ d, f c = [d] := by
              rw [Bool.and_eq_true] at hb
              have h1 := hb.1
              rw [S_len] at h1
              exact List.length_eq_one_iff.mp (by simpa using h1)
            have e0 : (S (f c)).cps[0]? = some d := by rw [hd]; rfl
            rw [e0] at ha0
            subst ha0
            refine wpAny_bind (wpAny_pure ?_)
            exact wpAny_pure (step _ _ _ _ _ h3 (known1 d hd) (by simp [hp, hd]) (by simp [hd]))
          · rw [if_neg hb] at ha0
            subst ha0
            refine wpAny_bind (wpAny_pure ?_)
            refine wpAny_bind (wpAny_rule ?_)
            refine wpAny_mono (slow _ known s3 h3 hk) ?_ fun zu zu x => x
            intro r s' hr
            cases r with
            | yield b => exact hr
            | done b => exact hr.elim
  · rintro _ s1 (@⟨done, pieces, total, fast, known, _, hx, hp, ht, hk, hI1⟩)
    rw [List.append_nil] at hx
    subst hx
    refine itF (htl (by lia)) ?_
    rw [foldl_cps, hp]
    rw [show (#[] : Array Nat) ++ (x.flatMap f).toArray = (x.flatMap f).toArray by simp]
    show wpAny (model prog w) A.in1 (do ret (← mkStr (S (x.flatMap f)))) _ _ s1
    exact wpAny_bind (wpAny_mkStr (wpAny_pure ⟨_, rfl, hQ _ _ hI1⟩) (by rw [S_len, sizeLine_eq]; exact hlen))

open Builtin.Str in
theorem BltOK.translateL {x : List Nat} {d : V} {Q : V → Mine.St → Prop} (f : Nat → List Nat) (hne : x ≠ []) (h : ∀ c ∈ x, IdxOK k C d (.int (c : Int)) (fun r σ' => r = .str (f c) ∧ σ' = σ) σ) (hlen : (x.flatMap f).length ≤ 16777216) (q : Q (.str (x.flatMap f)) σ) :
    BltOK (k + 1) C (.builtin "str.translate") [.str x, d] Q σ := ⟨fun {A z s vs} hA hR hv => hv.e2 fun v vt h1 h2 => h1.eStr fun t => by
  refine translate_run f (fun s' => ∃ z', FH.le z z' ∧ Rel C z' σ s') hne ?_ hlen ⟨z, .refl z, hR⟩ ?_
  · rintro c hc s1 E' ⟨z1, hz1, hR1⟩
    have hitm : wpAny (Mo C) A.in1 (do getItem vt (← mkInt (c : Int))) (fun v s' => ∃ z2 t', FH.le z z2 ∧ Rel C z2 σ s' ∧ v = .str (S (f c)) t') NoE s1 := by
      refine wpAny_bind (wpAny_mkInt ?_)
      have hR2 : Rel C z1 σ { s1 with toks := s1.toks + 1 } := hR1.same rfl rfl rfl
      refine wpAny_mono ((h c hc).h.h hA.in1 hR2 (h2.mono hz1) (.int (c : Int) s1.toks)) ?_ fun zu zu x => x
      rintro v s2 ⟨r, σ', z2, hz2, hR3, hr, rfl, rfl⟩
      cases hr
      exact ⟨z2, _, hz1.trans hz2, hR3, rfl⟩
    refine wpAny_bind (wpAny_attempt (wpAny_mono hitm ?_ fun zu zu x => x.elim))
    rintro v s2 ⟨z2, t', hz2, hR3, rfl⟩
    refine bE (show asInt? (.str (S (f c)) t') = pure none from rfl) (bE (show asStr? (.str (S (f c)) t') = pure (some (S (f c))) from rfl) (wpAny_pure ?_))
    exact ⟨⟨z2, hz2, hR3⟩, .inr rfl⟩
  · rintro t' s' ⟨z', hz', hR'⟩
    exact (Post.val (hR'.same rfl rfl rfl) (.str _ _) q).le hz'⟩
end Mine
namespace Mine
theorem gb_entry : entryFor table "list.__getattribute__" = some Builtin.«object.__getattribute__» := am_entry_list_getattribute
theorem gb_type : typeOf (.builtin "list.__getattribute__") = pure (.type "wrapper_descriptor") := by show builtinType _ = _; rw [builtinType_eq_fast]; kernel_rfl
theorem gb_app : typeLookup (.type "list") (Str.ofString "append") = pure (some (.builtin "list.append")) := slot_list_append.lookup
theorem gb_appT : typeOf (.builtin "list.append") = pure (.type "method_descriptor") := F.type_list_append
theorem gb_getSlot : Slot "method_descriptor" "__get__" "method_descriptor.__get__" :=
  .of (owner := "method_descriptor") (n := "__get__") (by rw [typeLookup_type, builtinLookup_eq_fast]; kernel_rfl) (by decide +kernel) (by decide +kernel) (by decide +kernel)
    (by first | exact .inl (by decide +kernel) | exact .inr (by decide +kernel)) (by rw [isSubtype_type]; kernel_rfl)
theorem gb_get : typeLookup (.type "method_descriptor") (Str.ofString "__get__") = pure (some (.builtin "method_descriptor.__get__")) := gb_getSlot.lookup
theorem gb_set : typeLookup (.type "method_descriptor") (Str.ofString "__set__") = pure none := by rw [typeLookup_type, builtinLookup_eq_fast]; kernel_rfl
theorem gb_del : typeLookup (.type "method_descriptor") (Str.ofString "__delete__") = pure none := by rw [typeLookup_type, builtinLookup_eq_fast]; kernel_rfl
theorem slot_ga : Slot "list" "__getattribute__" "list.__getattribute__" := F.slot_list_getattribute
theorem gb_lookup : typeLookup (.type "list") (Str.ofString "__getattribute__") = pure (some (.builtin "list.__getattribute__")) := slot_ga.lookup
theorem gb_getEntry : entryFor table "method_descriptor.__get__" = some Builtin.«method_descriptor.__get__» := entryFor_of_tree (by kernel_rfl)
theorem gb_getArgs (a b c : Value) : argsOk "method_descriptor.__get__" ⟨[a, b, c], []⟩ := by unfold argsOk; kernel_rfl
theorem gb_sub : isSubtype (.type "list") (.type "list") = pure true := by rw [isSubtype_type]; kernel_rfl
end Mine
namespace Mine
theorem ga_body {prog : Program} {w : World} {A : Around} {E : Value → Shared → Prop} {h : Heap} {g : Array GenState} {dr : Drawn} {t k : Nat} {os : OsState} {a : Addr} {vs : Array Value} {n : Nat} {Q : Fin → Shared → Prop} (ho : h.get? a = some (lstO vs n)) (hq : Q (.done (.ret (.ref h.objs.size))) ⟨h.push (appO a), g, dr, t, os⟩) :
   wpAny (model prog w) A (Builtin.«object.__getattribute__» ⟨[.ref a, .str (Str.ofString "append") k], []⟩) Q E ⟨h, g, dr, t, os⟩ := by
  have hT : Shared.TypeIs ⟨h, g, dr, t, os⟩ (.ref a) "list" := ⟨_, ho, rfl⟩
  refine wpAny_bind (wpAny_pure ?_)
  refine wpAny_bind (wpAny_pure (wpAny_bind (wpAny_typeOf hT ?_)))
  refine wpAny_bind (wpAny_mono (Q := fun x s => x = .bind (.builtin "method_descriptor.__get__") (.builtin "list.append") ∧ s = ⟨h, g, dr, t, os⟩) (E := E) ?_ ?_ fun zu zu x => x)
  · refine bE gb_app ?_
    refine wpAny_bind (bE gb_appT ?_)
    refine bP gb_get ?_
    refine wpAny_bind (wpAny_bind (wpAny_bind (bE gb_appT ?_)))
    refine bP gb_set ?_
    refine wpAny_bind (bE gb_appT ?_)
    refine bP gb_del ?_
    refine wpAny_pure ?_
    refine wpAny_pure ?_
    repeat lk
    exact ⟨rfl, rfl⟩
  · rintro _ _ ⟨rfl, rfl⟩
    refine wpAny_bind (wpAny_call_entry gb_getSlot (show Shared.TypeIs ⟨h, g, dr, t, os⟩ (.builtin "list.append") "method_descriptor" from gb_appT) gb_getEntry ?_ (gb_getArgs _ _ _))
    unfold Builtin.«method_descriptor.__get__»
    repeat lk
    exact ⟨_, rfl, wpAny_pure hq⟩
theorem getAppend {prog : Program} {w : World} {A : Around} {E : Value → Shared → Prop} {s : Shared} {a : Addr} {vs : Array Value} {n : Nat} {Q : Value → Shared → Prop} (ho : s.heap.get? a = some (lstO vs n))  (hq : Q (.ref s.heap.objs.size) { s with heap := s.heap.push (appO a), toks := s.toks + 1 }) :
   wpAny (model prog w) A (getAttr (.ref a) "append" true) Q E s := by
  have hT : ∀ tk, ({ s with toks := tk } : Shared).TypeIs (.ref a) "list" := fun tk => ⟨_, ho, rfl⟩
  have hmk : ∀ {Q' : Value → Shared → Prop}, Q' (.str ("append" : Str) s.toks) { s with toks := s.toks + 1 } → wpAny (model prog w) A (mkText ("append" : Str)) Q' E s := fun {Q'} h Γ p hΓ => h
  refine wpAny_bind (hmk ?_)
  refine wpAny_holding (wpAny_bind (wpAny_typeOf (hT _) ?_))
  refine bE gb_lookup ?_
  refine wpAny_bind (wpAny_pure (wpAny_bind (wpAny_attempt (wpAny_holding ?_))))
  refine wpAny_bind (bE gb_type ?_)
  refine wpAny_pure ?_
  exact wpAny_call_entry slot_ga (hT _) gb_entry (ga_body ho ⟨_, rfl, wpAny_pure hq⟩) (F.args_list_getattribute_2 _ _)

theorem app_check {prog : Program} {w : World} {A : Around} {E : Value → Shared → Prop} {h : Heap} {g : Array GenState} {dr : Drawn} {t : Nat} {os : OsState} {a : Addr} {vs : Array Value} {n : Nat} {x : Value} {Q : Unit → Shared → Prop} (ha : h.get? a = some (lstO vs n)) (hq : Q () ⟨h, g, dr, t, os⟩) : wpAny (model prog w) A (checkBoundCall "list.append" ⟨[.ref a, x], []⟩) Q E ⟨h, g, dr, t, os⟩ := by
  unfold checkBoundCall
  repeat lk
  exact hq
theorem codeAny_app {prog : Program} {w : World} {A : Around} {s : Shared} {a b : Addr} {vs : Array Value} {n : Nat} {x : Value} {R : Result → Shared → Prop} (hb : s.heap.get? b = some (appO a)) (ha : s.heap.get? a = some (lstO vs n))
    (hq : codeAny (model prog w) A (.builtin "list.append" ⟨[.ref a, x], []⟩) R s) : codeAny (model prog w) A (.call (.ref b) ⟨[x], []⟩) R s := by
  obtain ⟨hh, g, dr, t, os⟩ := s
  dsimp only at hb ha
  refine codeAny_of_tree ?_
  refine wpAny_bind (wpAny_load hb ?_)
  refine wpAny_bind (app_check ha ?_)
  repeat lk
  exact ⟨Code.quiet_builtin _ (by decide +kernel), hq⟩
theorem codeAny_append {prog : Program} {w : World} {A : Around} {s : Shared} {l : Addr} {vs : Array Value} {n : Nat} {x : Value} {R : Result → Shared → Prop} (ho : s.heap.get? l = some (lstO vs n)) (hsz : vs.size ≤ sizeLine)
    (hQ : ∀ h', h'.get? l = some (lstO (vs.push x) (n + 1)) → Heap.SameBut l s.heap h' → R (.ok (.ret .none)) { s with heap := h' }) : codeAny (model prog w) A (.builtin "list.append" ⟨[.ref l, x], []⟩) R s := by
  refine codeAny_builtin entry_list_append ?_
  show wpAny _ _ (updateSeq l (·.push x) >>= fun zu => ret .none) _ _ s
  refine wpAny_bind ?_
  refine wpAny_updateSeq ho rfl (wpAny_pure (hQ _ ?_ (Heap.SameBut.update ..)))
  rw [Heap.get?_update_self _ ho (by rw [Obj.mapSeq_push_plain]; rfl), Obj.mapSeq_push_plain]
theorem callWith_app {prog : Program} {w : World} {A : Around} {E : Value → Shared → Prop} {s : Shared} {pos : Pos} {a b : Addr} {x : Sem Value} {Q : Value → Shared → Prop}
    (h : wpAny (model prog w) A (spliced [(false, x)]) (fun vs s1 => ∃ v ws n, vs = [v] ∧ s1.heap.get? b = some (appO a) ∧ s1.heap.get? a = some (lstO ws n) ∧ ws.size ≤ sizeLine ∧
      ∀ h', h'.get? a = some (lstO (ws.push v) (n + 1)) → Heap.SameBut a s1.heap h' → Q .none { s1 with heap := h' }) E s) : wpAny (model prog w) A (callWith pos (.ref b) [] [(false, x)] []) Q E s := by
  unfold callWith
  refine wpAny_bind (wpAny_holding (Calls.evalArgs_plain (wpAny_mono h (fun vs s1 h1 => ?_) fun zu zu x => x)))
  obtain ⟨v, ws, n, rfl, hb, ha, hsz, hq⟩ := h1
  refine wpAny_bind (wpAny_standAt ?_)
  refine wpAny_bind (wpAny_bind (wpAny_load hb ?_))
  refine wpAny_pure ?_
  refine wpAny_bind ?_
  show wpAny _ _ (call (.ref b) [v] []) _ _ _
  refine wpAny_call (codeAny_app hb ha (codeAny_append ha hsz fun h' h1 h2 => ?_))
  exact wpAny_bind (wpAny_holding (wpAny_point (wpAny_pure (hq h' h1 h2))))
variable {k : Nat} {C : FC} {σ : Mine.St} {pos : Pos} {F : FS}
structure AppOK (d : V) (Q : V → Mine.St → Prop) (σ : Mine.St) : Prop where
  h : ∃ a xs, d = .mut a ∧ memGet σ.mem a = some xs ∧ Q (.app a) σ
theorem AppOK.mk' {a : Addr} {xs : List V} {Q : V → Mine.St → Prop} (hx : memGet σ.mem a = some xs) (q : Q (.app a) σ) : AppOK (.mut a) Q σ := ⟨a, xs, rfl, hx, q⟩
@[reducible] noncomputable def tApp (o : TE) : TE := fun k C Q σ => o k C (fun d σ1 => AppOK d Q σ1) σ
theorem SemE.attrApp {x : Str} {xp : Pos} {t : TE} (he : ∀ env, eval (.Attribute (.Name x xp) "append" pos) env = (do
      let o ← eval (.Name x xp) env
      standAt pos.atName
      let r ← holding [o] (getAttr o "append" true)
      letTemporaryGo (.Name x xp) o r
      pure r)) (h : SemE F (.Name x xp) t) : SemE F (.Attribute (.Name x xp) "append" pos) (tApp t) := ⟨fun {k C} W {Q σ} q A z s hA hR => by
  refine Attribute_Name_ ((h.h W q).go hA hR fun v s1 d σ1 z1 hz1 hR1 hd h1 => ?_) (he _)
  obtain ⟨a, xs, rfl, hx, hq⟩ := h1.h
  refine hd.eMut ?_
  obtain ⟨_, _, _, vs, n, e, _⟩ := hR1.mem _ _ (memGet_mem hx)
  refine getAppend e ?_
  obtain ⟨hz2, hR2⟩ := hR1.alloc (s' := { s1 with heap := s1.heap.push (appO a), toks := s1.toks + 1 }) (o := appO a) rfl rfl rfl rfl
  exact ⟨.app a, σ1, _, hz1.trans hz2, hR2, .app (FH.add_self ..), hq⟩⟩
structure PushOK (a : Addr) (v : V) (Q : V → Mine.St → Prop) (σ : Mine.St) : Prop where
  h : ∃ xs, memGet σ.mem a = some xs ∧ xs.length ≤ 16777215 ∧ Q .none { σ with mem := memSet σ.mem a (xs ++ [v]) }
theorem PushOK.mk' {a : Addr} {v : V} {xs vars : List V} {mem : List (Addr × List V)} {raw : List (Addr × Obj)} {Q : V → Mine.St → Prop} (hx : memGet mem a = some xs) (hl : xs.length ≤ 16777215) (q : Q .none ⟨vars, memSet mem a (xs ++ [v]), raw⟩) : PushOK a v Q ⟨vars, mem, raw⟩ := ⟨xs, hx, hl, q⟩
@[reducible] noncomputable def onApp (d : V) (p : Addr → Prop) : Prop := match d with
  | .app a => p a
  | _ => False
set_option tactic.hygienic true in
theorem onApp.out {d : V} {p : Addr → Prop} (h : onApp d p) : ∃ a, d = .app a ∧ p a := by
  cases d
  case app a => exact ⟨a, rfl, h⟩
  all_goals exact h.elim
@[reducible] noncomputable def one (d : List V) (p : V → Prop) : Prop := match d with
  | [v] => p v
  | _ => False
theorem one.out {d : List V} {p : V → Prop} (h : one d p) : ∃ a, d = [a] ∧ p a := by
  obtain _ | ⟨a, _ | _⟩ := d
  · exact h.elim
  · exact ⟨a, rfl, h⟩
  · exact h.elim
@[reducible] noncomputable def tPush (f e : TE) : TE := fun k C Q σ => f k C (fun d σ1 => onApp d fun a => e k C (fun v σ2 => PushOK a v Q σ2) σ1) σ
theorem SemE.callApp {x : Str} {p : Pos} {e : Expr} {tf te : TE} (hs : ∀ env, starEach [e] env = [(false, eval e env)]) (hf : SemE F (.Name x p) tf) (he : SemE F e te) : SemE F (.Call (.Name x p) [e] [] pos) (tPush tf te) := ⟨fun {k C} W {Q σ} q A z s hA hR => by
  refine wpAny_Call_ofName ((hf.h W q).go hA hR fun f s1 d σ1 z1 hz1 hR1 hd h1 => ?_)
  obtain ⟨a, rfl, h1⟩ := h1.out
  refine hd.eApp fun b hb => ?_
  have h3 := (SemA.cons (F := F) (es := []) (fun env => by rw [hs]; rfl) he SemA.nil).h W (pos := pos) (Q := fun ds σ2 => one ds fun v => PushOK a v Q σ2) h1
  have hbk : backTo pos (starEach [e] C.env) = [(false, (do let v ← eval e C.env; pure v : Sem Value))] := by rw [hs]; rfl
  change WT k C _ Reps _ _ at h3
  rw [hbk] at h3 ⊢
  refine callWith_app (a := a) (h3.go hA hR1 fun vs s2 ds σ2 z2 hz2 hR2 hds hq => ?_)
  obtain ⟨v, rfl, hp⟩ := hq.2.out
  obtain ⟨xs, hx, hl, hp⟩ := hp.h
  refine hds.e1 fun w hv => ?_
  obtain ⟨q1, q2, q3, ws, n, q4, q5⟩ := hR2.mem _ _ (memGet_mem hx)
  refine ⟨_, ws.toArray, n, rfl, hR2.frz _ _ (hz2 _ _ hb), q4, by rw [sizeLine_eq, List.size_toArray, ← q5.length]; exact Nat.le_trans hl (by decide), fun h' e1 e2 => ?_⟩
  refine ⟨.none, _, z2, hz1.trans hz2, hR2.upd (n := n + 1) hx (q5.append (.cons hv .nil)) ?_ e2 rfl rfl, .none, hp⟩
  rw [e1]; simp⟩
@[reducible] noncomputable def tsNever : TS := fun zu zu zu zu => False
@[reducible] noncomputable def tNever : TE := fun zu zu zu zu => False
theorem SemS.never (st : Stmt) : SemS F st tsNever := ⟨fun zu zu zu h => h.elim⟩
theorem SemE.never (e : Expr) : SemE F e tNever := ⟨fun zu zu zu h => h.elim⟩
end Mine
namespace Mine
variable {F : FS} {pos : Pos}
noncomputable abbrev TJ := Nat → FC → List Nat → (V → Mine.St → Prop) → Mine.St → Prop
structure SemJ (F : FS) (es : List Expr) (t : TJ) : Prop where
  h : ∀ {k C}, Wf C F → ∀ {acc Q σ}, acc.length ≤ 16777216 → t k C acc Q σ → WT k C (joinParts (S acc) (evalEach es C.env)) Rep Q σ
@[reducible] noncomputable def tFmt (e : TE) : TE := fun k C Q σ => e k C (fun d σ1 => onStr d fun l => l.length ≤ 16777216 ∧ Q (.str l) σ1) σ
theorem SemE.fmt {e : Expr} {t : TE} (h : SemE F e t) : SemE F (.FormattedValue e (-1) none pos) (tFmt t) := ⟨fun {k C} W {Q σ} q A z s hA hR =>
  FormattedValue_plain ((h.h W q).go hA hR fun v s1 d σ1 z1 hz1 hR1 hd h1 => by
    obtain ⟨l, rfl, h1⟩ := onStr.out h1
    exact hd.eStr fun t => formatField_str (fun t' tk => ⟨.str l, σ1, z1, hz1, hR1.same rfl rfl rfl, .str l t', h1.2⟩) (by rw [S_len, sizeLine_eq]; exact h1.1))⟩
@[reducible] noncomputable def tjNil : TJ := fun zu zu acc Q σ => Q (.str acc) σ
@[reducible] noncomputable def tjCons (t : TE) (ts : TJ) : TJ := fun k C acc Q σ => t k C (fun d σ1 => onStr d fun l => acc.length + l.length ≤ 16777216 ∧ ts k C (acc ++ l) Q σ1) σ
theorem SemJ.nil : SemJ F [] tjNil := ⟨fun {k C} W {acc Q σ} ha q A z s hA hR => joinParts_nil (Post.val (hR.same rfl rfl rfl) (.str acc _) q) (by rw [S_len, sizeLine_eq]; exact ha)⟩
theorem SemJ.cons {e : Expr} {es : List Expr} {t : TE} {ts : TJ} (h1 : SemE F e t) (h2 : SemJ F es ts) : SemJ F (e :: es) (tjCons t ts) := ⟨fun {k C} W {acc Q σ} ha q A z s hA hR =>
  joinParts_cons ((h1.h W q).go hA hR fun v s1 d σ1 z1 hz1 hR1 hd q1 => by
    obtain ⟨l, rfl, q1⟩ := onStr.out q1
    refine hd.eStr fun t => ?_
    dsimp only
    rw [S_append]
    exact ⟨by rw [S_len, sizeLine_eq, List.length_append]; exact q1.1, (h2.h W (by rw [List.length_append]; exact q1.1) q1.2).fin hA hR1 hz1⟩)⟩
@[reducible] noncomputable def tJoi (t : TJ) : TE := fun k C Q σ => t k C [] Q σ
theorem SemE.joi {a b : Expr} {es : List Expr} {t : TJ} (h : SemJ F (a :: b :: es) t) : SemE F (.JoinedStr (a :: b :: es) pos) (tJoi t) := ⟨fun {k C} W {Q σ} q A z s hA hR => JoinedStr_many (h.h W (Nat.zero_le _) q A z s hA hR)⟩
end Mine
namespace Mine
theorem obj_new : typeLookup (.type "object") "__new__" = pure (some (.builtin "object.__new__")) := by rw [typeLookup_type, builtinLookup_eq_fast]; kernel_rfl
theorem obj_sub : isSubtype (.type "object") (.type "object") = pure true := by rw [isSubtype_type]; kernel_rfl
theorem obj_called : TypeCalled "object" "object.__new__" "object.__init__" :=
  ⟨by decide +kernel, by decide +kernel, ⟨_, _, F.mro_object⟩, madeBy_type F.mro_object obj_new (by decide +kernel), by decide +kernel, obj_sub, F.slot_object_init⟩
theorem obj_call : checkTypeCall "object" ⟨[], []⟩ = pure () := by kernel_rfl
theorem obj_cnew : checkBuiltinCall "object.__new__" ⟨[.type "object"], []⟩ = pure () := by kernel_rfl
theorem obj_here : Bind.madeHere "object.__new__" (.type "object") = pure () := by kernel_rfl
theorem obj_args (o : Value) : argsOk "object.__init__" ⟨[o], []⟩ := by unfold argsOk; kernel_rfl
theorem obj_refuse : ((Manifest.find? "object").elim false (fun m => m.mro.any fun t => (Manifest.find? t).elim false (·.noNew))) = false := by decide +kernel
theorem obj_dict : typeHasDict (.type "object") = false := by decide +kernel
theorem obj_meets : Meets (Builtin.«object.__new__» ⟨[.type "object"], []⟩) (fun zu R s => R (.ok (.ret (.ref s.heap.objs.size))) { s with heap := s.heap.push objO }) :=
  Meets.of_wp fun prog w A R s hs => by
    obtain ⟨hp, g, d, tk, os⟩ := s
    have f1 := obj_here
    have f2 := obj_refuse
    have f3 := obj_dict
    repeat (any_goals (first | assumption | wp_step))
    exact ⟨_, rfl, hs⟩
theorem obj_init (o : Value) : Meets (Builtin.«object.__init__» ⟨[o], []⟩) (fun zu R s => R (.ok (.ret .none)) s) := Meets.of_wp fun prog w A R s hs => wpAny_pure ⟨_, rfl, hs⟩
@[reducible] noncomputable def tObj : TE := fun zu zu Q σ => ∀ a, Q (.obj a) σ
variable {F : FS} {pos : Pos}
theorem SemE.callObj {x : Str} {p : Pos} (G : GB F.T.K x (.type "object")) (hm : x ∈ F.gs) : SemE F (.Call (.Name x p) [] [] pos) tObj := ⟨fun {k C} W {Q σ} q A z s hA hR => by
  refine wpAny_Call_ofName (name_builtin hR (W.G x hm).1 (W.T ▸ G.g) G.b (PySem.callWith_type rfl (evalArgs_nil3 ?_)) (W.G x hm).2.2 (W.G x hm).2.1)
  refine callType_meets (Q₁ := fun o s1 => o = .ref s.heap.objs.size ∧ s1 = { s with heap := s.heap.push objO }) obj_called obj_call obj_cnew PySem.F.entry_object_new PySem.F.entry_object_init obj_meets ⟨rfl, rfl⟩ ?_
  rintro o s1 ⟨rfl, rfl⟩
  obtain ⟨hz2, hR2⟩ := hR.alloc (s' := { s with heap := s.heap.push objO }) (o := objO) rfl rfl rfl rfl
  exact ⟨⟨objO, Heap.get?_push_size _ rfl, rfl⟩, obj_args _, _, obj_init _, rfl, ⟨.obj _, σ, _, hz2, hR2, .obj (FH.add_self ..), q _⟩⟩⟩
theorem fm2 {α β : Type} {f : α → Option β} {x y : α} {a b : β} (h1 : f x = some a) (h2 : f y = some b) : [x, y].filterMap f = [a, b] := by rw [List.filterMap_cons_some h1, List.filterMap_cons_some h2]; rfl
theorem swaps_of {i j : Ix} {a b : Str} {pa pb tp vp : Pos} {c c' : Nat} {e1 e2 : Expr} (h1 : AtK F.nk i a .local) (h2 : AtK F.nk j b .local) (hl : (pb.line == pa.line) = true) (hd : ([a, b].eraseDups.length != 2) = false)
    (hs : ([e1, e2].any fun x => PySem.swappedStores.match_5 (fun zu => Bool) x (fun zu zu => true) fun zu => false) = false) (hf : [e1, e2].all (foldedForSure 8) = false) (hc : [e1, e2].all (constantsAlone 8) = false) :
    ∀ C, Wf C F → C.env.scope.kind = .function → swappedStores [.Tuple [.Name a pa, .Name b pb] c tp] (.Tuple [e1, e2] c' vp) C.env = pure (some [a, b]) := fun C W hk => by
  have k1 := W.kd h1
  have k2 := W.kd h2
  unfold swappedStores
  dsimp only [List.length_cons, List.length_nil, List.head?_cons, Option.map_some, Option.getD_some, Expr.pos]
  rw [blockKind_fn hk]
  refine Eq.trans (if_neg (by decide)) (Eq.trans (if_neg fun h => Bool.noConfusion (h.symm.trans hs)) ?_)
  have key : ∀ names : List Str, names = [a, b] → (if (names.length != 2 || names.eraseDups.length != names.length) = true then pure none else if [e1, e2].all (foldedForSure 8) = true then pure none else if [e1, e2].all (constantsAlone 8) = true then (do unsupported "assign.tuple-of-constant-expressions:order-of-the-stores"; pure (some names)) else pure (some names) : Sem (Option (List Str))) = pure (some [a, b]) := by
    rintro _ rfl
    refine Eq.trans (if_neg (fun h => Bool.noConfusion (h.symm.trans (show (_ || ([a, b].eraseDups.length != 2)) = false by rw [hd]; rfl)))) ?_
    rw [hf, hc]
    rfl
  exact key _ (fm2 (if_pos (Bool.and_eq_true_iff.mpr ⟨by rw [k1]; rfl, beq_self_eq_true _⟩)) (if_pos (Bool.and_eq_true_iff.mpr ⟨by rw [k2]; rfl, hl⟩)))
theorem SemS.asg2 {ts : List Expr} {c : Nat} {tp : Pos} {e : Expr} {a b : Str} {te : TE} {ta tb : TG} (hw : ∀ C, Wf C F → C.env.scope.kind = .function → swappedStores [.Tuple ts c tp] e C.env = pure (some [a, b])) (hs : ∀ env, swapsWithSole [.Tuple ts c tp] e pos.line env = pure false)
    (he : SemE F e te) (ha : SemN F a ta) (hb : SemN F b tb) : SemS F (.Assign [.Tuple ts c tp] e pos) (tsAsg2 te ta tb) := ⟨fun {k C} W {Q σ} q A z s hA hR => by
  refine Assign_Tuple_swapped (names := [a, b]) ((he.h W q).go hA hR fun v s1 d σ1 z1 hz1 hR1 hd h1 => ?_) (hs _) (hw C W hR.ok.kind)
  obtain ⟨x, y, rfl, h1⟩ : ∃ x y, d = .tup [x, y] ∧ tb k C y (fun σ2 => ta k C x (Q .next) σ2) σ1 := by
    cases d with
    | tup l =>
      match l, h1 with
      | [x, y], h1 => exact ⟨x, y, rfl, h1⟩
    | _ => exact h1.elim
  refine tup_e hR1 hd fun t vs n e hr => hr.e2 (m := fun vs => s1.heap.get? t = some (tupO vs.toArray n) → _) (fun v1 v2 hx hy e => ?_) e
  refine wpAny_unpackItems_tuple (prog := C.T.prog) (w := C.T.w) (items := [_, _].toArray) hA.h (isTuple_of e) (fun h' hx' => ?_)
  have hR2 : Rel C z1 σ1 { s1 with heap := h' } := hR1.extBut hx'
  refine wpAny_bind (wpAny_holding (wpAny_bindName (wpAny_mono (hb.h W h1 hR2 hy) (fun zu s3 w => w.elim fun σ3 w => w.elim fun z3 w => ?_) fun zu zu x => x)))
  refine wpAny_bind (wpAny_holding (wpAny_bindName (wpAny_mono (ha.h W w.2.2 w.2.1 (hx.mono w.1)) (fun zu s4 u => u.elim fun σ4 u => u.elim fun z4 u => ?_) fun zu zu x => x)))
  exact wpAny_pure ⟨.next, σ4, z4, (hz1.trans w.1).trans u.1, u.2.1, .next, u.2.2⟩⟩
end Mine
namespace Mine
variable {F : FS} {pos : Pos}
@[reducible] noncomputable def tIsStr (te : TE) : TE := fun k C Q σ => te k C (fun d σ1 => onStr d fun zu => Q (.bool true) σ1) σ
theorem SemE.isStr {x y : Str} {p p2 : Pos} {e : Expr} {te : TE} (G : GB F.T.K x (.builtin "isinstance")) (G2 : GB F.T.K y (.type "str")) (hm : x ∈ F.gs) (hm2 : y ∈ F.gs) (hs : ∀ env, starEach [e, .Name y p2] env = (false, eval e env) :: starEach [.Name y p2] env)
    (he : SemE F e te) : SemE F (.Call (.Name x p) [e, .Name y p2] [] pos) (tIsStr te) := ⟨fun {k C} W {Q σ} q A z s hA hR => by
  refine wpAny_Call_ofName (name_builtin hR (W.G x hm).1 (W.T ▸ G.g) G.b (Calls.callWith_builtin (starEach_any _ _ _ (by rw [hs]; rfl)) ?_) (W.G x hm).2.2 (W.G x hm).2.1)
  rw [bk e [.Name y p2] C.env (hs _)]
  refine Calls.evalArgs_plain ?_
  rw [← bk (pos := pos) e [.Name y p2] C.env (hs _)]
  refine wpAny_items_cons ((he.h W q).go hA hR fun v s1 d σ1 z1 hz1 hR1 hd h1 => wpAny_items_cons (name_builtin hR1 (W.G y hm2).1 (W.T ▸ G2.g) G2.b (wpAny_items_nil ?_) (W.G y hm2).2.2 (W.G y hm2).2.1)) (hs _)
  obtain ⟨l, rfl, h1⟩ := onStr.out h1
  exact hd.eStr fun t => PySem.IsiPair.str_str ⟨_, σ1, z1, hz1, hR1, .bool _, h1⟩⟩
noncomputable def intKey : Value → Option Int
  | .int k _ => some k
  | _ => none
set_option tactic.hygienic true in
theorem intKey.out {v : Value} {h : Int} (e : (intKey v).any (fun k => decide (h = hashInt k)) = true) : ∃ k t, v = .int k t ∧ h = hashInt k := by
  cases v
  case int k t => exact ⟨k, t, rfl, of_decide_eq_true e⟩
  all_goals exact Bool.noConfusion e
noncomputable def dc (o : Option Obj) : Array DictEntry × Nat := match o with
  | some ⟨_, _, .dict es n, _⟩ => (es, n)
  | _ => (#[], 0)
structure dicOK (K : Frag) (a : Addr) (f : Nat → List Nat) (n : Nat) : Prop where
  k : K.lookup a = some ⟨.type "dict", none, .dict (dc (K.lookup a)).1 (dc (K.lookup a)).2, #[]⟩
  ks : (dc (K.lookup a)).1.toList.all (fun e => (intKey e.key).any fun k => decide (e.hash = hashInt k)) = true
  f : (List.range n).all (fun c => (findBy Value.isInt (dc (K.lookup a)).1 (c : Int)).elim (decide (f c = [c])) (isStr (f c))) = true
theorem dicOK.keys {K : Frag} {a : Addr} {f : Nat → List Nat} {n : Nat} (h : dicOK K a f n) : IntKeys (dc (K.lookup a)).1 := fun e he => intKey.out (List.all_eq_true.mp h.ks e (Array.mem_toList_iff.mpr he))
theorem dicOK.out {K : Frag} {a : Addr} {f : Nat → List Nat} {n : Nat} (h : dicOK K a f n) {c : Nat} (hc : c < n) : (∃ t, findBy Value.isInt (dc (K.lookup a)).1 (c : Int) = some (.str (S (f c)) t)) ∨ (findBy Value.isInt (dc (K.lookup a)).1 (c : Int) = none ∧ f c = [c]) := by
  have := List.all_eq_true.mp h.f c (List.mem_range.mpr hc)
  rcases e : findBy Value.isInt (dc (K.lookup a)).1 (c : Int) with _ | v
  · rw [e] at this; exact .inr ⟨rfl, of_decide_eq_true this⟩
  · rw [e] at this; exact .inl ((isStr.out this).imp fun t e => congrArg some e)
theorem sub_key : isSubtype (.type "KeyError") (.type "LookupError") = pure true := by rw [isSubtype_type]; kernel_rfl
open Builtin.Str in
theorem BltOK.translateD {k : Nat} {C : FC} {σ : Mine.St} {x : List Nat} {a : Addr} {Q : V → Mine.St → Prop} (f : Nat → List Nat) (n : Nat) (D : dicOK C.T.K a f n) (ha : (a == sysModules) = false) (hne : x ≠ []) (hx : ∀ c ∈ x, c < n) (hlen : (x.flatMap f).length ≤ 16777216) (q : Q (.str (x.flatMap f)) σ) :
    BltOK (k + 1) C (.builtin "str.translate") [.str x, .mut a] Q σ := ⟨fun {A z s vs} hA hR hv => hv.e2 fun v vt h1 h2 => h1.eStr fun t => h2.eMut (by
  refine translate_run f (fun s' => ∃ z', FH.le z z' ∧ Rel C z' σ s') hne ?_ hlen ⟨z, .refl z, hR⟩ ?_
  · rintro c hc s1 E' ⟨z1, hz1, hR1⟩
    unfold tableLookup
    refine wpAny_bind (wpAny_attempt (wpAny_bind (wpAny_mkInt ?_)))
    have hR2 : Rel C z1 σ { s1 with toks := s1.toks + 1 } := hR1.same rfl rfl rfl
    have ho : s1.heap.get? a = some _ := hR1.frz _ _ (hR1.zK _ _ D.k)
    have hm : s1.heap.IntMap a (findBy Value.isInt (dc (C.T.K.lookup a)).1) := ⟨_, _, _, ho, rfl, rfl, D.keys, fun zu => rfl⟩
    rcases D.out (hx c hc) with ⟨t', hf⟩ | ⟨hf, hfc⟩
    · refine wpAny_getItem_intMap (s := { s1 with toks := s1.toks + 1 }) hm hf ?_
      dsimp only
      have e1 : asInt? (.str (S (f c)) t') = pure none := rfl
      have e2 : asStr? (.str (S (f c)) t') = pure (some (S (f c))) := rfl
      rw [e1]
      refine wpAny_bind (wpAny_pure ?_)
      dsimp only
      rw [e2]
      refine wpAny_bind (wpAny_pure (wpAny_pure ?_))
      exact ⟨⟨z1, hz1, hR1.same rfl rfl rfl⟩, .inr rfl⟩
    · refine wpAny_getItem_missing_of (s := { s1 with toks := s1.toks + 1 }) (knd := intKind C.T.prog C.T.w) (intKind_is _ _ _ _) ha hA.in1.h (hm.mapOf fun o' h' => by rw [ho] at h'; cases h'; exact ⟨rfl, rfl⟩) hf fun h' e hn => ?_
      dsimp only
      obtain ⟨ob, tt, h3, h4, _⟩ := hn.there
      refine wpAny_bind (wpAny_isInstance (T := "KeyError") ⟨ob, h3, h4⟩ sub_key ?_)
      simp only [if_true]
      exact wpAny_bind (wpAny_rule (wpAny_pure ⟨⟨z1, hz1, hR1.grow (s' := { s1 with heap := h', toks := s1.toks + 1 + 1 }) hn.keeps⟩, .inl ⟨rfl, hfc⟩⟩))
  · rintro t' s' ⟨z', hz', hR'⟩
    exact (Post.val (hR'.same rfl rfl rfl) (.str _ _) q).le hz')⟩
end Mine
namespace Mine
variable {C : FC} {z : FH} {σ : Mine.St} {s : Shared} {A : Around}
theorem FnOK.semC {F : FS} {P : Addr} {k : Nat} {f : Addr} {oc : Value} {od : Option Addr} {osl : Array (Option Value)} {name qual : Str} {params : Arguments} {body : List Stmt} {scope : Scope} {dV kV doc pm : Value} {an : Option Addr} {cdv ct : Value}
    {args dds : List V} {dvs : List Value} {R : V → Prop} {t : TS} (pn rest : List Str) (vars0 : List V)
    (hK : F.T.K.lookup f = some ⟨oc, od, .func (fnOf name qual params body scope dV kV doc pm an cdv ct), osl⟩)
    (hcd : codeIn F.T.K cdv qual = true) (hnm : F.nk.map (·.1) = pn ++ rest) (hsc : scOK scope pn F.nk F.gs = true)
    (hd : ∀ z : FH, (∀ a o, F.T.K.lookup a = some o → z a = some o) → Reps z dds dvs)
    (hbind : ∀ s vs, F.T.K.In s.heap → vs.length = args.length → BindsTo s (fnOf name qual params body scope dV kV doc pm an cdv ct) ⟨vs, []⟩ (pn.zip (vs ++ dvs)))
    (hlen : args.length + dds.length = pn.length) (hv0 : args ++ dds ++ List.replicate rest.length .undef = vars0) (hsem : SemSs F body t)
    (hbody : ∀ C, C.T = F.T → C.P = P → C.env.code = cdv → t k C (EndK R) ⟨vars0, [], []⟩) : FnOK F.T P (k + 1) f args R := by
  unfold scOK at hsc
  simp only [Bool.and_eq_true, List.all_eq_true, decide_eq_true_eq, Bool.not_eq_true', beq_iff_eq, beq_eq_false_iff_ne] at hsc
  obtain ⟨⟨⟨⟨⟨⟨h1, h2⟩, h3⟩, h4⟩, h6⟩, h7⟩, h8⟩ := hsc
  refine FnOK.intro hK hcd (F.nk.map (·.1)) pn rest hnm (hnm ▸ h1) h2 (fun x hx => ?_) hd hbind hlen h6 h7 h8 fun h z0 os => ?_
  · rw [← hnm] at hx
    obtain ⟨p, hp, rfl⟩ := List.mem_map.mp hx
    rw [(h3 p hp).1.1]
    exact fun q => (h3 p hp).1.2 (Option.some.inj q)
  · rw [hv0]
    refine WT.imp (t := execs body _) (hsem.h (C := fcOf F.T P f qual scope cdv (List.map (fun p : Str × NameKind => p.1) F.nk) h z0 os) ⟨rfl, fun zu => rfl, rfl, fun p hp => ⟨(h3 p hp).1.1, by simpa using (h3 p hp).2⟩, fun x hx => ⟨(h4 x hx).1.1, by simpa using (h4 x hx).1.2, (h4 x hx).2⟩⟩ (hbody _ rfl rfl rfl)) fun fl σ' q => ?_
    cases fl with
    | ret d => exact q.elim fun r q => ⟨d, r, .inl rfl, q.1, q.2⟩
    | next => exact ⟨.none, .none, .inr ⟨rfl, rfl⟩, .self _, q⟩
    | _ => exact q.elim

theorem lam_go {c : Addr} {name qual : Str} {params : Arguments} {body : Expr} {scope : Scope} {pos : Pos} {ln : Nat} {Q : Value → Shared → Prop} (hR : Rel C z σ s) (hc : C.env.code = .ref c) (hh : codeHdIn C.T.K c C.P = true) (hcl : closureFor scope C.env = pure [])
    (q : ∀ f o z' s', FH.le z z' → Rel C z' σ s' → z' f = some o → o.cls = .type "function" → Q (.ref f) s') : wpAny (Mo C) A (makeFunction name qual params (.expr body) scope C.env [] [] [] pos ln) Q NoE s := by
  obtain ⟨ps, hP, ht⟩ := hR.tab
  have hg := hR.gd.g
  have hgP : mainGlobals ≠ C.P := fun e => by
    obtain ⟨o, es, ep, e1, hd, _⟩ := hg
    rw [e, hP] at e1; cases e1; cases hd
  obtain ⟨bm, ob, b1, b2, b3, b4, b5, b6⟩ := hR.gd.bm
  have hbP : bm ≠ C.P := fun e => by rw [e, hP] at b3; cases b3; cases b4
  have hbG : bm ≠ mainGlobals := fun e => by
    obtain ⟨o, es, ep, e1, hd, _⟩ := hg
    rw [← e, b3] at e1; cases e1; rw [hd] at b6; cases b6
  have hb : s.heap.BuiltinsAt C.T.mg C.P := ⟨bm, ob, b1, b2, hbG, hbP, b3, b4, b5, b6⟩
  have hhd := codeHd_of_K hR.gd.k hh
  cases hf : codeAmong pos ps.toList with
  | some cv =>
    refine kla_makeFunctionHit hcl hR.ok.gl hg hc hhd hP ht hf hb fun ctv h' tk hk hsz => ?_
    have hR1 : Rel C z σ { s with heap := h', toks := tk } := hR.ext (fun a o zu e => hk a o e) (.refl z) (fun a o e => hk _ _ (hR.frz _ _ e)) (fun a o e => .inl e) ⟨ps, hk _ _ hP, ht⟩ hR.bare rfl
    exact (fun a => q _ _ _ _ a.1 a.2 (FH.add_self ..) rfl) (hR1.alloc (s' := { s with heap := h'.push _, toks := tk }) rfl rfl rfl rfl)
  | none =>
    refine kla_makeFunction hcl hR.ok.gl hg hc hhd hP ht hf hgP hb fun c' ctv h' tk hx hge hlt hrec htb => ?_
    have hne : ∀ a o, z a = some o → a ≠ C.P := fun a o e q => by rw [q, hR.zP] at e; cases e
    have hR1 : Rel C z σ { s with heap := h', toks := tk } := hR.ext (fun a o ha e => hx a o ha e) (.refl z) (fun a o e => hx _ _ (hne _ _ e) (hR.frz _ _ e)) (fun a o e => .inl e) ⟨_, htb, by rw [Array.toList_append]; exact TriplesOk_snoc _ _ _ _ ht⟩ hR.bare rfl
    exact (fun a => q _ _ _ _ a.1 a.2 (FH.add_self ..) rfl) (hR1.alloc (s' := { s with heap := h'.push _, toks := tk }) rfl rfl rfl rfl)
end Mine
namespace Mine
open Builtin.Re
theorem sub_slot : Slot "re.Pattern" "sub" "re.Pattern.sub" := .of (owner := "re.Pattern") (n := "sub") (by rw [typeLookup_type, builtinLookup_eq_fast]; kernel_rfl) (by decide +kernel) (by decide +kernel) (by decide +kernel)
    (by first | exact .inl (by decide +kernel) | exact .inr (by decide +kernel)) (by rw [isSubtype_type]; kernel_rfl)
theorem sub_entry : entryFor table "re.Pattern.sub" = some Builtin.«re.Pattern.sub» := entryFor_of_tree (by kernel_rfl)
theorem loop_entry : entryFor table "re.Pattern.sub.loop" = some Builtin.«re.Pattern.sub.loop» := entryFor_of_tree (by kernel_rfl)
theorem sub_args (a b c : Value) : argsOk "re.Pattern.sub" ⟨[a, b, c], []⟩ := by unfold argsOk; kernel_rfl
theorem fn_call : typeLookup (.type "function") (Str.ofString "__call__") = pure (some (.builtin "function.__call__")) := by rw [typeLookup_type, builtinLookup_eq_fast]; kernel_rfl
noncomputable abbrev patO (a : Addr) : Obj := { cls := .type "re.Pattern", data := .fields #[.str (Str.ofString "([&~|])") 1886, .int 32 1921, .int 1 0, .none, .none, .ref a, .int 0 0] }
noncomputable def codeVs : Array Value := #[14, 14, 4, 1, 1, 9, 0, 64, 0, 1342177280, 0, 0, 0, 0, 0, 17, 0, 13, 11, 9, 0, 64, 0, 1342177280, 0, 0, 0, 0, 0, 17, 1, 1].map fun (i : Int) => Value.int i 0
noncomputable def reCode : Array Nat := #[14, 14, 4, 1, 1, 9, 0, 64, 0, 1342177280, 0, 0, 0, 0, 0, 17, 0, 13, 11, 9, 0, 64, 0, 1342177280, 0, 0, 0, 0, 0, 17, 1, 1]
noncomputable def noM (x : List Nat) : Bool := match ((Sre.forSearch reCode x.toArray 1 0 x.toArray.size false).runFor 4).outcome with
  | some .failed => true
  | _ => false
section
variable {prog : Program} {w : World} {A : Around} {E : Value → Shared → Prop} {s : Shared}
theorem drive_no {x : List Nat} {Q : Option Sre.M → Shared → Prop} (h : noM x = true) (q : Q none s) : wpAny (model prog w) A (reRunToEnd (Sre.forSearch reCode x.toArray 1 0 x.toArray.size false)) Q E s := by
  delta noM at h
  generalize Sre.forSearch reCode x.toArray 1 0 x.toArray.size false = m at h
  have ho : (m.runFor 4).outcome = some .failed := by
    rcases e : (m.runFor 4).outcome with _ | o
    · rw [e] at h; cases h
    · rw [e] at h
      cases o
      case failed => rfl
      all_goals cases h
  have e : reDrive (2 ^ 64) m = pure (m.runFor 4) := by
    rw [show (2 ^ 64 : Nat) = (2 ^ 64 - 1) + 1 by decide]
    show (if (m.runFor 4).outcome.isSome then pure (m.runFor 4) else _) = _
    rw [ho]; rfl
  refine bE e (wpAny_bind ?_)
  refine wpAny_forIn_list _ (fun zu zu s' => s' = s) _ ?_ ?_ _ _ rfl
  · rintro i rest b s1 rfl
    cases (m.runFor 4).seen.has i
    · exact wpAny_pure rfl
    · exact wpAny_bind (wpAny_rule (wpAny_pure rfl))
  · rintro b s1 rfl
    rw [ho]
    exact wpAny_pure q
theorem code_map : (((some codeVs).getD #[]).map reRawOf).map (·.toNat) = reCode := by kernel_rfl
theorem whole_go {M : Model} {x : List Nat} {t : Tok} {Q : ReTarget → Shared → Prop} (h87 : s.heap.get? 87 = some (patO 86)) (h86 : s.heap.get? 86 = some (tupO codeVs 0)) (q : Q ⟨.ref 87, .str (S x) t, reCode, x.toArray, 0, 1, 0, x.toArray.size⟩ s) :
    wpAny M A (reWholeTarget (.ref 87) (.str (S x) t)) Q E s := by
  refine wpAny_bind (wpAny_fieldsOf h87 rfl ?_)
  refine bE (show reTextOf (.str (S x) t) = pure (x.toArray, 0) from rfl) ?_
  refine bE (show reNoCollectionInside (.str (S x) t) 0 = pure () from rfl) ?_
  refine wpAny_bind (wpAny_bind (wpAny_seqItems h86 rfl (wpAny_pure ?_)))
  exact wpAny_pure (code_map ▸ q)
theorem bya_sub : isSubtype (.type "str") (.type "bytearray") = pure false := by rw [isSubtype_type]; kernel_rfl
theorem sub_run {x : List Nat} {f : Addr} {t : Tok} {Q : Value → Shared → Prop} (h87 : s.heap.get? 87 = some (patO 86)) (h86 : s.heap.get? 86 = some (tupO codeVs 0)) (hf : ∃ o, s.heap.get? f = some o ∧ o.cls = .type "function") (hx : noM x = true) (hl : x.length ≤ 16777216)
    (q : ∀ t' h' tk, (∀ b o, s.heap.get? b = some o → h'.get? b = some o) → Q (.str (S x) t') { s with heap := h', toks := tk }) : wpAny (model prog w) A (call (.builtin "re.Pattern.sub") [.ref 87, .ref f, .str (S x) t]) Q E s := by
  obtain ⟨of, hf1, hf2⟩ := hf
  refine wpAny_call (codeAny_call_builtin sub_slot.plain sub_entry (sub_slot.check _ _ _ _ _ _ _ _ ⟨_, h87, rfl⟩ (sub_args _ _ _) ?_))
  refine bE (show reNamed "re.Pattern.sub" "sub" ["repl", "string", "count"] 2 [.ref f, .str (S x) t] [] = pure [some (.ref f), some (.str (S x) t), none] by rfl) ?_
  refine wpAny_bind (wpAny_pure (wpAny_bind (wpAny_specialOf (T := "function") ⟨of, hf1, hf2⟩ fn_call ?_)))
  refine wpAny_bind (wpAny_pure (wpAny_bind (wpAny_pure ?_)))
  refine wpAny_bind (wpAny_holding (whole_go h87 h86 ?_))
  refine wpAny_bind (wpAny_bind (wpAny_isInstance (T := "str") (typeIs_str _ _ _) bya_sub ?_))
  refine wpAny_pure (wpAny_bind (wpAny_newList ?_ (by decide)))
  refine wpAny_pure ⟨plainId_quiet (by decide +kernel) _, codeAny_builtin loop_entry ?_⟩
  obtain ⟨hp, g, d, tk, os⟩ := s
  dsimp only at h87 h86 hf1 q ⊢
  refine wpAny_bind (whole_go (Heap.get?_push_of_some _ h87) (Heap.get?_push_of_some _ h86) ?_)
  refine wpAny_bind (drive_no hx ?_)
  dsimp only
  have hlist : (hp.push { cls := Value.type "list", data := Data.seq (List.toArray []) }).get? hp.objs.size = some (lstO [].toArray 0) := Heap.get?_push_size _ rfl
  have hkeep : ∀ b o, hp.get? b = some o → (hp.push { cls := Value.type "list", data := Data.seq (List.toArray []) }).get? b = some o := fun b o e => Heap.get?_push_of_some _ e
  generalize (hp.push { cls := Value.type "list", data := Data.seq (List.toArray []) }) = h1 at hlist hkeep ⊢
  have hsl : reSlice x.toArray 0 (Int.toNat 0) x.toArray.size = mkStr (S x) := by
    show mkStr ⟨x.toArray.extract 0 x.toArray.size⟩ = _
    rw [Array.extract_size]
  have hs0 : reSlice x.toArray 0 0 0 = mkStr (S []) := by
    show mkStr ⟨x.toArray.extract 0 0⟩ = _
    congr 2
    simp
  by_cases hx0 : x = []
  · rw [if_neg (by rw [hx0]; decide), hs0]
    refine wpAny_bind (wpAny_mkStr ?_ (by decide))
    refine wpAny_bind (wpAny_seqItems hlist rfl ?_)
    refine wpAny_bind (wpAny_pure (wpAny_pure ?_))
    rw [hx0] at q
    exact q _ _ _ hkeep
  · have hpos := List.length_pos_iff.mpr hx0
    rw [if_pos (by simpa using hpos), hsl]
    refine wpAny_bind (wpAny_mkStr ?_ (by rw [S_len, sizeLine_eq]; exact hl))
    refine wpAny_bind (wpAny_updateSeq hlist rfl ?_)
    have hl2 : (h1.update hp.objs.size (Obj.mapSeq fun y => y.push (.str (S x) tk))).get? hp.objs.size = some (lstO [.str (S x) tk].toArray 1) := by
      rw [Heap.get?_update_self _ hlist (by rw [Obj.mapSeq_push_plain]; rfl), Obj.mapSeq_push_plain]; rfl
    have hk2 : ∀ b o, hp.get? b = some o → (h1.update hp.objs.size (Obj.mapSeq fun y => y.push (.str (S x) tk))).get? b = some o := fun b o e => by
      have hne : b ≠ hp.objs.size := fun q => by rw [q] at e; exact absurd (Heap.lt_size e) (Nat.lt_irrefl _)
      exact ((Heap.SameBut.update ..).2 b hne).trans (hkeep b o e)
    generalize (h1.update hp.objs.size (Obj.mapSeq fun y => y.push (.str (S x) tk))) = h2 at hl2 hk2 ⊢
    rw [hs0]
    refine wpAny_bind (wpAny_mkStr ?_ (show (S []).length ≤ sizeLine by decide))
    refine wpAny_bind (wpAny_seqItems hl2 rfl ?_)
    refine wpAny_bind (join_list (ys := [S x]) (isList_of hl2) (.cons _ _ .nil) ?_ fun t' k' => ?_)
    · simp only [List.map_cons, List.map_nil, List.sum_cons, List.sum_nil, S_len, List.length_nil, Nat.mul_zero, Nat.add_zero]; exact hl
    · have e : Txt.join (S []) [S x] = S x := by
        have := join_S [] [x]
        rw [show ([x].map S) = [S x] from rfl] at this
        rw [this]; simp [joinN]
      rw [e]
      exact wpAny_pure (q _ _ _ hk2)
end
end Mine
namespace Mine
theorem meth_sub : Meth "re.Pattern" "sub" "re.Pattern.sub" := ⟨⟨⟨"object.__getattribute__", by rw [typeLookup_type, builtinLookup_eq_fast]; kernel_rfl, by decide +kernel⟩, by rw [typeLookup_type, builtinLookup_eq_fast]; kernel_rfl⟩, sub_slot, by show builtinType _ = _; rw [builtinType_eq_fast]; kernel_rfl⟩
variable {F : FS} {pos : Pos}
@[reducible] noncomputable def tSub (te : TE) : TE := fun k C Q σ => (∃ c, C.env.code = .ref c ∧ codeHdIn C.T.K c C.P = true) ∧ te k C (fun d σ1 => onStr d fun l => noM l = true ∧ l.length ≤ 16777216 ∧ Q (.str l) σ1) σ
theorem SemE.sub {x : Str} {xp apos lp : Pos} {params : Arguments} {body : Expr} {scope : Scope} {e : Expr} {te : TE} (G : nsIn F.T.K mainGlobals x = some (some (.ref 87))) (h87 : F.T.K.lookup 87 = some (patO 86)) (h86 : F.T.K.lookup 86 = some (tupO codeVs 0)) (hm : x ∈ F.gs)
    (hbase : ∀ env, attributeBase (.Name x xp) "sub" env (eval (.Name x xp) env) = eval (.Name x xp) env)
    (hs : ∀ env, starEach [.Lambda params body scope lp, e] env = (false, eval (.Lambda params body scope lp) env) :: starEach [e] env) (hs2 : ∀ env, starEach [e] env = (false, eval e env) :: starEach [] env) (hline : (apos.endLine == pos.line) = true)
    (hdef : ∀ env, defaultsOf params env = ([], [])) (hcl : ∀ env, closureFor scope env = pure []) (he : SemE F e te) : SemE F (.Call (.Attribute (.Name x xp) "sub" apos) [.Lambda params body scope lp, e] [] pos) (tSub te) := ⟨fun {k C} W {Q σ} q A z s hA hR => by
  obtain ⟨⟨c, hc, hh⟩, q⟩ := q
  have hsa : (starEach [.Lambda params body scope lp, e] C.env).any (·.1) = false := by rw [hs, hs2]; rfl
  refine wpAny_Call_method_lateS (hbase _) (meth_few _ _ hsa (by simp)) hline (name_glob hR (W.G x hm).1 (W.T ▸ G) ?_ (W.G x hm).2.1)
  have k87 : s.heap.get? 87 = some (patO 86) := hR.gd.k _ _ (W.T ▸ h87)
  refine ⟨"re.Pattern", "re.Pattern.sub", meth_sub.pa, meth_sub.slot, meth_sub.ty, ⟨_, k87, rfl⟩, fun a e => by cases e; exact ⟨_, k87, rfl⟩, Calls.callWith_builtin (starEach_any _ _ _ hsa) ?_⟩
  rw [bk (.Lambda params body scope lp) [e] C.env (hs _)]
  refine Calls.evalArgs_plain ?_
  rw [← bk (pos := pos) (.Lambda params body scope lp) [e] C.env (hs _)]
  refine wpAny_items_cons (kla_eval (hdef _) (lam_go hR hc hh (hcl _) fun f o z1 s1 hz1 hR1 hf1 hf2 => ?_)) (hs _)
  refine wpAny_items_cons ((he.h W q).go hA hR1 fun v s2 d σ2 z2 hz2 hR2 hd h2 => wpAny_items_nil ?_) (hs2 _)
  obtain ⟨l, rfl, h2⟩ := onStr.out h2
  refine hd.eStr fun t => sub_run (hR2.gd.k _ _ (W.T ▸ h87)) (hR2.gd.k _ _ (W.T ▸ h86)) ⟨o, hR2.frz _ _ (hz2 _ _ hf1), hf2⟩ h2.1 h2.2.1 fun t' h' tk hk => Post.le (hz1.trans hz2) (Post.grow (s' := { heap := h', gens := _, drawn := _, toks := tk, os := _ }) hR2 hk (.str l t') h2.2.2)⟩
end Mine
namespace Mine
open Builtin Builtin.Str StrLaws
variable {k : Nat} {C : FC} {σ : Mine.St} {pos : Pos}
theorem occ_full (x y : Str) (hi : Nat) : ∀ (l : List Nat) (st : Array Nat × Nat), 1 ≤ st.1.size → (forIn (m := Id) l st (occBody x y hi 1)).run.fst = st.1
  | [], st, _ => rfl
  | a :: l, st, h => by
    rw [List.forIn_cons]
    unfold occBody
    rw [if_neg (fun q => by have := q.1.1.1; lia)]
    exact occ_full x y hi l _ h
theorem occ_hit {x y : Str} {a hi : Nat} (h1 : a + y.length ≤ hi) (h2 : subAt x y a = true) : occurrences x y a hi 1 = [a] := by
  rw [occ_eq, show hi + 1 - a = (hi - a) + 1 by lia, List.range'_succ, List.forIn_cons]
  unfold occBody
  rw [if_pos ⟨⟨⟨by simp, Nat.le_refl _⟩, h1⟩, h2⟩]
  exact congrArg Array.toList (occ_full x y hi _ _ (by simp))
theorem occ_miss (x y : Str) (hi limit : Nat) : ∀ (l : List Nat) (st : Array Nat × Nat), (∀ i ∈ l, ¬ (i + y.length ≤ hi ∧ subAt x y i = true)) → (forIn (m := Id) l st (occBody x y hi limit)).run.fst = st.1
  | [], st, _ => rfl
  | a :: l, st, h => by
    rw [List.forIn_cons]
    unfold occBody
    rw [if_neg (fun q => h a (.head _) ⟨q.1.2, q.2⟩)]
    exact occ_miss x y hi limit l _ fun i hi => h i (.tail _ hi)
theorem occ_nil {x y : Str} {a hi limit : Nat} (h : ∀ i, a ≤ i → ¬ (i + y.length ≤ hi ∧ subAt x y i = true)) : occurrences x y a hi limit = [] := by
  rw [occ_eq]
  exact congrArg Array.toList (occ_miss x y hi limit _ _ fun i hi => h i (List.mem_range'_1.mp hi).1)
theorem subAt_one (x : List Nat) (c i : Nat) : subAt (S x) (S [c]) i = true ↔ x[i]? = some c := by
  unfold subAt
  rw [beq_iff_eq, show (S [c]).length = 1 from rfl]
  show x.toArray.extract i (i + 1) = #[c] ↔ _
  rw [← Array.toList_inj]
  simp only [Array.toList_extract, List.extract_eq_take_drop, Nat.add_sub_cancel_left]
  cases h : x.drop i with
  | nil => simp [List.drop_eq_nil_iff.mp h]
  | cons a r =>
    have : x[i]? = some a := by
      have := congrArg (fun l => l[0]?) h
      simpa using this
    rw [this]; simp
theorem gives_find4 (x y : Str) (a b : Nat) (t u v w : Tok) (hb : b ≤ x.length) : Gives («str.find» ⟨[.str x t, .str y u, .int (a : Int) v, .int (b : Int) w], []⟩) (.int (match occurrences x y a b 1 with | k :: _ => (k : Int) | [] => -1)) := by
  have e1 : fromIndex x.length (a : Int) = a := by unfold fromIndex; rw [if_neg (by lia)]; lia
  have e2 : min (fromIndex x.length (b : Int)) x.length = b := by unfold fromIndex; rw [if_neg (by lia)]; lia
  show Gives (match occurrences x y (fromIndex x.length (a : Int)) (min (fromIndex x.length (b : Int)) x.length) 1 with | k :: _ => retInt k | [] => (do rule "str.find.not-found"; retInt (-1))) _
  rw [e1, e2]
  cases occurrences x y a b 1 with
  | nil => exact .rule (.of_eq rfl)
  | cons k _ => exact .of_eq rfl
@[elab_as_elim] theorem Reps.e4 {z : FH} {d e g f : V} {vs : List Value} {m : List Value → Prop} (h : Reps z [d, e, g, f] vs) (q : ∀ v w x y, Rep z d v → Rep z e w → Rep z g x → Rep z f y → m [v, w, x, y]) : m vs := h.eCons (m := m) fun v zu a r => r.e3 (m := fun l => m (v :: l)) fun w x y b c e => q v w x y a b c e
theorem BltOK.find4 {x : List Nat} {c a b : Nat} {Q : V → Mine.St → Prop} (hc : x[a]? = some c) (hab : a < b) (hb : b ≤ x.length) (q : Q (.int (a : Int)) σ) : BltOK k C (.builtin "str.find") [.str x, .str [c], .int (a : Int), .int (b : Int)] Q σ := ⟨fun {A z s vs} hA hR hv => hv.e4 fun v w u y h1 h2 h3 h4 => h1.eStr fun zu => h2.eStr fun zu => h3.eInt fun zu => h4.eInt fun zu => by
  refine call_gives F.slot_str_find (typeIs_str _ _ _) F.entry_str_find (F.args_str_find_4 _ _ _ _) (gives_find4 (S x) (S [c]) a b _ _ _ _ (by rw [S_len]; exact hb)) ?_
  rw [occ_hit (by rw [show (S [c]).length = 1 from rfl]; lia) ((subAt_one x c a).mpr hc)]
  exact Post.val (hR.same rfl rfl rfl) (.int _ _) q⟩
theorem BltOK.find4n {x : List Nat} {c a b : Nat} {Q : V → Mine.St → Prop} (hab : b ≤ a) (hb : b ≤ x.length) (q : Q (.int (-1)) σ) : BltOK k C (.builtin "str.find") [.str x, .str [c], .int (a : Int), .int (b : Int)] Q σ := ⟨fun {A z s vs} hA hR hv => hv.e4 fun v w u y h1 h2 h3 h4 => h1.eStr fun zu => h2.eStr fun zu => h3.eInt fun zu => h4.eInt fun zu => by
  refine call_gives F.slot_str_find (typeIs_str _ _ _) F.entry_str_find (F.args_str_find_4 _ _ _ _) (gives_find4 (S x) (S [c]) a b _ _ _ _ (by rw [S_len]; exact hb)) ?_
  rw [occ_nil (fun i hi h => by have := h.1; rw [show (S [c]).length = 1 from rfl] at this; lia)]
  exact Post.val (hR.same rfl rfl rfl) (.int _ _) q⟩
theorem BltOK.replace0 {x y : List Nat} {c : Nat} {Q : V → Mine.St → Prop} (hc : c ∉ x) (q : Q (.str x) σ) : BltOK k C (.builtin "str.replace") [.str x, .str [c], .str y] Q σ := ⟨fun {A z s vs} hA hR hv => hv.e3 fun v w u h1 h2 h3 => h1.eStr fun zu => h2.eStr fun zu => h3.eStr fun zu => by
  have e : occurrences (S x) (S [c]) 0 (S x).length ((S x).length + 1) = [] := occ_nil fun i zu h => hc (List.mem_of_getElem? ((subAt_one x c i).mp h.2))
  refine call_gives F.slot_str_replace (typeIs_str _ _ _) F.entry_str_replace (F.args_str_replace_3 _ _ _) (gives_str_replace (S x) (S [c]) (S y) _ _ _ fun h => by rw [e] at h; cases h) ?_
  rw [e]
  exact Post.val hR (.str _ _) q⟩
end Mine
namespace Mine
section
variable {prog : Program} {w : World} {A : Around} {E : Value → Shared → Prop} {s : Shared}
theorem setItem_at {l : Addr} {vs : List Value} {n : Nat} {j : Nat} {t : Tok} {v : Value} {Q : Unit → Shared → Prop} (ho : s.heap.get? l = some (lstO vs.toArray n)) (hn : j < vs.length) (hs : vs.length ≤ 16777216)
    (hQ : ∀ h' n', h'.get? l = some (lstO (vs.set j v).toArray n') → Heap.SameBut l s.heap h' → Q () { s with heap := h' }) : wpAny (model prog w) A (setItem (.ref l) (.int (j : Int) t) v) Q E s :=
  ki_setAt (n := n) ho (Int.natCast_nonneg j) (by lia) (by simpa using hn) (by
    have hm : Obj.mapSeq (·.setIfInBounds (j : Int).toNat v) (lstO vs.toArray n) = lstO (vs.set j v).toArray (if (vs.toArray.setIfInBounds j v).size == vs.toArray.size then n else n + 1) := by
      rw [← List.setIfInBounds_toArray]; rfl
    exact hQ _ _ ((Heap.get?_update_self _ ho (by rw [hm]; rfl)).trans (congrArg some hm)) (Heap.SameBut.update ..))
end
variable {F : FS} {pos : Pos}
structure SetOK (k : Nat) (C : FC) (a i d : V) (Q : Mine.St → Prop) (σ : Mine.St) : Prop where
  h : ∃ (b : Addr) (j : Nat) (xs : List V), a = .mut b ∧ i = .int j ∧ memGet σ.mem b = some xs ∧ j < xs.length ∧ xs.length ≤ 16777216 ∧ Q { σ with mem := memSet σ.mem b (xs.set j d) }
@[reducible] noncomputable def tsSet (e o i : TE) : TS := fun k C Q σ => e k C (fun d σ1 => o k C (fun a σ2 => i k C (fun j σ3 => SetOK k C a j d (Q .next) σ3) σ2) σ1) σ
theorem SemS.setI {o i e : Expr} {sp : Pos} {te to ti : TE} (hs : ∀ env, swapsWith e (some (.Subscript o i sp)) pos.line env = pure false) (he : SemE F e te) (ho : SemE F o to) (hi : SemE F i ti) : SemS F (.Assign [.Subscript o i sp] e pos) (tsSet te to ti) := ⟨fun {k C} W {Q σ} q A z s hA hR =>
  wpAny_Assign_Subscript ((he.h W q).go hA hR fun v s1 d σ1 z1 hz1 hR1 hd h1 => (ho.h W h1).go hA hR1 fun vo s2 a σ2 z2 hz2 hR2 ha h2 => (hi.h W h2).go hA hR2 fun vi s3 j σ3 z3 hz3 hR3 hj h3 => by
    obtain ⟨b, jj, xs, rfl, rfl, hx, hjl, hl, hq⟩ := h3.h
    refine (ha.mono hz3).eMut ?_
    refine hj.eInt fun t => ?_
    obtain ⟨q1, q2, q3, vs, n, q4, q5⟩ := hR3.mem _ _ (memGet_mem hx)
    refine setItem_at q4 (q5.length ▸ hjl) (q5.length ▸ hl) fun h' n' e1 e2 => ?_
    exact ⟨.next, _, z3, (hz1.trans hz2).trans hz3, hR3.upd hx (q5.set jj (hd.mono (hz2.trans hz3))) e1 e2 rfl rfl, .next, hq⟩) (hs _)⟩
structure DelOK (k : Nat) (C : FC) (a i : V) (Q : Mine.St → Prop) (σ : Mine.St) : Prop where
  h : ∃ (b : Addr) (j : Nat) (xs : List V), a = .mut b ∧ i = .int j ∧ memGet σ.mem b = some xs ∧ j < xs.length ∧ xs.length ≤ 16777216 ∧ Q { σ with mem := memSet σ.mem b (xs.eraseIdx j) }
@[reducible] noncomputable def tsDel (o i : TE) : TS := fun k C Q σ => o k C (fun a σ1 => i k C (fun j σ2 => DelOK k C a j (Q .next) σ2) σ1) σ
theorem SemS.delI {o i : Expr} {sp : Pos} {to ti : TE} (ho : SemE F o to) (hi : SemE F i ti) : SemS F (.Delete [.Subscript o i sp] pos) (tsDel to ti) := ⟨fun {k C} W {Q σ} q A z s hA hR =>
  wpAny_Delete (wpAny_deleteEach_cons (delete_Subscript ((ho.h W q).go hA hR fun vo s2 a σ2 z2 hz2 hR2 ha h2 => (hi.h W h2).go hA hR2 fun vi s3 j σ3 z3 hz3 hR3 hj h3 => by
    obtain ⟨b, jj, xs, rfl, rfl, hx, hjl, hl, hq⟩ := h3.h
    refine (ha.mono hz3).eMut ?_
    refine hj.eInt fun t => ?_
    obtain ⟨q1, q2, q3, vs, n, q4, q5⟩ := hR3.mem _ _ (memGet_mem hx)
    have hvl : vs.length = xs.length := q5.length.symm
    refine delItem_at q4 (fitsIndex_of (by lia) (by lia)) (k := jj) (by rw [seqI (n := vs.toArray.size) (by rw [List.size_toArray]; lia), if_neg (by lia)]; rfl) (fun h' e1 e2 => wpAny_deleteEach_nil ?_) (by rw [sizeLine_eq, List.size_toArray]; lia)
    exact ⟨.next, _, z3, hz2.trans hz3, hR3.upd hx (q5.erase jj) e2 e1 rfl rfl, .next, hq⟩)))⟩
end Mine
namespace Mine
open Builtin Builtin.Str
section
variable {prog : Program} {w : World} {A : Around} {E : Value → Shared → Prop} {s : Shared} {env : Env}
theorem keeps_tok (s : Shared) (tk : Nat) : Keeps s { s with toks := tk } := ⟨s.heap, tk, rfl, fun zu zu e => e⟩
theorem keeps_tr {a b c : Shared} (h : Keeps a b) (h' : Keeps b c) : Keeps a c := by
  obtain ⟨h1, t1, rfl, k1⟩ := h
  obtain ⟨h2, t2, rfl, k2⟩ := h'
  exact ⟨h2, t2, rfl, fun b o e => k2 b o (k1 b o e)⟩
theorem rep_go {o : Expr} {apos pos p1 p2 : Pos} {y1 y2 : Str} {k1 k2 : Nat} {x : List Nat} {c : Nat} {s0 : Shared} (hy : y1 = S [c]) (hc : c ∉ x) (hbase : attributeBase o "replace" env (eval o env) = eval o env) (hline : (apos.endLine == pos.line) = true)
    (h : wpAny (model prog w) A (eval o env) (fun v s1 => (∃ t, v = .str (S x) t) ∧ Keeps s0 s1) E s) :
    wpAny (model prog w) A (eval (.Call (.Attribute o "replace" apos) [.Constant (.str y1) k1 p1, .Constant (.str y2) k2 p2] [] pos) env) (fun v s1 => (∃ t, v = .str (S x) t) ∧ Keeps s0 s1) E s := by
  subst hy
  refine wpAny_Call_method_lateS hbase rfl hline (wpAny_mono h ?_ fun zu zu e => e)
  rintro v s1 ⟨⟨t, rfl⟩, hk⟩
  refine ⟨"str", "str.replace", meth_replace.pa, meth_replace.slot, meth_replace.ty, rfl, (fun a e => by cases e), Calls.callWith_builtin rfl ?_⟩
  refine Calls.evalArgs_plain (wpAny_items_cons (wpAny_Constant_str (wpAny_items_cons (wpAny_Constant_str (wpAny_items_nil ?_)))))
  have e : occurrences (S x) (S [c]) 0 (S x).length ((S x).length + 1) = [] := occ_nil fun i zu h => hc (List.mem_of_getElem? ((subAt_one x c i).mp h.2))
  refine call_gives F.slot_str_replace (typeIs_str _ _ _) F.entry_str_replace (F.args_str_replace_3 _ _ _) (gives_str_replace (S x) (S [c]) y2 _ _ _ fun h => by rw [e] at h; cases h) ?_
  rw [e]
  exact ⟨⟨_, rfl⟩, keeps_tr hk (keeps_tok s1 (s1.toks + 1 + 1))⟩
end

theorem passing_all (n : Nat) : passing (fun zu => true) n 0 = List.range n := by unfold passing; rw [List.drop_zero]; exact List.filter_eq_self.mpr fun zu zu => rfl
noncomputable def Joins1 (C : FC) (A : Around) (z : FH) (σ : Mine.St) (xs : List (List Nat)) (a : Addr) (s : Shared) : Prop :=
  ∀ (sep : Str) (t : Tok) (Q : Value → Shared → Prop) (E : Value → Shared → Prop), JoinOk sep (xs.map S) = true → (∀ t' s', Rel C z σ s' → Q (.str (Txt.join sep (xs.map S)) t') s') → wpAny (Mo C) A (call (.builtin "str.join") [.str sep t, .ref a]) Q E s
theorem gen_go {C : FC} {A : Around} {s : Shared} {Q : Value → Shared → Prop} {elt iter : Expr} {x : Str} {px pos : Pos} {scope : Scope} {c : Addr} (hA : A.handled = none) (hroom : A.depth < recursionLimit) (hc : C.env.code = .ref c) (hh : codeHdIn C.T.K c C.P = true)
    (hco : scope.isCoroutine = false) (hclos : closureFor scope C.env = pure []) (hcell : ∀ y ∈ scope.names, y.2 ≠ .cell) (h0 : scope.names.lookup (".0" : Str) = some NameKind.local)
    (hx : scope.names.lookup x = some .local) (hkind : scope.kind = .function) (hs : ∀ x, genFold iter C.env x = pure x)
    (h : wpAny (Mo C) A (eval iter C.env) (fun v s1 => ∃ z1 σ1 l items n, ∃ xs : List (List Nat), v = .ref l ∧ Rel C z1 σ1 s1 ∧ s1.heap.get? l = some (lstO (List.toArray items) n) ∧ StrsAre items (xs.map S) ∧ items.length ≤ 16777216 ∧
      (∀ (L : Addr) (code : Value) (A' : Around) (E' : Value → Shared → Prop) (y : List Nat) (t : Tok) (s2 : Shared) (m2 : Str → Option Value), y ∈ xs → s2.heap.Ns L m2 → m2 x = some (.str (S y) t) →
        wpAny (Mo C) A' (eval elt (genEnv scope [] L code builtinsNs C.env)) (fun v s3 => (∃ t, v = .str (S y) t) ∧ Keeps s2 s3) E' s2) ∧
      ∀ a s5, Rel C z1 σ1 s5 → Joins1 C A z1 σ1 xs a s5 → Q (.ref a) s5) NoE s) :
    wpAny (Mo C) A (eval (.GeneratorExp elt [⟨.Name x px, iter, [], 0⟩] scope pos) C.env) Q NoE s := by
  refine wpAny_GeneratorExp_walksQ hA hco hclos hcell h0 hx hkind hroom (wpAny_mono h ?_ fun zu zu e => e) hs
  rintro v s1 ⟨z1, σ1, l, items, n, xs, rfl, hR, hl, hi, hsz, helt, q⟩
  have hlt : l < s1.heap.objs.size := Heap.lt_size hl
  refine wpAny_pyIter_list (isList_of hl) ?_
  have hR2 : Rel C z1 σ1 { s1 with heap := s1.heap.push { cls := .type "list_iterator", data := .fields #[.ref l, .int 0 0] } } := hR.junk rfl rfl rfl
  have hk2 : ∀ b o, s1.heap.get? b = some o → (s1.heap.push { cls := .type "list_iterator", data := .fields #[.ref l, .int 0 0] }).get? b = some o := fun b o e => Heap.get?_push_of_some _ e
  have hI2 : (s1.heap.push { cls := .type "list_iterator", data := .fields #[.ref l, .int 0 0] }).get? s1.heap.objs.size = some { cls := .type "list_iterator", data := .fields #[.ref l, .int 0 0] } := Heap.get?_push_size _ rfl
  have hz2 : (s1.heap.push { cls := .type "list_iterator", data := .fields #[.ref l, .int 0 0] }).objs.size = s1.heap.objs.size + 1 := Heap.size_push ..
  generalize s1.heap.push { cls := .type "list_iterator", data := .fields #[.ref l, .int 0 0] } = h2 at hR2 hk2 hI2 hz2 ⊢
  refine ⟨hR2.gd.lim, ?_⟩
  have go : ∀ (code : Value) (h3 : Heap) (tk : Tok), Rel C z1 σ1 { s1 with heap := h3, toks := tk } → Heap.ExtBut C.P h2 h3 → h2.objs.size ≤ h3.objs.size →
      wpAny (Mo C) A (builtinsFor C.env.globals C.env.builtins) (fun bi s₄ =>
        ∃ I fp wr n₀ P St₀ pz F, Value.ref s1.heap.objs.size = .ref I ∧ (∀ A' : Around, A'.handled = none → Walks C.T.prog C.T.w A' I fp wr n₀ P St₀) ∧ St₀ 0 s₄.heap ∧ (∀ b ∈ fp, b < s₄.heap.objs.size) ∧ s₄.heap.NoLimit ∧ cStatics ∉ wr ∧
          (∀ href : Heap, (∀ b o, s₄.heap.get? b = some o → href.get? b = some o) →
            QuietGen C.T.prog C.T.w (genEnv scope [] s₄.heap.objs.size code bi C.env) x [] elt (List.range s₄.heap.objs.size) wr P pz F href) ∧
          (∀ a h₅ tk gs, gs.bare = true → s₄.heap.objs.size < a → h₅.objs.size = a + 1 → (∀ b o, s₄.heap.get? b = some o → h₅.get? b = some o) →
            WalksS C.T.prog C.T.w A.in4 a (a :: s₄.heap.objs.size :: List.range s₄.heap.objs.size) (s₄.heap.objs.size :: wr) (GenOnlyQ s₄.gens.size) (passing pz n₀ 0).length
              (fun j y => ∃ i, (passing pz n₀ 0)[j]? = some i ∧ F i y) (GenAt C.T.prog C.T.w A.in4 a s₄.gens.size s₄.heap.objs.size (List.range s₄.heap.objs.size) wr pz n₀ F) →
            GenAt C.T.prog C.T.w A.in4 a s₄.gens.size s₄.heap.objs.size (List.range s₄.heap.objs.size) wr pz n₀ F 0 { s₄ with gens := s₄.gens.push gs, toks := tk, heap := h₅ } →
            Q (.ref a) { s₄ with gens := s₄.gens.push gs, toks := tk, heap := h₅ })) NoE { s1 with heap := h3, toks := tk } := by
    intro code h3 tk hR3 hx3 hsz3
    obtain ⟨bm, ob, b1, b2, b3, b4, b5, b6⟩ := hR3.gd.bm
    obtain ⟨ps0, hP0, _⟩ := hR.tab
    have hPlt := Heap.lt_size hP0
    have hlP : l ≠ C.P := fun e => by rw [e, hP0] at hl; cases hl
    have hI3 := hx3 _ _ (Nat.ne_of_gt hPlt) hI2
    have hl3 := hx3 _ _ hlP (hk2 _ _ hl)
    have hclt : cStatics < s1.heap.objs.size := let ⟨_, hn, _⟩ := hR.gd.lim; hn.lt
    have hlen := hi.length
    rw [List.length_map] at hlen
    have hat : ∀ (i : Nat) (v : Value), items.toArray[i]? = some v → xs.getD i [] ∈ xs ∧ ∃ t, v = .str (S (xs.getD i [])) t := fun i v e => by
      rw [List.getElem?_toArray] at e
      have hlt : i < xs.length := by rw [← hlen]; exact (List.getElem?_eq_some_iff.mp e).1
      obtain ⟨t, ht⟩ := hi.get i (S xs[i]) (by rw [List.getElem?_map, List.getElem?_eq_getElem hlt]; rfl)
      rw [e] at ht
      have hx : xs.getD i [] = xs[i] := by rw [List.getD_eq_getElem?_getD, List.getElem?_eq_getElem hlt]; rfl
      rw [hx]
      exact ⟨List.getElem_mem hlt, t, Option.some.inj ht⟩
    refine wpAny_builtinsFor (by rw [hR3.ok.gl]; exact hR3.gd.g) b1 b2 b3 b4 b5 b6 ?_
    refine ⟨s1.heap.objs.size, [s1.heap.objs.size, l], [s1.heap.objs.size], items.toArray.size, _, _, fun zu => true, fun i v => ∃ t, v = .str (S (xs.getD i [])) t, rfl,
      fun A' hA' => Walks.list hA' _ _ (Nat.ne_of_lt hlt) items.toArray, ⟨⟨_, hI3, rfl, rfl⟩, isList_of hl3⟩, ?_, hR3.gd.lim, ?_, fun href hhref => ⟨fun A' E' i v s2 m2 zu zu zu zu zu => wpAny_pure ⟨rfl, keeps_tok s2 s2.toks⟩, fun A' E' i v s2 m2 zu hPi zu hn hm zu => ?_⟩, fun a h5 tk5 gs hgb hag hsz5 hk5 W hat5 => ?_⟩
    · intro b hb
      rcases List.mem_cons.mp hb with rfl | hb
      · exact Heap.lt_size hI3
      · rw [List.mem_singleton.mp hb]; exact Heap.lt_size hl3
    · intro hm
      rw [List.mem_singleton.mp hm] at hclt
      exact Nat.lt_irrefl _ hclt
    · obtain ⟨hmem, t, rfl⟩ := hat i v hPi
      exact helt _ code A' E' _ t s2 m2 hmem hn hm
    · have hR5 : Rel C z1 σ1 { s1 with gens := s1.gens.push gs, toks := tk5, heap := h5 } :=
        hR3.ext (s' := { s1 with gens := s1.gens.push gs, toks := tk5, heap := h5 }) (fun a o zu e => hk5 a o e) (.refl z1) (fun a o e => hk5 _ _ (hR3.frz _ _ e)) (fun a o e => .inl e) (hR3.tab.keeps hk5) (AllBare.push hR3.bare hgb) rfl
      refine q a _ hR5 fun sep t Q' E' hok hq => ?_
      rw [passing_all] at W
      have hn : (List.range items.toArray.size).length = xs.length := by rw [List.length_range, List.size_toArray, hlen]
      refine SC.joinGen (W.in4_2) (fun i s' st => st.1.typeIs) hat5 ?_ (List.mem_cons_self) (fun j v hv => let ⟨i, _, t, e⟩ := hv; ⟨_, t, e⟩) (fun s' lt hm hacc => ?_) (by rw [hn, sizeLine_eq]; lia)
      · intro b hb
        show b < h5.objs.size
        rw [hsz5]
        have hag' : h3.objs.size < a := hag
        rcases List.mem_cons.mp hb with rfl | hb
        · exact Nat.lt_succ_self _
        · rcases List.mem_cons.mp hb with rfl | hb
          · exact Nat.lt_succ_of_lt hag'
          · exact Nat.lt_succ_of_lt (Nat.lt_trans (List.mem_range.mp hb) hag')
      · have hll : lt.length = xs.length := by have := hacc.1; rw [hn] at this; simpa [strValues] using this
        have hlt : lt.map (·.1) = xs.map S := by
          refine List.ext_getElem (by rw [List.length_map, List.length_map, hll]) fun j h1 h2 => ?_
          have hj : j < lt.length := by rwa [List.length_map] at h1
          obtain ⟨i, hi1, t, e⟩ := hacc.2 j (.str lt[j].1 lt[j].2) (by simp [strValues, List.getElem?_eq_getElem hj])
          obtain ⟨hi2, hi3⟩ := List.getElem?_eq_some_iff.mp hi1
          rw [List.getElem_range] at hi3
          subst hi3
          injection e with e1 _
          rw [List.getElem_map, List.getElem_map, e1, List.getD_eq_getElem?_getD, List.getElem?_eq_getElem (hll ▸ hj)]; rfl
        rw [hlt]
        refine ⟨hok, fun t' k => hq t' _ ?_⟩
        have hold : ∀ a o, s1.heap.get? a = some o → a ∉ [h3.objs.size, s1.heap.objs.size] := fun a o e hm => by
          have h1 := Heap.lt_size e
          rcases List.mem_cons.mp hm with q | hm
          · exact Nat.lt_irrefl _ (Nat.lt_of_lt_of_le (q ▸ h1) (Nat.le_trans (Nat.le_succ _) (Nat.le_trans (Nat.le_of_eq hz2.symm) hsz3)))
          · exact Nat.lt_irrefl _ (List.mem_singleton.mp hm ▸ h1)
        have hkk : ∀ a o, a ≠ C.P → s1.heap.get? a = some o → s'.heap.get? a = some o := fun a o ha e => hm.heap a o (hold a o e) (hk5 _ _ (hx3 _ _ ha (hk2 _ _ e)))
        have hne : ∀ a o, z1 a = some o → a ≠ C.P := fun a o e q => by rw [q, hR.zP] at e; cases e
        refine hR.ext (s' := { s' with toks := k }) hkk (.refl z1) (fun a o e => hkk _ _ (hne _ _ e) (hR.frz _ _ e)) (fun a o e => .inl e) ?_ (AllBare.movedS (s' := s') hR5.bare hm) hm.os
        obtain ⟨ps, hP5, ht5⟩ := hR5.tab
        exact ⟨ps, hm.heap _ _ (hold _ _ hP0) hP5, ht5⟩
  obtain ⟨ps, hP, ht⟩ := hR2.tab
  have hhd := codeHd_of_K hR2.gd.k hh
  cases hf : codeAmong pos ps.toList with
  | some cv => exact wpAny_genexprCode_hit hc (hhd.code hP ht) hf (go cv h2 s1.toks hR2 (Heap.ExtBut.refl _ _) (Nat.le_refl _))
  | none =>
    refine wpAny_genexprCodeX hc (hhd.code hP ht) (hhd.tab hP) hf fun c' h3 tk hx3 hge hlt3 hcode hrec htab zu => go (.ref c') h3 tk ?_ hx3 (Nat.le_trans hge (Nat.le_of_lt hlt3))
    have hne : ∀ a o, z1 a = some o → a ≠ C.P := fun a o e q => by rw [q, hR2.zP] at e; cases e
    exact hR2.ext (s' := { s1 with heap := h3, toks := tk }) (fun a o ha e => hx3 a o ha e) (.refl z1) (fun a o e => hx3 _ _ (hne _ _ e) (hR2.frz _ _ e)) (fun a o e => .inl e) ⟨_, htab.2, by rw [Array.toList_append]; exact TriplesOk_snoc _ _ _ _ ht⟩ hR2.bare rfl
variable {F : FS} {pos : Pos}
structure GenJ (sep : List Nat) (d : V) (Q : V → Mine.St → Prop) (σ : Mine.St) : Prop where
  h : ∃ xs : List (List Nat), lst? σ d = some (xs.map V.str) ∧ (∀ y ∈ xs, 92 ∉ y ∧ 45 ∉ y) ∧ (xs.map (·.length)).sum + xs.length * sep.length ≤ 16777216 ∧ xs.length ≤ 16777216 ∧ Q (.str (joinN sep xs)) σ
@[reducible] noncomputable def tGenJ (sep : List Nat) (ti : TE) : TE := fun k C Q σ => (∃ c, C.env.code = .ref c ∧ codeHdIn C.T.K c C.P = true) ∧ ti k C (fun d σ1 => GenJ sep d Q σ1) σ
theorem SemE.genJ {sep : List Nat} {ysep y1 y2 y3 y4 x : Str} {kk k1 k2 k3 k4 : Nat} {cp p1 p2 p3 p4 p5 p6 ap0 ap1 ap2 xp px gp : Pos} {iter : Expr} {scope : Scope} {ti : TE}
    (e0 : ysep = S sep) (e1 : y1 = S [92]) (e3 : y3 = S [45]) (hl0 : (ap0.endLine == pos.line) = true) (hl1 : (ap1.endLine == p3.line) = true) (hl2 : (ap2.endLine == p6.line) = true)
    (hbase : ∀ env, attributeBase (.Constant (.str ysep) kk cp) "join" env (eval (.Constant (.str ysep) kk cp) env) = eval (.Constant (.str ysep) kk cp) env)
    (hb1 : ∀ env, attributeBase (.Name x xp) "replace" env (eval (.Name x xp) env) = eval (.Name x xp) env)
    (hb2 : ∀ env, attributeBase (.Call (.Attribute (.Name x xp) "replace" ap1) [.Constant (.str y1) k1 p1, .Constant (.str y2) k2 p2] [] p3) "replace" env (eval (.Call (.Attribute (.Name x xp) "replace" ap1) [.Constant (.str y1) k1 p1, .Constant (.str y2) k2 p2] [] p3) env) = eval (.Call (.Attribute (.Name x xp) "replace" ap1) [.Constant (.str y1) k1 p1, .Constant (.str y2) k2 p2] [] p3) env)
    (hco : scope.isCoroutine = false) (hclos : ∀ env, closureFor scope env = pure []) (hcell : (scope.names.all fun y => decide (y.2 ≠ .cell)) = true) (h0 : scope.names.lookup (".0" : Str) = some NameKind.local)
    (hx : scope.names.lookup x = some .local) (hdb : (x == ("__debug__" : Str)) = false) (hkind : scope.kind = .function) (hs : ∀ env x, genFold iter env x = pure x) (hi : SemE F iter ti) :
    SemE F (.Call (.Attribute (.Constant (.str ysep) kk cp) "join" ap0) [.GeneratorExp (.Call (.Attribute (.Call (.Attribute (.Name x xp) "replace" ap1) [.Constant (.str y1) k1 p1, .Constant (.str y2) k2 p2] [] p3) "replace" ap2) [.Constant (.str y3) k3 p4, .Constant (.str y4) k4 p5] [] p6) [⟨.Name x px, iter, [], 0⟩] scope gp] [] pos) (tGenJ sep ti) := ⟨fun {k C} W {Q σ} q A z s hA hR => by
  obtain ⟨⟨c, hc, hh⟩, q⟩ := q
  subst e0
  refine wpAny_Call_method_lateS (hbase _) rfl hl0 (wpAny_Constant_str ?_)
  refine ⟨"str", "str.join", meth_join.pa, meth_join.slot, meth_join.ty, rfl, (fun a e => by cases e), Calls.callWith_builtin rfl ?_⟩
  refine Calls.evalArgs_plain (wpAny_items_cons (gen_go hA.h (by have := hA.d; lia) hc hh hco (hclos _) (fun y hy => of_decide_eq_true (List.all_eq_true.mp hcell y hy)) h0 hx hkind (hs _) ?_))
  have hR0 : Rel C z σ { s with toks := s.toks + 1 } := hR.same rfl rfl rfl
  refine (hi.h W q).go hA hR0 ?_
  intro v s1 d σ1 z1 hz1 hR1 hd h1
  obtain ⟨xs, h2, h3, h4, h5, h6⟩ := h1.h
  refine lst_e hR1 hd h2 fun l items n hl hr => ?_
  refine ⟨z1, σ1, l, items, n, xs, rfl, hR1, hl, strs_of hr, by have := hr.length; rw [List.length_map] at this; lia, fun L code A' E' y t s2 m2 hy hn hm => ?_, fun a s5 hR5 hj => wpAny_items_nil (hj _ _ _ _ (joinOk_of (by rw [sum_S, List.length_map, S_len]; exact h4)) fun t' s' hR' => ?_)⟩
  · refine rep_go e3 (h3 y hy).2 (hb2 _) hl2 (rep_go e1 (h3 y hy).1 (hb1 _) hl1 ?_)
    exact wpAny_Name (wpAny_loadName_local hkind hx hn hm ⟨⟨t, rfl⟩, keeps_tok s2 s2.toks⟩) hdb
  · rw [join_S]
    exact ⟨_, σ1, z1, hz1, hR', .str _ _, h6⟩⟩
end Mine
namespace Mine
open Builtin Builtin.Str StrLaws
noncomputable def occL : Nat → List Nat → List Nat
  | a, 61 :: 10 :: r => a :: occL (a + 2) r
  | a, _ :: r => occL (a + 1) r
  | _, [] => []
noncomputable def rep2 : List Nat → List Nat
  | 61 :: 10 :: r => rep2 r
  | c :: r => c :: rep2 r
  | [] => []
theorem occL_cons (a c : Nat) (r : List Nat) (h : ∀ t, c :: r ≠ 61 :: 10 :: t) : occL a (c :: r) = occL (a + 1) r := by
  rw [occL]
  rintro t rfl rfl
  exact h t rfl
theorem rep2_cons (c : Nat) (r : List Nat) (h : ∀ t, c :: r ≠ 61 :: 10 :: t) : rep2 (c :: r) = c :: rep2 r := by
  rw [rep2]
  rintro t rfl rfl
  exact h t rfl
theorem subAt_two (x : List Nat) (i : Nat) : subAt (S x) (S [61, 10]) i = true ↔ ∃ r, x.drop i = 61 :: 10 :: r := by
  unfold subAt
  rw [beq_iff_eq, show (S [61, 10]).length = 2 from rfl]
  show x.toArray.extract i (i + 2) = #[61, 10] ↔ _
  rw [← Array.toList_inj]
  simp only [Array.toList_extract, List.extract_eq_take_drop, Nat.add_sub_cancel_left]
  cases x.drop i with
  | nil => simp
  | cons a r => cases r <;> simp
theorem occ_two (x : List Nat) : ∀ (n a : Nat) (fnd : Array Nat) (free : Nat), free ≤ a → a + n = x.length + 1 → fnd.size ≤ a →
    (forIn (m := Id) (List.range' a n) (fnd, free) (occBody (S x) (S [61, 10]) x.length (x.length + 1))).run.fst.toList = fnd.toList ++ occL a (x.drop a) := fun n => by
  induction n using Nat.strongRecOn with
  | ind n ih =>
    intro a fnd free hf hn hs
    cases n with
    | zero => rw [List.drop_of_length_le (by lia)]; simp [occL]
    | succ n =>
      rw [List.range'_succ, List.forIn_cons]
      by_cases hc : ∃ r, x.drop a = 61 :: 10 :: r
      · obtain ⟨r, hr⟩ := hc
        have hl := congrArg List.length hr
        simp only [List.length_drop, List.length_cons] at hl
        obtain ⟨m, rfl⟩ : ∃ m, n = m + 1 := ⟨n - 1, by lia⟩
        unfold occBody
        rw [if_pos ⟨⟨⟨by simp; lia, hf⟩, by show a + 2 ≤ _; lia⟩, (subAt_two x a).mpr ⟨r, hr⟩⟩]
        show (forIn (m := Id) (List.range' (a + 1) (m + 1)) (fnd.push a, a + 2) (occBody (S x) (S [61, 10]) x.length (x.length + 1))).run.fst.toList = _
        rw [List.range'_succ, List.forIn_cons]
        unfold occBody
        rw [if_neg (fun q => by have : a + 2 ≤ a + 1 := q.1.1.2; lia)]
        have := ih m (by lia) (a + 1 + 1) (fnd.push a) (a + 2) (by lia) (by lia) (by simp; lia)
        refine this.trans ?_
        rw [hr, show a + 1 + 1 = a + 2 from rfl, ← List.drop_drop, hr]
        simp [occL]
      · unfold occBody
        rw [if_neg (fun q => hc ((subAt_two x a).mp q.2))]
        refine (ih n (by lia) (a + 1) fnd free (by lia) (by lia) (by lia)).trans ?_
        cases hd : x.drop a with
        | nil => rw [← List.drop_drop, hd]; rfl
        | cons c r => rw [← List.drop_drop, hd, occL_cons _ _ _ (fun t e => hc ⟨t, hd.trans e⟩)]; rfl
theorem glued_nil (p : Str) (ps : List Str) : (glued (S []) (p :: ps)).cps.toList = p.cps.toList ++ ps.flatMap (·.cps.toList) := by
  unfold glued
  show (ps.foldl (fun acc p => acc ++ #[] ++ p.cps) p.cps).toList = _
  generalize p.cps = a
  induction ps generalizing a with
  | nil => simp
  | cons q r ih => rw [List.foldl_cons, ih]; simp
theorem parts_two (x : List Nat) : ∀ (n : Nat) (l : List Nat) (s0 a : Nat), l.length = n → s0 ≤ a → x.drop a = l → a ≤ x.length → (partsFrom (S x) 2 s0 (occL a l)).flatMap (·.cps.toList) = (x.drop s0).take (a - s0) ++ rep2 l := fun n => by
  have sub : ∀ i j, (strSub (S x) i j).cps.toList = (x.drop i).take (j - i) := fun i j => by
    unfold strSub; show (x.toArray.extract i j).toList = _; simp [List.extract_eq_take_drop]
  induction n using Nat.strongRecOn with
  | ind n ih =>
    intro l s0 a hn h1 h2 h3
    have hxl := congrArg List.length h2
    rw [List.length_drop] at hxl
    by_cases hc : ∃ r, l = 61 :: 10 :: r
    · obtain ⟨r, rfl⟩ := hc
      simp only [List.length_cons] at hn hxl
      show (strSub (S x) s0 a).cps.toList ++ (partsFrom (S x) 2 (a + 2) (occL (a + 2) r)).flatMap (·.cps.toList) = _
      rw [ih r.length (by lia) r (a + 2) (a + 2) rfl (Nat.le_refl _) (by rw [← List.drop_drop, h2]; rfl) (by lia), sub, Nat.sub_self]
      rfl
    · cases l with
      | nil =>
        show (strSub (S x) s0 (S x).length).cps.toList ++ [] = _
        rw [sub, List.append_nil, show (S x).length = x.length from rfl, show rep2 [] = [] from rfl, List.append_nil, show x.length = a by simp only [List.length_nil] at hxl; lia]
      | cons c r =>
        simp only [List.length_cons] at hn hxl
        have ha : x[a]? = some c := by have := congrArg (·[0]?) h2; simpa using this
        rw [occL_cons _ _ _ (fun t e => hc ⟨t, e⟩), rep2_cons _ _ (fun t e => hc ⟨t, e⟩), ih r.length (by lia) r s0 (a + 1) rfl (by lia) (by rw [← List.drop_drop, h2]; rfl) (by lia),
          show a + 1 - s0 = (a - s0) + 1 by lia, List.take_add_one, List.getElem?_drop, show s0 + (a - s0) = a by lia, ha]
        simp
theorem replace_two (x : List Nat) : Txt.replace (S x) (S [61, 10]) (S []) = S (rep2 x) := by
  have e : occurrences (S x) (S [61, 10]) 0 (S x).length ((S x).length + 1) = occL 0 x := by
    rw [occ_eq]
    have := occ_two x (x.length + 1) 0 #[] 0 (Nat.le_refl _) (Nat.zero_add _) (Nat.le_refl _)
    exact this
  have p := parts_two x x.length x 0 0 rfl (Nat.le_refl _) rfl (Nat.zero_le _)
  rw [Nat.sub_self, List.take_zero, List.nil_append] at p
  unfold Txt.replace
  rw [e]
  cases ho : occL 0 x with
  | nil =>
    rw [ho] at p
    have : (strSub (S x) 0 (S x).length).cps.toList = x := by unfold strSub; show (x.toArray.extract 0 x.length).toList = _; simp
    change (strSub (S x) 0 (S x).length).cps.toList ++ [] = _ at p
    rw [List.append_nil, this] at p
    exact congrArg S p
  | cons a r =>
    rw [if_neg (by simp; intro h; cases h), ← ho, partsBetween_eq, show (S [61, 10]).length = 2 from rfl]
    obtain ⟨q, qs, hq⟩ := partsFrom_ne (S x) 2 0 (occL 0 x)
    rw [hq] at p ⊢
    have := glued_nil q qs
    rw [show q.cps.toList ++ qs.flatMap (·.cps.toList) = (q :: qs).flatMap (·.cps.toList) from rfl, p] at this
    generalize glued (S []) (q :: qs) = g at this
    obtain ⟨g⟩ := g
    show (⟨g⟩ : Str) = S (rep2 x)
    rw [← this]
theorem rep2_at : ∀ {e : List Nat} (r : List Nat), 10 ∉ e → rep2 (e ++ 61 :: 10 :: r) = e ++ rep2 r
  | [], r, _ => rfl
  | c :: e, r, h => by
    rw [List.cons_append, rep2_cons, rep2_at r (fun q => h (.tail _ q)), List.cons_append]
    intro t q
    cases e with
    | nil => simp at q
    | cons d e =>
      simp only [List.cons_append, List.cons.injEq] at q
      exact h (q.2.1 ▸ .tail _ (.head _))
theorem rep2_no : ∀ {e : List Nat}, 10 ∉ e → rep2 e = e
  | [], _ => rfl
  | c :: e, h => by
    rw [rep2_cons, rep2_no (fun q => h (.tail _ q))]
    rintro t q
    injection q with q1 q2
    exact h (q2 ▸ .tail _ (.head _))
section
variable {α β : Type} {k : Nat} {C : FC} {t : Sem α} {R : FH → β → α → Prop} {Q : β → Mine.St → Prop} {σ : Mine.St} {A : Around} {z : FH} {s : Shared}
theorem tkd {Q : α → Shared → Prop} (hn : 1 ≤ s.toks) (h : wpAny (Mo C) A t Q NoE s) : wpAny (Mo C) A t (fun a s' => 1 ≤ s'.toks ∧ Q a s') NoE s := wpAny_mono (wpAny_toks_of hn h) (fun zu zu x => x) fun zu zu x => x.2
theorem WT.go1 (h : WT k C t R Q σ) (hA : Room k A) (hR : Rel C z σ s) (hn : 1 ≤ s.toks) {QQ : α → Shared → Prop}
    (f : ∀ v s' d σ' z', FH.le z z' → Rel C z' σ' s' → R z' d v → Q d σ' → 1 ≤ s'.toks → QQ v s') : wpAny (Mo C) A t QQ NoE s :=
  wpAny_mono (tkd hn (h A z s hA hR)) (fun v s' p => p.2.elim fun d q => q.elim fun σ' q => q.elim fun z' q => f v s' d σ' z' q.1 q.2.1 q.2.2.1 q.2.2.2 p.1) fun zu zu x => x
noncomputable def WT1 (k : Nat) (C : FC) (t : Sem α) (R : FH → β → α → Prop) (Q : β → Mine.St → Prop) (σ : Mine.St) : Prop := ∀ A z s, Room k A → Rel C z σ s → 1 ≤ s.toks → wpAny (Mo C) A t (Post C R Q z) NoE s
theorem WT1.go (h : WT1 k C t R Q σ) (hA : Room k A) (hR : Rel C z σ s) (hn : 1 ≤ s.toks) {QQ : α → Shared → Prop}
    (f : ∀ v s' d σ' z', FH.le z z' → Rel C z' σ' s' → R z' d v → Q d σ' → QQ v s') : wpAny (Mo C) A t QQ NoE s :=
  wpAny_mono (h A z s hA hR hn) (fun v s' p => p.elim fun d q => q.elim fun σ' q => q.elim fun z' q => f v s' d σ' z' q.1 q.2.1 q.2.2.1 q.2.2.2) fun zu zu x => x
end
structure SemE1 (F : FS) (e : Expr) (t : TE) : Prop where
  h : ∀ {k C}, Wf C F → ∀ {Q σ}, t k C Q σ → WT1 k C (eval e C.env) Rep Q σ
structure SemSs1 (F : FS) (sts : List Stmt) (t : TS) : Prop where
  h : ∀ {k C}, Wf C F → ∀ {Q σ}, t k C Q σ → WT1 k C (execs sts C.env) RepF Q σ
section
variable {F : FS} {pos : Pos}
@[reducible] noncomputable def tRpl (to : TE) : TE := fun k C Q σ => to k C (fun d σ1 => onStr d fun x => x.length ≤ 1048576 ∧ Q (.str (rep2 x)) σ1) σ
theorem SemE1.repl {o : Expr} {apos p1 p2 : Pos} {x1 x2 : Str} {c1 c2 : Nat} {to : TE} (h1 : x1 = S [61, 10]) (h2 : x2 = S []) (hbase : ∀ env, attributeBase o "replace" env (eval o env) = eval o env)
    (hs : ∀ env, starEach [.Constant (.str x1) c1 p1, .Constant (.str x2) c2 p2] env = (false, eval (.Constant (.str x1) c1 p1) env) :: starEach [.Constant (.str x2) c2 p2] env) (hs2 : ∀ env, starEach [.Constant (.str x2) c2 p2] env = (false, eval (.Constant (.str x2) c2 p2) env) :: starEach [] env)
    (hline : (apos.endLine == pos.line) = true) (ho : SemE F o to) : SemE1 F (.Call (.Attribute o "replace" apos) [.Constant (.str x1) c1 p1, .Constant (.str x2) c2 p2] [] pos) (tRpl to) := ⟨fun {k C} W {Q σ} q A z s hA hR hn => by
  have hsa : (starEach [.Constant (.str x1) c1 p1, .Constant (.str x2) c2 p2] C.env).any (·.1) = false := by rw [hs, hs2]; rfl
  refine wpAny_Call_method_lateS (hbase _) (meth_few _ _ hsa (Nat.le_of_ble_eq_true rfl)) hline ((ho.h W q).go1 hA hR hn fun v s1 d σ1 z1 hz1 hR1 hd h1' hn1 => ?_)
  obtain ⟨x, rfl, hx⟩ := onStr.out h1'
  refine hd.eStr fun t => ?_
  refine ⟨"str", "str.replace", meth_replace.pa, meth_replace.slot, meth_replace.ty, rfl, fun a e => (nomatch e), Calls.callWith_builtin (starEach_any _ _ _ hsa) ?_⟩
  rw [bk (.Constant (.str x1) c1 p1) [.Constant (.str x2) c2 p2] C.env (hs _)]
  refine Calls.evalArgs_plain ?_
  rw [← bk (pos := pos) (.Constant (.str x1) c1 p1) [.Constant (.str x2) c2 p2] C.env (hs _)]
  refine wpAny_items_cons (wpAny_Constant_str (wpAny_items_cons (wpAny_Constant_str (wpAny_items_nil ?_)) (hs2 _))) (hs _)
  subst h1 h2
  refine SC.replaceW (Nat.pos_iff_ne_zero.mp hn1) (Nat.succ_ne_zero _) (Nat.ne_of_lt (Nat.lt_succ_self _)) rfl hx.1 (Nat.zero_le _) fun t' tk => ?_
  rw [replace_two]
  exact Post.le hz1 (Post.val hR1 (.str _ _) hx.2)⟩
theorem SemE1.callF2 {x : Str} {p : Pos} {f : Addr} {e e2 : Expr} {t t2 : TE} (G : GF F.T.K x f) (hm : x ∈ F.gs) (hs : ∀ env, starEach [e, e2] env = (false, eval e env) :: starEach [e2] env) (hs2 : ∀ env, starEach [e2] env = (false, eval e2 env) :: starEach [] env) (h : SemE F e t) (h2 : SemE1 F e2 t2) :
    SemE1 F (.Call (.Name x p) [e, e2] [] pos) (tFun f (taCons t (taCons t2 taNil))) := ⟨fun {k C} W {Q σ} q A z s hA hR hn => by
  obtain ⟨o, fd, ho, hf⟩ := G.o
  refine wpAny_Call_ofName (name_glob hR (W.G x hm).1 (W.T ▸ G.g) (Calls.callWith_function (o := o) (fd := fd) ?_) (W.G x hm).2.1)
  rw [bk e [e2] C.env (hs _)]
  refine Calls.evalArgs_plain ?_
  rw [← bk (pos := pos) e [e2] C.env (hs _)]
  refine wpAny_items_cons ((h.h W q).go1 hA hR hn fun v s1 d σ1 z1 hz1 hR1 hd hq hn1 => wpAny_items_cons ((h2.h W hq).go hA hR1 hn1 fun v2 s2 d2 σ2 z2 hz2 hR2 hd2 hq2 => wpAny_items_nil ?_) (hs2 _)) (hs _)
  exact ⟨⟨hR2.frz _ _ (hR2.zK _ _ (W.T ▸ ho)), hf⟩,
    wpAny_call (codeAny_mono (hq2.h A z2 s2 _ hA hR2.pre (.cons (hd.mono hz2) (.cons hd2 .nil))) fun r s3 p => p.elim fun v p => p.elim fun z3 p => p.elim fun d p => by
      obtain ⟨rfl, ha, hv, hq3⟩ := p
      exact ⟨d, σ2, z3, (hz1.trans hz2).trans ha.le, hR2.after ha, hv, hq3⟩)⟩⟩
theorem SemSs1.here {x : Str} {p : Pos} {e : Expr} {te : TE} {tt : TG} {sts : List Stmt} {ts : TS} (hs : ∀ C, Wf C F → swapsWith e (some (.Name x p)) pos.line C.env = pure false) (he : SemE1 F e te) (ht : SemN F x tt) (hr : SemSs F sts ts) : SemSs1 F (.Assign [.Name x p] e pos :: sts) (tsSeq (tsAsg te tt) ts) := ⟨fun {k C} W {Q σ} q A z s hA hR hn =>
  wpAny_execs_cons (wpAny_Assign_Name ((he.h W q).go hA hR hn fun v s1 d σ1 z1 hz1 hR1 hd h1 => wpAny_mono (ht.h W h1 hR1 hd) (fun zu s2 w => w.elim fun σ2 w => w.elim fun z2 w => (hr.h W w.2.2).fin hA w.2.1 (hz1.trans w.1)) fun zu zu x => x) (hs C W))⟩
theorem SemSs1.cons {st : Stmt} {sts : List Stmt} {t ts : TS} (h : SemS F st t) (hs : SemSs1 F sts ts) : SemSs1 F (st :: sts) (tsSeq t ts) := ⟨fun {k C} W {Q σ} q A z s hA hR hn =>
  wpAny_execs_cons ((h.h W q).go1 hA hR hn fun f s1 d σ1 z1 hz1 hR1 hd h1 hn1 => by
    cases hd with
    | next => exact (hs.h W h1).go hA hR1 hn1 fun v s2 d σ2 z2 hz2 hR2 hv hq => ⟨d, σ2, z2, hz1.trans hz2, hR2, hv, hq⟩
    | brk => exact ⟨_, σ1, z1, hz1, hR1, .brk, h1⟩
    | cont => exact ⟨_, σ1, z1, hz1, hR1, .cont, h1⟩
    | ret hv => exact ⟨_, σ1, z1, hz1, hR1, .ret hv, h1⟩)⟩
theorem SemSs1.start {x : Str} {p : Pos} {y : Str} {l : List Nat} {e : Expr} {name : Str} {apos cp mpos : Pos} {c : Nat} {id : String} {es : List Expr} {te : TA} {tt : TG} {sts : List Stmt} {ts : TS} (hs0 : ∀ C, Wf C F → swapsWith (.Call (.Attribute (.Constant (.str y) c cp) name apos) (e :: es) [] mpos) (some (.Name x p)) pos.line C.env = pure false)
    (hy : y = S l) (M : Meth "str" name id) (hbase : ∀ env, attributeBase (.Constant (.str y) c cp) name env (eval (.Constant (.str y) c cp) env) = eval (.Constant (.str y) c cp) env)
    (hs : ∀ env, starEach (e :: es) env = (false, eval e env) :: starEach es env) (hs2 : ∀ env, (starEach es env).any (·.1) = false) (hl : (e :: es).length < 30) (hline : (apos.endLine == mpos.line) = true)
    (he : SemA F (e :: es) te) (ht : SemN F x tt) (hr : SemSs1 F sts ts) : SemSs F (.Assign [.Name x p] (.Call (.Attribute (.Constant (.str y) c cp) name apos) (e :: es) [] mpos) pos :: sts) (tsSeq (tsAsg (tMet "str" id (tCst (.str l)) te) tt) ts) := ⟨fun {k C} W {Q σ} q A z s hA hR => by
  have hsa : (starEach (e :: es) C.env).any (·.1) = false := by rw [hs]; exact hs2 _
  refine wpAny_execs_cons (wpAny_Assign_Name (wpAny_Call_method_lateS (hbase _) (meth_few _ _ hsa hl) hline (wpAny_Constant_str ?_)) (hs0 C W))
  refine ⟨"str", id, M.pa, M.slot, M.ty, rfl, fun a e => (nomatch e), Calls.callWith_builtin (starEach_any _ _ _ hsa) ?_⟩
  have hR0 : Rel C z σ { s with toks := s.toks + 1 } := hR.same rfl rfl rfl
  have hh := he.h W (pos := mpos) q.h
  unfold WA at hh
  rw [bk e es C.env (hs _)] at hh ⊢
  refine Calls.evalArgs_plain (hh.go1 hA hR0 (Nat.le_add_left _ _) fun vs s2 ds σ2 z2 hz2 hR2 hds hq hn2 => wpAny_mono (tkd hn2 (hq.2.h hA hR2 (.cons (hy ▸ .str l _) hds))) (fun v s3 w => w.2.elim fun d v1 => v1.elim fun σ3 v1 => v1.elim fun z3 v1 => ?_) fun zu zu x => x)
  exact wpAny_mono (tkd w.1 (ht.h W v1.2.2.2 v1.2.1 v1.2.2.1)) (fun zu s4 u => u.2.elim fun σ4 u2 => u2.elim fun z4 u2 => (hr.h W u2.2.2).go hA u2.2.1 u.1 fun zu zu d σ5 z5 hz5 hR5 hv5 hq5 => ⟨d, σ5, z5, ((hz2.trans v1.1).trans u2.1).trans hz5, hR5, hv5, hq5⟩) fun zu zu x => x⟩
end
end Mine
namespace Mine

noncomputable abbrev TT (w : World) (mg mb : Str → Option Value) : TI := ⟨PySem.Challenge.rw_ij0049_01.row.prog, w, hK w.params, mg, mb⟩
noncomputable def gStr (K : Frag) (x : Str) (l : List Nat) : Bool := (nsIn K mainGlobals x).any fun o => o.any (isStr l)
theorem gStr.v {T : TI} {x : Str} {l : List Nat} (h : gStr T.K x l = true) : GlobV T x (.str l) := by
  delta gStr at h
  rcases e : nsIn T.K mainGlobals x with _ | _ | v
  · rw [e] at h; cases h
  · rw [e] at h; cases h
  · rw [e] at h
    obtain ⟨t, rfl⟩ := isStr.out h
    exact ⟨_, e, fun zu zu => .str _ _⟩
theorem strLst.v {T : TI} {x : Str} {a : Addr} {ls : List (List Nat)} (g : nsIn T.K mainGlobals x = some (some (.ref a))) (h : strLst T.K a ls) : GlobV T x (.list (ls.map V.str)) := ⟨_, g, fun z hz => strLst.rep h hz⟩
section
variable (p : Params)
theorem b_len : GB (hK p) (Str.ofString "len") (.builtin "len") := ⟨by kernel_rfl, by kernel_rfl⟩
theorem b_range : GB (hK p) (Str.ofString "range") (.type "range") := ⟨by kernel_rfl, by kernel_rfl⟩
theorem b_ord : GB (hK p) (Str.ofString "ord") (.builtin "ord") := ⟨by kernel_rfl, by kernel_rfl⟩
theorem b_chr : GB (hK p) (Str.ofString "chr") (.builtin "chr") := ⟨by kernel_rfl, by kernel_rfl⟩
theorem b_max : GB (hK p) (Str.ofString "max") (.builtin "max") := ⟨by kernel_rfl, by kernel_rfl⟩
theorem b_min : GB (hK p) (Str.ofString "min") (.builtin "min") := ⟨by kernel_rfl, by kernel_rfl⟩
theorem b_sum : GB (hK p) (Str.ofString "sum") (.builtin "sum") := ⟨by kernel_rfl, by kernel_rfl⟩
theorem b_int : GB (hK p) (Str.ofString "int") (.type "int") := ⟨by kernel_rfl, by kernel_rfl⟩
theorem b_object : GB (hK p) (Str.ofString "object") (.type "object") := ⟨by kernel_rfl, by kernel_rfl⟩
end
noncomputable def hx (d : Nat) : Nat := if d < 10 then 48 + d else 55 + d
noncomputable def hexq (c : Nat) : List Nat := [61, hx (c / 16), hx (c % 16)]
noncomputable def bare (c : Nat) : Bool := (c == 9 || c == 10 || c == 13 || (decide (32 ≤ c) && decide (c ≤ 126) && c != 61))
noncomputable def enc1 (c : Nat) : List Nat := if bare c then [c] else hexq c
section
variable (p : Params)
theorem f_unquote : GF (hK p) (Str.ofString "unquote") 54 := ⟨by kernel_rfl, _, _, rfl, rfl⟩
theorem f_quote : GF (hK p) (Str.ofString "quote") 61 := ⟨by kernel_rfl, _, _, rfl, rfl⟩
theorem f_body_encode : GF (hK p) (Str.ofString "body_encode") 74 := ⟨by kernel_rfl, _, _, rfl, rfl⟩
theorem f_decode : GF (hK p) (Str.ofString "decode") 82 := ⟨by kernel_rfl, _, _, rfl, rfl⟩
theorem f_translate : GF (hK p) (Str.ofString "translate") 94 := ⟨by kernel_rfl, _, _, rfl, rfl⟩
theorem f_escape : GF (hK p) (Str.ofString "escape") 106 := ⟨by kernel_rfl, _, _, rfl, rfl⟩
theorem f_translate2 : GF (hK p) (Str.ofString "_translate") 113 := ⟨by kernel_rfl, _, _, rfl, rfl⟩
theorem f_join_translated_parts : GF (hK p) (Str.ofString "_join_translated_parts") 120 := ⟨by kernel_rfl, _, _, rfl, rfl⟩
theorem f_law_half : GF (hK p) (Str.ofString "_law_half") 125 := ⟨by kernel_rfl, _, _, rfl, rfl⟩
theorem f_law_built : GF (hK p) (Str.ofString "_law_built") 130 := ⟨by kernel_rfl, _, _, rfl, rfl⟩
theorem f_law_read : GF (hK p) (Str.ofString "_law_read") 135 := ⟨by kernel_rfl, _, _, rfl, rfl⟩
theorem f_law_at : GF (hK p) (Str.ofString "_law_at") 140 := ⟨by kernel_rfl, _, _, rfl, rfl⟩
theorem f_law_shares : GF (hK p) (Str.ofString "_law_shares") 147 := ⟨by kernel_rfl, _, _, rfl, rfl⟩
theorem f_law_fits : GF (hK p) (Str.ofString "_law_fits") 154 := ⟨by kernel_rfl, _, _, rfl, rfl⟩
theorem f_law_told : GF (hK p) (Str.ofString "_law_told") 159 := ⟨by kernel_rfl, _, _, rfl, rfl⟩
theorem g_qmap : nsIn (hK p) mainGlobals (Str.ofString "_QUOPRI_MAP") = some (some (.ref 34)) := by kernel_rfl
theorem l_qmap : strLst (hK p) 34 ((List.range 256).map hexq) := ⟨by kernel_rfl, by kernel_rfl⟩
theorem g_emap : nsIn (hK p) mainGlobals (Str.ofString "_QUOPRI_BODY_ENCODE_MAP") = some (some (.ref 63)) := by kernel_rfl
theorem l_emap : strLst (hK p) 63 ((List.range 256).map enc1) := ⟨by kernel_rfl, by kernel_rfl⟩
end
section
variable (w : World) (mg mb : Str → Option Value)
theorem v_hexdigits : GlobV (TT w mg mb) (Str.ofString "hexdigits") (.str [48, 49, 50, 51, 52, 53, 54, 55, 56, 57, 97, 98, 99, 100, 101, 102, 65, 66, 67, 68, 69, 70]) := gStr.v (by kernel_rfl)
theorem v_CRLF : GlobV (TT w mg mb) (Str.ofString "CRLF") (.str [13, 10]) := gStr.v (by kernel_rfl)
theorem v_qmap : GlobV (TT w mg mb) (Str.ofString "_QUOPRI_MAP") (.list (((List.range 256).map hexq).map V.str)) := strLst.v (g_qmap _) (l_qmap _)
theorem v_emap : GlobV (TT w mg mb) (Str.ofString "_QUOPRI_BODY_ENCODE_MAP") (.list (((List.range 256).map enc1).map V.str)) := strLst.v (g_emap _) (l_emap _)
end
theorem t_0 : Str.ofString " " = S [32] := by kernel_rfl
theorem t_1 : Str.ofString " \t" = S [32, 9] := by kernel_rfl
theorem t_2 : Str.ofString "!" = S [33] := by kernel_rfl
theorem t_3 : Str.ofString "" = S [] := by kernel_rfl
theorem t_4 : Str.ofString "()*+?[]{}|^$" = S [40, 41, 42, 43, 63, 91, 93, 123, 125, 124, 94, 36] := by kernel_rfl
theorem t_5 : Str.ofString "(?!)" = S [40, 63, 33, 41] := by kernel_rfl
theorem t_6 : Str.ofString "(?>.*?" = S [40, 63, 62, 46, 42, 63] := by kernel_rfl
theorem t_7 : Str.ofString "(?s:" = S [40, 63, 115, 58] := by kernel_rfl
theorem t_8 : Str.ofString ")" = S [41] := by kernel_rfl
theorem t_9 : Str.ofString ")(?>" = S [41, 40, 63, 62] := by kernel_rfl
theorem t_10 : Str.ofString ").*" = S [41, 46, 42] := by kernel_rfl
theorem t_11 : Str.ofString ")\\Z" = S [41, 92, 90] := by kernel_rfl
theorem t_12 : Str.ofString "*" = S [42] := by kernel_rfl
theorem t_13 : Str.ofString "-" = S [45] := by kernel_rfl
theorem t_14 : Str.ofString "." = S [46] := by kernel_rfl
theorem t_15 : Str.ofString ".*" = S [46, 42] := by kernel_rfl
theorem t_16 : Str.ofString "0123456789ABCDEF" = S [48, 49, 50, 51, 52, 53, 54, 55, 56, 57, 65, 66, 67, 68, 69, 70] := by kernel_rfl
theorem t_17 : Str.ofString "=" = S [61] := by kernel_rfl
theorem t_18 : Str.ofString "=\n" = S [61, 10] := by kernel_rfl
theorem t_19 : Str.ofString "?" = S [63] := by kernel_rfl
theorem t_20 : Str.ofString "[!" = S [91, 33] := by kernel_rfl
theorem t_21 : Str.ofString "[" = S [91] := by kernel_rfl
theorem t_22 : Str.ofString "\\" = S [92] := by kernel_rfl
theorem t_23 : Str.ofString "\\-" = S [92, 45] := by kernel_rfl
theorem t_24 : Str.ofString "\\[" = S [92, 91] := by kernel_rfl
theorem t_25 : Str.ofString "\\\\" = S [92, 92] := by kernel_rfl
theorem t_26 : Str.ofString "\n" = S [10] := by kernel_rfl
theorem t_27 : Str.ofString "\r\n" = S [13, 10] := by kernel_rfl
theorem t_28 : Str.ofString "]" = S [93] := by kernel_rfl
theorem t_29 : Str.ofString "^" = S [94] := by kernel_rfl
end Mine
namespace Mine
noncomputable def nv (n : int_private% "Numeral") : Option Int := (int_private% "Numeral.rec") (motive := fun zu => Option Int) none (fun zu => none) none (fun i => some i) n
theorem nv_value {n : int_private% "Numeral"} {i : Int} (h : nv n = some i) : n = (int_private% "Numeral.value") i := by
  cases n with
  | value j => exact congrArg (int_private% "Numeral.value") (Option.some.inj h)
  | _ => cases h
theorem hex_reads : ∀ c, c < 256 → nv ((int_private% "readNumeral") 0 16 [hx (c / 16), hx (c % 16)]) = some (c : Int) := by decide +kernel
theorem hex_small : ∀ c, c < 256 → ([hx (c / 16), hx (c % 16)].all (· < 128)) = true ∧ ([hx (c / 16), hx (c % 16)].takeWhile (· != 0)) = [hx (c / 16), hx (c % 16)] := by decide +kernel
theorem wp_hex {M : Model} {A : Around} {E : Value → Shared → Prop} {s : Shared} {Q : Value → Shared → Prop} {v : Value} {c : Nat} (hc : c < 256) (h : Q (.int c s.toks) { s with toks := s.toks + 1 }) :
    wpAny M A ((int_private% "intFromText") v [hx (c / 16), hx (c % 16)] 16) Q E s := by
  have h1 := nv_value (hex_reads c hc)
  have h2 := (hex_small c hc).2
  have h3 : ([hx (c / 16), hx (c % 16)]).length = 2 := rfl
  generalize [hx (c / 16), hx (c % 16)] = text at h1 h2 h3
  have h4 : (text.takeWhile (· != 0)).length ≤ 640 := by rw [h2, h3]; decide
  have h5 : ((text.takeWhile (· != 0)).length == text.length) = true := by rw [h2]; exact beq_self_eq_true _
  rw [← h2] at h1
  obtain ⟨hp, g, d, tk, os⟩ := s
  repeat (any_goals (first
    | assumption
    | (with_reducible refine wpAny_ite_true (decide_eq_true h4) ?_)
    | (with_reducible refine wpAny_ite_true (decide_eq_true h5) ?_)
    | wp_step))
  all_goals (try rw [h1])
  all_goals (try dsimp only)
  repeat (any_goals (first
    | assumption
    | (with_reducible refine wpAny_ite_true (decide_eq_true h4) ?_)
    | (with_reducible refine wpAny_ite_true (decide_eq_true h5) ?_)
    | wp_step))
theorem text_hex {t : Tok} {c : Nat} (hc : c < 256) : (int_private% "numeralText?") (.str (S [hx (c / 16), hx (c % 16)]) t) = pure (some [hx (c / 16), hx (c % 16)]) := by
  have h := (hex_small c hc).1
  refine Eq.trans (b := (pure (some (if (S [hx (c / 16), hx (c % 16)]).cps.all (· < 128) then (S [hx (c / 16), hx (c % 16)]).cps.toList else Unicode.numberText (S [hx (c / 16), hx (c % 16)]).cps.toList)) : Sem (Option (List Nat)))) rfl ?_
  rw [if_pos (by simpa [S] using h)]
structure Hid (p : Prop) : Prop where
  out : p
set_option maxHeartbeats 4000000 in
theorem gives_hex {c : Nat} (hc : c < 256) {t u : Tok} : Gives (Builtin.«int.__new__» ⟨[.type "int", .str (S [hx (c / 16), hx (c % 16)]) t, .int 16 u], []⟩) (.int c) :=
  .of_wp fun M A E s Q h => by
    obtain ⟨hp, g, d, tk, os⟩ := s
    have f1 := F.conv_sub_int
    have f2 := F.madeHere_int
    have f3 := Hid.mk hc
    have f4 := text_hex (t := t) hc
    repeat (any_goals (first
      | assumption
      | ((with_reducible show wpAny _ _ ((int_private% "intFromText") _ _ _) _ _ _); refine wp_hex f3.out ?_)
      | wp_step))
    exact ⟨_, rfl, h⟩
theorem int2_call (a b : Value) : checkTypeCall "int" ⟨[a, b], []⟩ = pure () := by kernel_rfl
theorem int2_new (a b : Value) : checkBuiltinCall "int.__new__" ⟨[.type "int", a, b], []⟩ = pure () := by kernel_rfl
theorem int2_init (o a b : Value) : argsOk "object.__init__" ⟨[o, a, b], []⟩ := by unfold argsOk; kernel_rfl
theorem BltOK.hex {k : Nat} {C : FC} {σ : Mine.St} {c : Nat} {Q : V → Mine.St → Prop} (hc : c < 256) (q : Q (.int c) σ) : BltOK k C (.type "int") [.str [hx (c / 16), hx (c % 16)], .int 16] Q σ := ⟨fun hA hR hv => hv.e2 fun v w h1 h2 => h1.eStr fun t => h2.eInt fun u =>
  callType_new F.called_int F.newNe_int (int2_call _ _) (int2_new _ _) (fun o => int2_init o _ _) F.entry_int_new (gives_hex hc).meets (show (Made.int (c : Int)).post _ _ from ⟨rfl, Post.val (hR.same rfl rfl rfl) (.int _ _) q⟩)⟩
end Mine
namespace Mine
theorem b_isinstance (p : Params) : GB (hK p) (Str.ofString "isinstance") (.builtin "isinstance") := ⟨by kernel_rfl, by kernel_rfl⟩
theorem b_str (p : Params) : GB (hK p) (Str.ofString "str") (.type "str") := ⟨by kernel_rfl, by kernel_rfl⟩
theorem g_spec (p : Params) : nsIn (hK p) mainGlobals (Str.ofString "_special_chars_map") = some (some (.ref 96)) := by kernel_rfl
theorem v_spec (w : World) (mg mb : Str → Option Value) : GlobV (TT w mg mb) (Str.ofString "_special_chars_map") (.mut 96) := ⟨_, g_spec _, fun zu zu => .mut 96⟩
theorem g_twin (p : Params) : nsIn (hK p) mainGlobals (Str.ofString "_twin_re_1") = some (some (.ref 87)) := by kernel_rfl
theorem k87 (p : Params) : (hK p).lookup 87 = some (patO 86) := by kernel_rfl
theorem k86 (p : Params) : (hK p).lookup 86 = some (tupO codeVs 0) := by kernel_rfl
noncomputable abbrev F54 (w : World) (mg mb : Str → Option Value) : FS := { T := TT w mg mb, nk := [(Str.ofString "s", .local)], gs := [Str.ofString "chr", Str.ofString "int"] }
noncomputable abbrev F61 (w : World) (mg mb : Str → Option Value) : FS := { T := TT w mg mb, nk := [(Str.ofString "c", .local)], gs := [Str.ofString "_QUOPRI_MAP", Str.ofString "ord"] }
noncomputable abbrev F74 (w : World) (mg mb : Str → Option Value) : FS := { T := TT w mg mb, nk := [(Str.ofString "body", .local), (Str.ofString "maxlinelen", .local), (Str.ofString "eol", .local), (Str.ofString "soft_break", .local), (Str.ofString "maxlinelen1", .local), (Str.ofString "encoded_body", .local), (Str.ofString "append", .local), (Str.ofString "line", .local), (Str.ofString "start", .local), (Str.ofString "laststart", .local), (Str.ofString "stop", .local), (Str.ofString "room", .local), (Str.ofString "q", .local)], gs := [Str.ofString "len", Str.ofString "_QUOPRI_BODY_ENCODE_MAP", Str.ofString "quote", Str.ofString "CRLF"] }
noncomputable abbrev F82 (w : World) (mg mb : Str → Option Value) : FS := { T := TT w mg mb, nk := [(Str.ofString "encoded", .local), (Str.ofString "eol", .local), (Str.ofString "decoded", .local), (Str.ofString "line", .local), (Str.ofString "i", .local), (Str.ofString "n", .local), (Str.ofString "c", .local)], gs := [Str.ofString "len", Str.ofString "hexdigits", Str.ofString "unquote"] }
noncomputable abbrev F94 (w : World) (mg mb : Str → Option Value) : FS := { T := TT w mg mb, nk := [(Str.ofString "pat", .local), (Str.ofString "STAR", .local), (Str.ofString "parts", .local)], gs := [Str.ofString "object", Str.ofString "_translate", Str.ofString "_join_translated_parts"] }
noncomputable abbrev F106 (w : World) (mg mb : Str → Option Value) : FS := { T := TT w mg mb, nk := [(Str.ofString "pattern", .local)], gs := [Str.ofString "isinstance", Str.ofString "str", Str.ofString "_special_chars_map"] }
noncomputable abbrev F113 (w : World) (mg mb : Str → Option Value) : FS := { T := TT w mg mb, nk := [(Str.ofString "pat", .local), (Str.ofString "STAR", .local), (Str.ofString "QUESTION_MARK", .local), (Str.ofString "res", .local), (Str.ofString "add", .local), (Str.ofString "i", .local), (Str.ofString "n", .local), (Str.ofString "c", .local), (Str.ofString "j", .local), (Str.ofString "stuff", .local), (Str.ofString "chunks", .local), (Str.ofString "k", .local), (Str.ofString "chunk", .local)], gs := [Str.ofString "len", Str.ofString "range", Str.ofString "escape", Str.ofString "_twin_re_1"], J := [123, 125, 133, 137, 162] }
noncomputable abbrev F120 (w : World) (mg mb : Str → Option Value) : FS := { T := TT w mg mb, nk := [(Str.ofString "inp", .local), (Str.ofString "STAR", .local), (Str.ofString "res", .local), (Str.ofString "add", .local), (Str.ofString "i", .local), (Str.ofString "n", .local), (Str.ofString "fixed", .local)], gs := [Str.ofString "len"] }
noncomputable abbrev F125 (w : World) (mg mb : Str → Option Value) : FS := { T := TT w mg mb, nk := [(Str.ofString "n", .local), (Str.ofString "kind", .cell), (Str.ofString "x", .cell), (Str.ofString "y", .cell), (Str.ofString "signs", .local), (Str.ofString "inside", .cell)], gs := [Str.ofString "range"], J := [207, 208] }
noncomputable abbrev F130 (w : World) (mg mb : Str → Option Value) : FS := { T := TT w mg mb, nk := [(Str.ofString "script", .local), (Str.ofString "x", .local), (Str.ofString "numbers", .local), (Str.ofString "pattern", .local), (Str.ofString "runs", .local), (Str.ofString "row", .local), (Str.ofString "octet", .local), (Str.ofString "first", .local), (Str.ofString "highs", .local), (Str.ofString "second", .local), (Str.ofString "lows", .local)], gs := [Str.ofString "len", Str.ofString "chr", Str.ofString "quote", Str.ofString "_law_half"], J := [214, 221, 241, 243], Z := [245] }
noncomputable abbrev F135 (w : World) (mg mb : Str → Option Value) : FS := { T := TT w mg mb, nk := [(Str.ofString "text", .local), (Str.ofString "runs", .local), (Str.ofString "held", .local), (Str.ofString "at", .local), (Str.ofString "shut", .local), (Str.ofString "signs", .local), (Str.ofString "barred", .local)], gs := [Str.ofString "len"], J := [275], Z := [] }
noncomputable abbrev F140 (w : World) (mg mb : Str → Option Value) : FS := { T := TT w mg mb, nk := [(Str.ofString "run", .local), (Str.ofString "name", .cell), (Str.ofString "at", .cell), (Str.ofString "k", .cell), (Str.ofString "barred", .local), (Str.ofString "pairs", .local)], gs := [Str.ofString "len", Str.ofString "range"] }
noncomputable abbrev F147 (w : World) (mg mb : Str → Option Value) : FS := { T := TT w mg mb, nk := [(Str.ofString "runs", .local), (Str.ofString "name", .local), (Str.ofString "at", .local), (Str.ofString "shares", .local), (Str.ofString "run", .local), (Str.ofString "here", .local), (Str.ofString "last", .local)], gs := [Str.ofString "_law_at", Str.ofString "len"] }
noncomputable abbrev F154 (w : World) (mg mb : Str → Option Value) : FS := { T := TT w mg mb, nk := [(Str.ofString "run", .local), (Str.ofString "row", .local), (Str.ofString "at", .local), (Str.ofString "k", .local), (Str.ofString "octet", .local), (Str.ofString "escaped", .local), (Str.ofString "highs", .local), (Str.ofString "lows", .local)], gs := [Str.ofString "len", Str.ofString "range"] }
noncomputable abbrev F159 (w : World) (mg mb : Str → Option Value) : FS := { T := TT w mg mb, nk := [(Str.ofString "runs", .local), (Str.ofString "row", .cell), (Str.ofString "late", .local), (Str.ofString "run", .cell), (Str.ofString "told", .local), (Str.ofString "at", .local), (Str.ofString "here", .local)], gs := [Str.ofString "_law_fits", Str.ofString "len", Str.ofString "max", Str.ofString "range", Str.ofString "min"] }
noncomputable abbrev F164 (w : World) (mg mb : Str → Option Value) : FS := { T := TT w mg mb, nk := [(Str.ofString "script", .local), (Str.ofString "pattern", .local), (Str.ofString "runs", .local), (Str.ofString "row", .local), (Str.ofString "width", .local), (Str.ofString "read", .local), (Str.ofString "one", .local), (Str.ofString "text", .local), (Str.ofString "written", .local), (Str.ofString "shares", .local), (Str.ofString "due", .local)], gs := [Str.ofString "sum", Str.ofString "_law_built", Str.ofString "_law_read", Str.ofString "translate", Str.ofString "body_encode", Str.ofString "decode", Str.ofString "_law_shares", Str.ofString "_law_told"] }
noncomputable def mkDer {F : FS} {sts : List Stmt} {t : TS} (h : SemSs F sts t) : {t : TS // SemSs F sts t} := ⟨t, h⟩
set_option maxHeartbeats 40000000 in
noncomputable def ders (w : World) (mg mb : Str → Option Value) : {t : TS // SemSs (F54 w mg mb) (fB 14) t} × {t : TS // SemSs (F61 w mg mb) (fB 15) t} × {t : TS // SemSs (F74 w mg mb) (fB 19) t} × {t : TS // SemSs (F82 w mg mb) (fB 20) t} × {t : TS // SemSs (F94 w mg mb) (fB 23) t} × {t : TS // SemSs (F106 w mg mb) (fB 26) t} × {t : TS // SemSs (F113 w mg mb) (fB 28) t} × {t : TS // SemSs (F120 w mg mb) (fB 29) t} × {t : TS // SemSs (F125 w mg mb) (fB 31) t} × {t : TS // SemSs (F130 w mg mb) (fB 32) t} × {t : TS // SemSs (F135 w mg mb) (fB 33) t} × {t : TS // SemSs (F140 w mg mb) (fB 34) t} × {t : TS // SemSs (F147 w mg mb) (fB 35) t} × {t : TS // SemSs (F154 w mg mb) (fB 36) t} × {t : TS // SemSs (F159 w mg mb) (fB 37) t} × {t : TS // SemSs (F164 w mg mb) (fB 38) t} := by
  refine' ⟨mkDer ?_, mkDer ?_, mkDer ?_, mkDer ?_, mkDer ?_, mkDer ?_, mkDer ?_, mkDer ?_, mkDer ?_, mkDer ?_, mkDer ?_, mkDer ?_, mkDer ?_, mkDer ?_, mkDer ?_, mkDer ?_⟩
  all_goals (first | ((with_reducible show SemSs _ _ _); (conv => arg 2; whnf); (repeat' (first | ((with_reducible show SemE _ _ _); (first | ((with_reducible apply SemE.loc); (· (repeat' (first | with_reducible exact AtK.here | with_reducible apply AtK.there)))) | ((with_reducible apply SemE.cInt)) | ((with_reducible apply SemE.bin)) | ((with_reducible apply SemE.slc); (· (intro _ _; exact ⟨_, rfl⟩))) | ((with_reducible apply SemE.idx); (· (intro _ _; rfl))) | ((with_reducible apply SemE.cell); (· (repeat' (first | with_reducible exact AtK.here | with_reducible apply AtK.there)))) | (with_reducible refine SemE.cStr t_0) | (with_reducible refine SemE.cStr t_1) | (with_reducible refine SemE.cStr t_2) | (with_reducible refine SemE.cStr t_3) | (with_reducible refine SemE.cStr t_4) | (with_reducible refine SemE.cStr t_5) | (with_reducible refine SemE.cStr t_6) | (with_reducible refine SemE.cStr t_7) | (with_reducible refine SemE.cStr t_8) | (with_reducible refine SemE.cStr t_9) | (with_reducible refine SemE.cStr t_10) | (with_reducible refine SemE.cStr t_11) | (with_reducible refine SemE.cStr t_12) | (with_reducible refine SemE.cStr t_13) | (with_reducible refine SemE.cStr t_14) | (with_reducible refine SemE.cStr t_15) | (with_reducible refine SemE.cStr t_16) | (with_reducible refine SemE.cStr t_17) | (with_reducible refine SemE.cStr t_18) | (with_reducible refine SemE.cStr t_19) | (with_reducible refine SemE.cStr t_20) | (with_reducible refine SemE.cStr t_21) | (with_reducible refine SemE.cStr t_22) | (with_reducible refine SemE.cStr t_23) | (with_reducible refine SemE.cStr t_24) | (with_reducible refine SemE.cStr t_25) | (with_reducible refine SemE.cStr t_26) | (with_reducible refine SemE.cStr t_27) | (with_reducible refine SemE.cStr t_28) | (with_reducible refine SemE.cStr t_29) | ((with_reducible apply SemE.cBool)) | ((with_reducible apply SemE.cNone)) | ((with_reducible apply SemE.cmp); (· with_unfolding_all rfl)) | ((with_reducible apply SemE.tup); (· (exact Nat.le_of_ble_eq_true rfl))) | ((with_reducible apply SemE.lst); (· (exact Nat.le_of_ble_eq_true rfl))) | ((with_reducible apply SemE.neg)) | ((with_reducible apply SemE.ifeJ); (· rfl)) | ((with_reducible apply SemE.ife)) | ((with_reducible apply SemE.or2)) | ((with_reducible apply SemE.and2)) | ((with_reducible apply SemE.cmp2); (· with_unfolding_all rfl)) | ((with_reducible show SemE _ (.Call (.Name _ _) _ _ _) _); (first | ((with_reducible apply SemE.callB (b_len _)); (· (repeat' (first | with_reducible exact List.mem_cons_self | with_reducible apply List.mem_cons_of_mem))); (· (intro _; rfl)); (· (intro _; rfl))) | ((with_reducible apply SemE.callB (b_chr _)); (· (repeat' (first | with_reducible exact List.mem_cons_self | with_reducible apply List.mem_cons_of_mem))); (· (intro _; rfl)); (· (intro _; rfl))) | ((with_reducible apply SemE.callB (b_ord _)); (· (repeat' (first | with_reducible exact List.mem_cons_self | with_reducible apply List.mem_cons_of_mem))); (· (intro _; rfl)); (· (intro _; rfl))) | ((with_reducible apply SemE.callB (b_max _)); (· (repeat' (first | with_reducible exact List.mem_cons_self | with_reducible apply List.mem_cons_of_mem))); (· (intro _; rfl)); (· (intro _; rfl))) | ((with_reducible apply SemE.callB (b_min _)); (· (repeat' (first | with_reducible exact List.mem_cons_self | with_reducible apply List.mem_cons_of_mem))); (· (intro _; rfl)); (· (intro _; rfl))) | ((with_reducible apply SemE.callB (b_sum _)); (· (repeat' (first | with_reducible exact List.mem_cons_self | with_reducible apply List.mem_cons_of_mem))); (· (intro _; rfl)); (· (intro _; rfl))) | ((with_reducible apply SemE.callT (b_range _)); (· (repeat' (first | with_reducible exact List.mem_cons_self | with_reducible apply List.mem_cons_of_mem))); (· (intro _; rfl)); (· (intro _; rfl))) | ((with_reducible apply SemE.callF (f_unquote _)); (· (repeat' (first | with_reducible exact List.mem_cons_self | with_reducible apply List.mem_cons_of_mem))); (· (intro _; rfl))) | ((with_reducible apply SemE.callF (f_quote _)); (· (repeat' (first | with_reducible exact List.mem_cons_self | with_reducible apply List.mem_cons_of_mem))); (· (intro _; rfl))) | ((with_reducible apply SemE.callF (f_body_encode _)); (· (repeat' (first | with_reducible exact List.mem_cons_self | with_reducible apply List.mem_cons_of_mem))); (· (intro _; rfl))) | ((with_reducible apply SemE.callF (f_decode _)); (· (repeat' (first | with_reducible exact List.mem_cons_self | with_reducible apply List.mem_cons_of_mem))); (· (intro _; rfl))) | ((with_reducible apply SemE.callF (f_translate _)); (· (repeat' (first | with_reducible exact List.mem_cons_self | with_reducible apply List.mem_cons_of_mem))); (· (intro _; rfl))) | ((with_reducible apply SemE.callF (f_escape _)); (· (repeat' (first | with_reducible exact List.mem_cons_self | with_reducible apply List.mem_cons_of_mem))); (· (intro _; rfl))) | ((with_reducible apply SemE.callF (f_translate2 _)); (· (repeat' (first | with_reducible exact List.mem_cons_self | with_reducible apply List.mem_cons_of_mem))); (· (intro _; rfl))) | ((with_reducible apply SemE.callF (f_join_translated_parts _)); (· (repeat' (first | with_reducible exact List.mem_cons_self | with_reducible apply List.mem_cons_of_mem))); (· (intro _; rfl))) | ((with_reducible apply SemE.callF (f_law_half _)); (· (repeat' (first | with_reducible exact List.mem_cons_self | with_reducible apply List.mem_cons_of_mem))); (· (intro _; rfl))) | ((with_reducible apply SemE.callF (f_law_built _)); (· (repeat' (first | with_reducible exact List.mem_cons_self | with_reducible apply List.mem_cons_of_mem))); (· (intro _; rfl))) | ((with_reducible apply SemE.callF (f_law_read _)); (· (repeat' (first | with_reducible exact List.mem_cons_self | with_reducible apply List.mem_cons_of_mem))); (· (intro _; rfl))) | ((with_reducible apply SemE.callF (f_law_at _)); (· (repeat' (first | with_reducible exact List.mem_cons_self | with_reducible apply List.mem_cons_of_mem))); (· (intro _; rfl))) | ((with_reducible apply SemE.callF (f_law_shares _)); (· (repeat' (first | with_reducible exact List.mem_cons_self | with_reducible apply List.mem_cons_of_mem))); (· (intro _; rfl))) | ((with_reducible apply SemE.callF (f_law_fits _)); (· (repeat' (first | with_reducible exact List.mem_cons_self | with_reducible apply List.mem_cons_of_mem))); (· (intro _; rfl))) | ((with_reducible apply SemE.callF (f_law_told _)); (· (repeat' (first | with_reducible exact List.mem_cons_self | with_reducible apply List.mem_cons_of_mem))); (· (intro _; rfl))) | ((with_reducible apply SemE.callT (b_int _)); (· (repeat' (first | with_reducible exact List.mem_cons_self | with_reducible apply List.mem_cons_of_mem))); (· (intro _; rfl)); (· (intro _; rfl))) | ((with_reducible apply SemE.callObj (b_object _)); (· (repeat' (first | with_reducible exact List.mem_cons_self | with_reducible apply List.mem_cons_of_mem)))) | ((with_reducible apply SemE.callApp); (· (intro _; rfl))))) | ((with_reducible show SemE _ (.Call (.Attribute _ _ _) _ _ _) _); (first | (first | ((with_reducible apply SemE.genJ (sep := [45])); (· kernel_rfl!); (· kernel_rfl!); (· kernel_rfl!); (· rfl); (· rfl); (· rfl); (· (intro _; rfl)); (· (intro _; rfl)); (· (intro _; rfl)); (· rfl); (· (intro _; rfl)); (· kernel_rfl!); (· kernel_rfl!); (· kernel_rfl!); (· kernel_rfl!); (· rfl); (· (intro _ _; rfl)))) | ((with_reducible apply SemE.met meth_append); (· (intro _; rfl)); (· (intro _; rfl)); (· (intro _; rfl)); (· decide); (· rfl)) | ((with_reducible apply SemE.met meth_extend); (· (intro _; rfl)); (· (intro _; rfl)); (· (intro _; rfl)); (· decide); (· rfl)) | ((with_reducible apply SemE.met meth_find); (· (intro _; rfl)); (· (intro _; rfl)); (· (intro _; rfl)); (· decide); (· rfl)) | ((with_reducible apply SemE.met meth_replace); (· (intro _; rfl)); (· (intro _; rfl)); (· (intro _; rfl)); (· decide); (· rfl)) | ((with_reducible apply SemE.met meth_endswith); (· (intro _; rfl)); (· (intro _; rfl)); (· (intro _; rfl)); (· decide); (· rfl)) | ((with_reducible apply SemE.met meth_join); (· (intro _; rfl)); (· (intro _; rfl)); (· (intro _; rfl)); (· decide); (· rfl)) | ((with_reducible apply SemE.met meth_translate); (· (intro _; rfl)); (· (intro _; rfl)); (· (intro _; rfl)); (· decide); (· rfl)) | ((with_reducible apply SemE.met0 meth_rstrip); (· (intro _; rfl)); (· rfl)) | ((with_reducible apply SemE.met0 meth_splitlines); (· (intro _; rfl)); (· rfl)))) | (first | (((with_reducible apply SemE.comp [Str.ofString "low", Str.ofString "high"] [Str.ofString "name", Str.ofString "at", Str.ofString "k"] [] [(Str.ofString "low", .local), (Str.ofString "high", .local), (Str.ofString "name", .cell), (Str.ofString "at", .cell), (Str.ofString "k", .cell)]); (· rfl); (· (intro _ _; rfl)); (· kernel_rfl!); (· (repeat' (first | with_reducible exact AtKs.nil | with_reducible apply AtKs.cons | with_reducible exact AtK.here | with_reducible apply AtK.there))))) | (((with_reducible apply SemE.comp [Str.ofString "k"] [Str.ofString "run", Str.ofString "row"] [Str.ofString "_law_fits"] [(Str.ofString "k", .local), (Str.ofString "run", .cell), (Str.ofString "row", .cell)]); (· rfl); (· (intro _ _; rfl)); (· kernel_rfl!); (· (repeat' (first | with_reducible exact AtKs.nil | with_reducible apply AtKs.cons | with_reducible exact AtK.here | with_reducible apply AtK.there))))) | (first | ((with_reducible apply SemE.comp [Str.ofString "v"] [] [] [(Str.ofString "v", .local)]); (· rfl); (· (intro _ _; rfl)); (· kernel_rfl!); (· (repeat' (first | with_reducible exact AtKs.nil | with_reducible apply AtKs.cons | with_reducible exact AtK.here | with_reducible apply AtK.there)))) | ((with_reducible apply SemE.comp [Str.ofString "v"] [Str.ofString "kind", Str.ofString "x", Str.ofString "y"] [] [(Str.ofString "v", .local), (Str.ofString "kind", .cell), (Str.ofString "x", .cell), (Str.ofString "y", .cell)]); (· rfl); (· (intro _ _; rfl)); (· kernel_rfl!); (· (repeat' (first | with_reducible exact AtKs.nil | with_reducible apply AtKs.cons | with_reducible exact AtK.here | with_reducible apply AtK.there)))) | ((with_reducible apply SemE.comp [Str.ofString "v"] [Str.ofString "inside"] [] [(Str.ofString "v", .local), (Str.ofString "inside", .cell)]); (· rfl); (· (intro _ _; rfl)); (· kernel_rfl!); (· (repeat' (first | with_reducible exact AtKs.nil | with_reducible apply AtKs.cons | with_reducible exact AtK.here | with_reducible apply AtK.there))))) | (((with_reducible apply SemE.comp [Str.ofString "run"] [] [] [(Str.ofString "run", .local)]); (· rfl); (· (intro _ _; rfl)); (· kernel_rfl!); (· (repeat' (first | with_reducible exact AtKs.nil | with_reducible apply AtKs.cons | with_reducible exact AtK.here | with_reducible apply AtK.there))))) | (((with_reducible apply SemE.comp [Str.ofString "sign"] [] [] [(Str.ofString "sign", .local)]); (· rfl); (· (intro _ _; rfl)); (· kernel_rfl!); (· (repeat' (first | with_reducible exact AtKs.nil | with_reducible apply AtKs.cons | with_reducible exact AtK.here | with_reducible apply AtK.there))))) | (first | ((with_reducible apply SemE.isStr (b_isinstance _) (b_str _)); (· (repeat' (first | with_reducible exact List.mem_cons_self | with_reducible apply List.mem_cons_of_mem))); (· (repeat' (first | with_reducible exact List.mem_cons_self | with_reducible apply List.mem_cons_of_mem))); (· (intro _; rfl))) | ((with_reducible apply SemE.glob (v_spec _ _ _)); (· (repeat' (first | with_reducible exact List.mem_cons_self | with_reducible apply List.mem_cons_of_mem))))) | (first | ((with_reducible apply SemE.sub (g_twin _) (k87 _) (k86 _)); (· (repeat' (first | with_reducible exact List.mem_cons_self | with_reducible apply List.mem_cons_of_mem))); (· (intro _; rfl)); (· (intro _; rfl)); (· (intro _; rfl)); (· rfl); (· (intro _; rfl)); (· (intro _; rfl)))) | (first | ((with_reducible apply SemE.comp [Str.ofString "octet"] [] [Str.ofString "chr"] [(Str.ofString "octet", .local)]); (· rfl); (· (intro _ _; rfl)); (· kernel_rfl!); (· (repeat' (first | with_reducible exact AtKs.nil | with_reducible apply AtKs.cons | with_reducible exact AtK.here | with_reducible apply AtK.there)))) | ((with_reducible apply SemE.comp [Str.ofString "share"] [] [Str.ofString "decode"] [(Str.ofString "share", .local)]); (· rfl); (· (intro _ _; rfl)); (· kernel_rfl!); (· (repeat' (first | with_reducible exact AtKs.nil | with_reducible apply AtKs.cons | with_reducible exact AtK.here | with_reducible apply AtK.there)))) | ((with_reducible apply SemE.comp [Str.ofString "part"] [] [] [(Str.ofString "part", .local)]); (· rfl); (· (intro _ _; rfl)); (· kernel_rfl!); (· (repeat' (first | with_reducible exact AtKs.nil | with_reducible apply AtKs.cons | with_reducible exact AtK.here | with_reducible apply AtK.there)))))) | ((with_reducible apply SemE.glob (v_hexdigits _ _ _)); (· (repeat' (first | with_reducible exact List.mem_cons_self | with_reducible apply List.mem_cons_of_mem)))) | ((with_reducible apply SemE.glob (v_CRLF _ _ _)); (· (repeat' (first | with_reducible exact List.mem_cons_self | with_reducible apply List.mem_cons_of_mem)))) | ((with_reducible apply SemE.glob (v_qmap _ _ _)); (· (repeat' (first | with_reducible exact List.mem_cons_self | with_reducible apply List.mem_cons_of_mem)))) | ((with_reducible apply SemE.glob (v_emap _ _ _)); (· (repeat' (first | with_reducible exact List.mem_cons_self | with_reducible apply List.mem_cons_of_mem)))) | ((with_reducible apply SemE.attrApp); (· (intro _; rfl))) | ((with_reducible apply SemE.joi)) | ((with_reducible apply SemE.fmt)) | (with_reducible exact SemE.never _))) | ((with_reducible show SemSs _ _ _); (first | (( (refine' SemSs1.start (l := []) ?zqh1 t_3 meth_join ?zqh2 ?zqh3 ?zqh4 ?zqh5 ?zqh6 ?zqhe ?zqht (SemSs1.cons ?zqs2 (SemSs1.cons ?zqs3 (SemSs1.here ?zqh7 (SemE1.callF2 (f_law_shares _) ?zqh8 ?zqh9 ?zqh10 ?zqe1 (SemE1.repl t_18 t_3 ?zqh11 ?zqh12 ?zqh13 ?zqh14 ?zqo)) ?zqn ?zqr)))); (case zqh1 => (intro _ _; rfl)); (case zqh2 => (intro _; rfl)); (case zqh3 => (intro _; rfl)); (case zqh4 => (intro _; rfl)); (case zqh5 => decide); (case zqh6 => rfl); (case zqh7 => (intro _ _; rfl)); (case zqh8 => (repeat' (first | with_reducible exact List.mem_cons_self | with_reducible apply List.mem_cons_of_mem))); (case zqh9 => (intro _; rfl)); (case zqh10 => (intro _; rfl)); (case zqh11 => (intro _; rfl)); (case zqh12 => (intro _; rfl)); (case zqh13 => (intro _; rfl)); (case zqh14 => rfl))) | (first | ((with_reducible apply SemSs.one)) | ((with_reducible apply SemSs.cons)) | ((with_reducible apply SemSs.nil))))) | ((with_reducible show SemS _ _ _); (first | (first | (((with_reducible apply SemS.asgU [Str.ofString "x"] [] [] [(Str.ofString "x", .local)]); (· rfl); (· (repeat' (first | with_reducible exact AtK.here | with_reducible apply AtK.there))); (· kernel_rfl!); (· (intro _ _; rfl)); (· kernel_rfl!); (· (repeat' (first | with_reducible exact AtKs.nil | with_reducible apply AtKs.cons | with_reducible exact AtK.here | with_reducible apply AtK.there))))) | (first | ((with_reducible apply SemS.setI); (· (intro _; rfl))) | (with_reducible apply SemS.delI))) | ((with_reducible apply SemS.asg); (· (intro _ _; rfl))) | ((with_reducible apply SemS.asg); (· (exact asgC_swaps (by (repeat' (first | with_reducible exact AtK.here | with_reducible apply AtK.there)))))) | ((with_reducible apply SemS.asgT); (· (intro _; rfl)); (· (intro _; rfl))) | ((with_reducible apply SemS.asg2); (· (refine' swaps_of ?_ ?_ rfl (by kernel_rfl!) rfl rfl rfl <;> (repeat' (first | with_reducible exact AtK.here | with_reducible apply AtK.there)))); (· (intro _; rfl))) | ((with_reducible apply SemS.aug); (· (repeat' (first | with_reducible exact AtK.here | with_reducible apply AtK.there)))) | ((with_reducible apply SemS.expr); (· (intro _; rfl))) | ((with_reducible apply SemS.ifZ); (· rfl)) | ((with_reducible apply SemS.ifJ); (· rfl)) | ((with_reducible apply SemS.ite)) | ((with_reducible apply SemS.ret)) | ((with_reducible apply SemS.for); (· (intro _ _; rfl))) | ((with_reducible apply SemS.whl)) | ((with_reducible apply SemS.brk)) | ((with_reducible apply SemS.cont)) | ((with_reducible apply SemS.asrt)) | (with_reducible exact SemS.never _))) | ((with_reducible show SemB _ _ _); (first | ((with_reducible apply SemB.cmp); (· with_unfolding_all rfl)) | ((with_reducible apply SemB.boolop)) | ((with_reducible apply SemB.not)) | ((with_reducible apply SemB.cmp2); (· with_unfolding_all rfl)) | ((with_reducible apply SemB.ifeJ); (· rfl)) | ((with_reducible apply SemB.ife)) | ((with_reducible apply SemB.val); (· (intro _ _; rfl))))) | ((with_reducible show SemL _ _ _ _); (first | ((with_reducible apply SemL.and1)) | ((with_reducible apply SemL.and)) | ((with_reducible apply SemL.or1)) | ((with_reducible apply SemL.or)))) | ((with_reducible show SemA _ _ _); (first | ((with_reducible apply SemA.nil)) | ((with_reducible apply SemA.cons); (· (intro _; rfl))))) | ((with_reducible show SemP _ _ _); (first | ((with_reducible apply SemP.none)) | ((with_reducible apply SemP.some)))) | ((with_reducible show SemN _ _ _); (first | ((with_reducible apply SemN.loc); (· (repeat' (first | with_reducible exact AtK.here | with_reducible apply AtK.there)))) | ((with_reducible apply SemN.cell); (· rfl); (· (repeat' (first | with_reducible exact AtK.here | with_reducible apply AtK.there)))))) | ((with_reducible show SemT _ _ _); (first | ((with_reducible apply SemT.name)) | ((with_reducible apply SemT.tup (n := .s (.s .z))); (· rfl); (· (intro _; rfl)); (· (intro _; rfl))) | ((with_reducible apply SemT.tup (n := .s (.s (.s .z)))); (· rfl); (· (intro _; rfl)); (· (intro _; rfl))))) | ((with_reducible show SemTs _ _ _); (first | ((with_reducible apply SemTs.nil)) | ((with_reducible apply SemTs.cons); (· (intro _; rfl))))) | ((with_reducible show SemI _ _ _); (first | ((with_reducible apply SemI.nil)) | ((with_reducible apply SemI.one)))) | ((with_reducible show SemJ _ _ _); (first | ((with_reducible apply SemJ.nil)) | ((with_reducible apply SemJ.cons))))))) | skip)
end Mine
namespace Mine
section
noncomputable abbrev It := Bool × List Int × List Int
noncomputable abbrev vIt (it : It) : V := .tup [.bool it.1, .list (it.2.1.map V.int), .list (it.2.2.map V.int)]
noncomputable abbrev vRun (run : List It) : V := .list (run.map vIt)
noncomputable def fit1 (it : It) (o : Int) : Bool := !((it.1 == (o == 9 || ((decide (32 ≤ o) && decide (o ≤ 126)) && o != 61))) || (!decide (o / 16 ∈ it.2.1) || !decide (o % 16 ∈ it.2.2)))
noncomputable def fitAt (run : List It) (row : List Int) (a : Int) (i : Nat) : Bool := match run[i]?, row[(a + i).toNat]? with
  | some it, some o => fit1 it o
  | _, _ => false
noncomputable def fits (run : List It) (row : List Int) (a : Int) : Bool := !(decide (a < 0) || decide ((row.length : Int) < a + run.length)) && (List.range run.length).all (fitAt run row a)

theorem fits_false {run : List It} {row : List Int} {a : Int} {i : Nat} (hi : i < run.length) (h : fitAt run row a i = false) : fits run row a = false := by
  unfold fits
  have : (List.range run.length).all (fitAt run row a) = false := by
    rw [List.all_eq_false]
    exact ⟨i, by simpa using hi, by simp [h]⟩
  rw [this, Bool.and_false]
theorem next_all {f : Nat → Bool} {i : Nat} (h : ∀ j, j < i → f j = true) (h' : f i = true) : ∀ j, j < i + 1 → f j = true := fun j hj => by
  rcases Nat.lt_or_ge j i with q | q
  · exact h j q
  · rw [show j = i by lia]; exact h'
theorem len_succ {l : List Value} {n : Nat} (h : l.length = n + 1) : ∃ a r, l = a :: r ∧ r.length = n := by
  cases l with
  | nil => cases h
  | cons a r => exact ⟨a, r, rfl, Nat.succ.inj h⟩
theorem binds1 {s : Shared} {fd : FuncData} {x : Str} {vs : List Value} (hv : vs.length = 1) (h : ∀ v, bindArgs fd ⟨[v], []⟩ = pure [(x, v)]) : BindsTo s fd ⟨vs, []⟩ ([x].zip (vs ++ [])) := by
  obtain ⟨v, r, rfl, h1⟩ := len_succ hv
  obtain rfl := List.length_eq_zero_iff.mp h1
  exact fun M A E Q hq => by rw [h]; exact wpAny_pure hq
theorem binds2 {s : Shared} {fd : FuncData} {x y : Str} {vs : List Value} (hv : vs.length = 2) (h : ∀ v w, bindArgs fd ⟨[v, w], []⟩ = pure [(x, v), (y, w)]) : BindsTo s fd ⟨vs, []⟩ ([x, y].zip (vs ++ [])) := by
  obtain ⟨v, r, rfl, h1⟩ := len_succ hv
  obtain ⟨w, r, rfl, h2⟩ := len_succ h1
  obtain rfl := List.length_eq_zero_iff.mp h2
  exact fun M A E Q hq => by rw [h]; exact wpAny_pure hq
theorem binds3 {s : Shared} {fd : FuncData} {x y z : Str} {vs : List Value} (hv : vs.length = 3) (h : ∀ v w u, bindArgs fd ⟨[v, w, u], []⟩ = pure [(x, v), (y, w), (z, u)]) : BindsTo s fd ⟨vs, []⟩ ([x, y, z].zip (vs ++ [])) := by
  obtain ⟨v, r, rfl, h1⟩ := len_succ hv
  obtain ⟨w, r, rfl, h2⟩ := len_succ h1
  obtain ⟨u, r, rfl, h3⟩ := len_succ h2
  obtain rfl := List.length_eq_zero_iff.mp h3
  exact fun M A E Q hq => by rw [h]; exact wpAny_pure hq
set_option maxHeartbeats 4000000 in
theorem fits_walk {w : World} {mg mb : Str → Option Value} (run : List It) (row : List Int) (a : Int) (hl : run.length ≤ 1000) (hl2 : row.length ≤ 1000) : FnOK (TT w mg mb) 108 10 154 [.list (run.map vIt), .list (row.map V.int), .int a] (fun r => r = .bool (fits run row a)) := by
  refine' FnOK.sem (F := F154 w mg mb) (f := 154) (dds := []) (dvs := []) [Str.ofString "run", Str.ofString "row", Str.ofString "at"]
    [Str.ofString "k", Str.ofString "octet", Str.ofString "escaped", Str.ofString "highs", Str.ofString "lows"] [.list (run.map vIt), .list (row.map V.int), .int a, .undef, .undef, .undef, .undef, .undef]
    (hK := by rfl) (by kernel_rfl) rfl (by kernel_rfl) (fun zu zu => .nil) (fun zu zu zu hv => binds3 hv fun zu zu zu => rfl) rfl rfl ?s ?b
  case s => exact (ders w mg mb).2.2.2.2.2.2.2.2.2.2.2.2.2.1.2
  intro C hT hP
  refine ⟨decide (a < 0) || decide ((row.length : Int) < a + run.length), ⟨fun h => ⟨by simp [h], rfl⟩, fun h => ?_⟩, fun hc => ?_, fun hc => ?_⟩
  · refine BltOK.lenL rfl (by simp; lia) ?_
    refine BltOK.lenL rfl (by simp; lia) ?_
    exact ⟨by simp [h], rfl⟩
  · refine ⟨_, .self _, ?_⟩
    simp only [fits, hc, Bool.not_true, Bool.false_and]
  have hc' : 0 ≤ a ∧ a + run.length ≤ row.length := by simpa using hc
  refine BltOK.lenL rfl (by simp; lia) (BltOK.range1 ?_)
  simp only [List.length_map]
  refine ForOK.mk' (IterOK.range (n := run.length) (.inl rfl) (rangeSize_to _) (by lia) (by lia) (by lia)) (fun i vars mem => mem = [] ∧ (∃ b c d e f, vars = [.list (run.map vIt), .list (row.map V.int), .int a, b, c, d, e, f]) ∧ ∀ j, j < i → fitAt run row a j = true) ?_ ?_ ?_
  · exact ⟨rfl, ⟨_, _, _, _, _, rfl⟩, fun j hj => absurd hj (Nat.not_lt_zero j)⟩
  · rintro i x vars mem rw hx ⟨rfl, ⟨b, c, d, e, f, rfl⟩, hI⟩
    obtain ⟨hi, rfl⟩ := range_item hx
    refine IdxOK.map rfl ⟨by lia, by lia⟩ (by lia) fun o ho => ?_
    refine IdxOK.map rfl ⟨by lia, by lia⟩ (by lia) fun it hit => ?_
    have hio : fitAt run row a i = fit1 it o := by
      rw [show (a + (0 + (i : Int) * 1)).toNat = (a + i).toNat by lia] at ho
      rw [show (0 + (i : Int) * 1).toNat = i by lia] at hit
      simp only [fitAt, hit, ho]
    refine ⟨!fit1 it o, ⟨.bool (o == 9 || ((decide (32 ≤ o) && decide (o ≤ 126)) && o != 61)), ⟨fun h => ⟨by rw [h]; rfl, rfl⟩, fun h => ?_⟩, fun h1 => ?_, fun h1 => ?_⟩, fun hf => ?_, fun hf => ?_⟩
    · refine ⟨.bool ((decide (32 ≤ o) && decide (o ≤ 126)) && o != 61), ⟨fun h1 => ⟨fun h2 => ⟨by rw [h1, h2]; rfl, rfl⟩, fun h2 => ⟨by rw [h1, h2]; rfl, rfl⟩⟩, fun h1 => ⟨fun h2 => Bool.noConfusion h2, fun zu => ⟨by rw [h1]; rfl, rfl⟩⟩⟩, ⟨by rw [h]; rfl, rfl⟩⟩
    · exact ⟨by simp [fit1, h1], rfl⟩
    · refine ⟨by decide, CmpOK.notinI rfl ⟨fun h2 => ⟨by simp [fit1, h2], rfl⟩, fun h2 => ⟨by decide, CmpOK.notinI rfl ⟨by simp only [fit1, h1, h2, Bool.false_or, Bool.not_not], rfl⟩⟩⟩⟩
    · exact ⟨rfl, _, .self _, by rw [fits_false hi (hio.trans (by simpa using hf))]⟩
    · exact ⟨rfl, rfl, ⟨_, _, _, _, _, rfl⟩, next_all hI (hio.trans (by simpa using hf))⟩
  · rintro vars mem ⟨rfl, ⟨b, c, d, e, f, rfl⟩, hI⟩
    refine ⟨_, .self _, ?_⟩
    simp only [fits, hc, Bool.not_false, Bool.true_and]
    simp only [List.length_map, List.length_range] at hI
    rw [List.all_eq_true.mpr fun j hj => hI j (by simpa using hj)]
end
section
noncomputable abbrev Ge := Bool × List (List Nat × List Nat)
noncomputable abbrev vPair (p : List Nat × List Nat) : V := .tup [.str p.1, .str p.2]
noncomputable abbrev vGe (g : Ge) : V := .tup [.bool g.1, .list (g.2.map vPair)]
noncomputable abbrev vGr (run : List Ge) : V := .list (run.map vGe)
noncomputable def inP (c : Nat) (p : List Nat × List Nat) : Bool := !decide ([c] < p.1) && !decide (p.2 < [c])
noncomputable def gok (g : Ge) (c : Nat) : Bool := g.2.any (inP c) != g.1
noncomputable def gokAt (run : List Ge) (name : List Nat) (a i : Nat) : Bool := match run[i]?, name[a + i]? with
  | some g, some c => gok g c
  | _, _ => false
noncomputable def gAt (run : List Ge) (name : List Nat) (a : Nat) : Bool := decide (a + run.length ≤ name.length) && (List.range run.length).all (gokAt run name a)
theorem gAt_false {run : List Ge} {name : List Nat} {a : Nat} {i : Nat} (hi : i < run.length) (h : gokAt run name a i = false) : gAt run name a = false := by
  unfold gAt
  have : (List.range run.length).all (gokAt run name a) = false := by
    rw [List.all_eq_false]
    exact ⟨i, by simpa using hi, by simp [h]⟩
  rw [this, Bool.and_false]
theorem filter_empty {α : Type} (l : List α) (p : α → Bool) : (l.filter p).isEmpty = !(l.any p) := by
  induction l with
  | nil => rfl
  | cons a r ih => cases h : p a <;> simp [h, ih]
set_option maxHeartbeats 4000000 in
theorem at_walk {w : World} {mg mb : Str → Option Value} (run : List Ge) (name : List Nat) (a : Nat) (hl : run.length ≤ 100000) (hl2 : name.length ≤ 100000) (hp : ∀ g ∈ run, g.2.length ≤ 100000) : FnOK (TT w mg mb) 108 10 140 [vGr run, .str name, .int a] (fun r => r = .bool (gAt run name a)) := by
  refine' FnOK.sem (F := F140 w mg mb) (f := 140) (dds := []) (dvs := []) [Str.ofString "run", Str.ofString "name", Str.ofString "at"]
    [Str.ofString "k", Str.ofString "barred", Str.ofString "pairs"] [vGr run, .str name, .int a, .undef, .undef, .undef]
    (hK := by rfl) (by kernel_rfl) rfl (by kernel_rfl) (fun zu zu => .nil) (fun zu zu zu hv => binds3 hv fun zu zu zu => rfl) rfl rfl ?s ?b
  case s => exact (ders w mg mb).2.2.2.2.2.2.2.2.2.2.2.1.2
  intro C hT hP
  refine BltOK.lenL rfl (by simp; lia) (BltOK.lenS (by lia) ⟨fun hc => ?_, fun hc => ?_⟩)
  · have h1 : ¬ a + run.length ≤ name.length := by have := of_decide_eq_true hc; simp at this; lia
    exact ⟨_, .self _, by simp [gAt, h1]⟩
  have h1 : a + run.length ≤ name.length := by have := of_decide_eq_false hc; simp at this; lia
  refine BltOK.lenL rfl (by simp; lia) (BltOK.range1 ?_)
  simp only [List.length_map]
  refine ForOK.mk' (IterOK.range (n := run.length) (.inl rfl) (rangeSize_to _) (by lia) (by lia) (by lia)) (fun i vars mem => mem = [] ∧ (∃ b c d, vars = [vGr run, .str name, .int a, b, c, d]) ∧ ∀ j, j < i → gokAt run name a j = true) ?_ ?_ ?_
  · exact ⟨rfl, ⟨_, _, _, rfl⟩, fun j hj => absurd hj (Nat.not_lt_zero j)⟩
  · rintro i x vars mem rw hx ⟨rfl, ⟨b, c, d, rfl⟩, hI⟩
    obtain ⟨hi, rfl⟩ := range_item hx
    refine IdxOK.map rfl ⟨by lia, by lia⟩ (by lia) fun g hg => ?_
    rw [show (0 + (i : Int) * 1).toNat = i by lia] at hg
    obtain ⟨ch, hch⟩ : ∃ ch, name[a + i]? = some ch := ⟨_, List.getElem?_eq_getElem (by lia)⟩
    have hgo : gokAt run name a i = gok g ch := by simp only [gokAt, hg, hch]
    have hgp := hp g (List.mem_of_getElem? hg)
    obtain ⟨barred, pairs⟩ := g
    have hgp' : pairs.length ≤ 100000 := hgp
    have hit : itm name (↑a + (0 + (i : Int) * 1)) = some ch := by
      unfold itm
      rw [if_neg (by lia), show ((a : Int) + (0 + (i : Int) * 1)).toNat = a + i by lia]
      exact hch
    refine CompK.filt2 pairs vPair (inP ch) (fun zu => V.int 1) IterOK.list (by lia) (fun Ci zu zu v hv J hJ a0 b0 rw => ?_) ?_
    · obtain ⟨lo, hi'⟩ := v
      refine IdxOK.str ⟨by lia, by lia⟩ (by lia) hit ⟨fun h3 => ⟨fun h4 => Stb.two (J_eq hJ (if_pos (by simp only [inP, h3, h4, Bool.and_true]))), fun h4 => Stb.two (J_eq hJ (if_neg (by simp only [inP, h3, h4, Bool.and_false]; decide)))⟩,
        fun h3 => ⟨fun h => Bool.noConfusion h, fun zu => Stb.two (J_eq hJ (if_neg (by simp only [inP, h3, Bool.false_and]; decide)))⟩⟩
    · have hany : (!(((pairs.filter (inP ch)).map fun zu => V.int 1)).isEmpty) = pairs.any (inP ch) := by rw [List.isEmpty_map, filter_empty, Bool.not_not]
      refine LstOK.still (CmpOK.neNil rfl rfl ?_)
      rw [hany]
      refine ⟨fun hc5 => ⟨rfl, _, .self _, ?_⟩, fun hc5 => ⟨rfl, rfl, ⟨_, _, _, rfl⟩, next_all hI (hgo.trans (by simp only [gok, bne, hc5, Bool.not_false]))⟩⟩
      rw [gAt_false hi]
      rw [hgo]
      simp only [gok, eq_of_beq hc5, bne_self_eq_false]
  · rintro vars mem ⟨rfl, ⟨b, c, d, rfl⟩, hI⟩
    simp only [List.length_map, List.length_range] at hI
    exact ⟨_, .self _, by unfold gAt; rw [List.all_eq_true.mpr fun j hj => hI j (by simpa using hj), decide_eq_true h1]; rfl⟩
end
section
theorem gAt_len {run : List Ge} {name : List Nat} {a : Nat} (h : gAt run name a = true) : a + run.length ≤ name.length := by
  unfold gAt at h
  simp only [Bool.and_eq_true, decide_eq_true_eq] at h
  exact h.1
noncomputable def seek (run : List Ge) (name : List Nat) (a : Nat) : Option Nat := (List.range (name.length + 1)).find? fun h => decide (a ≤ h) && gAt run name h
theorem seek_some {run : List Ge} {name : List Nat} {a h : Nat} (h1 : a ≤ h) (h2 : gAt run name h = true) (h3 : ∀ j, a ≤ j → j < h → gAt run name j = false) : seek run name a = some h := by
  unfold seek
  have := gAt_len h2
  rw [List.find?_range_eq_some]
  refine ⟨by simp [h1, h2], by simp; lia, fun j hj => ?_⟩
  rcases Nat.lt_or_ge j a with q | q
  · simp; lia
  · simp [h3 j q hj]
theorem seek_none {run : List Ge} {name : List Nat} {a : Nat} (h3 : ∀ j, a ≤ j → gAt run name j = false) : seek run name a = none := by
  unfold seek
  rw [List.find?_eq_none]
  intro j _
  simp only [Bool.and_eq_true, decide_eq_true_eq, not_and, Bool.not_eq_true]
  exact h3 j
noncomputable def shr (name : List Nat) : List (List Ge) → Nat → List (List Nat) → Option (Nat × List (List Nat))
  | [], a, acc => some (a, acc)
  | run :: rest, a, acc => match seek run name a with
    | none => none
    | some h => shr name rest (h + run.length) (acc ++ [seg name a h])
theorem shr_append (name : List Nat) : ∀ (l l' : List (List Ge)) (a : Nat) (acc : List (List Nat)), shr name (l ++ l') a acc = match shr name l a acc with | none => none | some (a', acc') => shr name l' a' acc'
  | [], l', a, acc => rfl
  | run :: rest, l', a, acc => by
    rw [List.cons_append]
    show (match seek run name a with | none => none | some h => shr name (rest ++ l') (h + run.length) (acc ++ [seg name a h])) = match (match seek run name a with | none => none | some h => shr name rest (h + run.length) (acc ++ [seg name a h])) with | none => none | some (a', acc') => shr name l' a' acc'
    cases seek run name a with
    | none => rfl
    | some h => exact shr_append name rest l' _ _
noncomputable def shares1 (r0 : List Ge) (name : List Nat) : Option (List (List Nat)) := if gAt r0 name 0 && decide (r0.length = name.length) then some [] else none
noncomputable def shares2 (r0 : List Ge) (mid : List (List Ge)) (rl : List Ge) (name : List Nat) : Option (List (List Nat)) :=
  if gAt r0 name 0 then match shr name mid r0.length [] with
    | none => none
    | some (a, acc) => if decide (a + rl.length ≤ name.length) && gAt rl name (name.length - rl.length) then some (acc ++ [seg name a (name.length - rl.length)]) else none
  else none
noncomputable def vOpt : Option (List (List Nat)) → V
  | none => .none
  | some l => .list (l.map V.str)
structure SRun (r : List Ge) : Prop where
  l : r.length ≤ 100000
  g : ∀ g ∈ r, g.2.length ≤ 100000
noncomputable def SInv (name : List Nat) (runs : V) (r0 : List Ge) (mid : List (List Ge)) (i : Nat) (vars : List V) (mem : List (Addr × List V)) : Prop :=
  ∃ a acc sA u1 u2 u3, shr name (mid.take i) r0.length [] = some (a, acc) ∧ a ≤ name.length ∧ acc.length ≤ i ∧ mem = [(sA, acc.map V.str)] ∧ vars = [runs, .str name, .int (a : Int), .mut sA, u1, u2, u3]
set_option maxHeartbeats 4000000 in
theorem shares_walk1 {w : World} {mg mb : Str → Option Value} (r0 : List Ge) (name : List Nat) (h0 : SRun r0) (hl2 : name.length ≤ 100000) : FnOK (TT w mg mb) 108 12 147 [.list [vGr r0], .str name] (fun r => r = vOpt (shares1 r0 name)) := by
  refine' FnOK.sem (F := F147 w mg mb) (f := 147) (dds := []) (dvs := []) [Str.ofString "runs", Str.ofString "name"]
    [Str.ofString "at", Str.ofString "shares", Str.ofString "run", Str.ofString "here", Str.ofString "last"] [.list [vGr r0], .str name, .undef, .undef, .undef, .undef, .undef]
    (hK := by rfl) (by kernel_rfl) rfl (by kernel_rfl) (fun zu zu => .nil) (fun zu zu zu hv => binds2 hv fun zu zu => rfl) rfl rfl ?s ?b
  case s => exact (ders w mg mb).2.2.2.2.2.2.2.2.2.2.2.2.1.2
  intro C hT hP
  have hh := h0.l
  refine IdxOK.lstI rfl (by decide) (Nat.le_of_ble_eq_true rfl) rfl ?_
  refine FunOK.is hT hP (at_walk r0 name 0 h0.l hl2 h0.g) (by decide) ⟨fun hc => ?_, fun hc => ?_⟩
  · have : gAt r0 name 0 = false := by simpa using hc
    exact ⟨_, .self _, by simp [shares1, this, vOpt]⟩
  have hg : gAt r0 name 0 = true := by simpa using hc
  refine BltOK.lenL rfl (by simp) ⟨fun zu => ?_, fun hc2 => absurd hc2 (by simp)⟩
  refine IdxOK.lstI rfl (by decide) (Nat.le_of_ble_eq_true rfl) rfl ?_
  refine BltOK.lenL rfl (by simp; lia) (BltOK.lenS (by lia) ⟨fun hc2 => ?_, fun hc2 => ?_⟩)
  · have : r0.length = name.length := by simp at hc2; lia
    exact LstOK.still ⟨_, .self _, by simp [shares1, hg, this, vOpt]⟩
  · have : ¬ r0.length = name.length := by simp at hc2; lia
    exact ⟨_, .self _, by simp [shares1, this, vOpt]⟩

set_option maxHeartbeats 4000000 in
set_option tactic.hygienic true in
theorem shares_walk2 {w : World} {mg mb : Str → Option Value} (r0 : List Ge) (mid : List (List Ge)) (rl : List Ge) (name : List Nat) (h0 : SRun r0) (hm : ∀ r ∈ mid, SRun r) (hml : mid.length ≤ 100000) (hrl : SRun rl) (hl2 : name.length ≤ 100000) :
    FnOK (TT w mg mb) 108 12 147 [.list ((r0 :: (mid ++ [rl])).map vGr), .str name] (fun r => r = vOpt (shares2 r0 mid rl name)) := by
  refine' FnOK.sem (F := F147 w mg mb) (f := 147) (dds := []) (dvs := []) [Str.ofString "runs", Str.ofString "name"]
    [Str.ofString "at", Str.ofString "shares", Str.ofString "run", Str.ofString "here", Str.ofString "last"] [.list ((r0 :: (mid ++ [rl])).map vGr), .str name, .undef, .undef, .undef, .undef, .undef]
    (hK := by rfl) (by kernel_rfl) rfl (by kernel_rfl) (fun zu zu => .nil) (fun zu zu zu hv => binds2 hv fun zu zu => rfl) rfl rfl ?s ?b
  case s => exact (ders w mg mb).2.2.2.2.2.2.2.2.2.2.2.2.1.2
  intro C hT hP
  have hh := h0.l
  have hh2 := hrl.l
  have i0 : itm ((r0 :: (mid ++ [rl])).map vGr) 0 = some (vGr r0) := by simp [itm]
  have il : itm ((r0 :: (mid ++ [rl])).map vGr) (-1) = some (vGr rl) := by rw [← List.cons_append, List.map_append]; exact itm_last _ _
  have hlen : ((r0 :: (mid ++ [rl])).map vGr).length = mid.length + 2 := by simp
  have hsl : slc ((r0 :: (mid ++ [rl])).map vGr) (some 1) (some (-1)) = mid.map vGr := by rw [slc_map, slc_mid]
  generalize (r0 :: (mid ++ [rl])).map vGr = R at i0 il hlen hsl
  refine IdxOK.lstI rfl (by decide) (by lia) i0 ?_
  refine FunOK.is hT hP (at_walk r0 name 0 h0.l hl2 h0.g) (by decide) ⟨fun hc => ?_, fun hc => ?_⟩
  · have : gAt r0 name 0 = false := by simpa using hc
    exact ⟨_, .self _, by simp [shares2, this, vOpt]⟩
  have hg : gAt r0 name 0 = true := by simpa using hc
  have hg0 := gAt_len hg
  refine BltOK.lenL rfl (by lia) ⟨fun hc1 => absurd hc1 (by simp; lia), fun zu => ?_⟩
  refine IdxOK.lstI rfl (by decide) (by lia) i0 ?_
  refine BltOK.lenL rfl (by simp; lia) (LstOK.grow fun sA hsA => ?_)
  refine SlcOK.lst rfl (by lia) ?_
  rw [hsl, List.length_map]
  refine ForOK.mk' IterOK.list (SInv name (.list R) r0 mid) ⟨r0.length, [], sA, _, _, _, rfl, by lia, by simp, rfl, rfl⟩ ?_ ?_
  · rintro i x vars mem rw hx ⟨a, acc, sA, u1, u2, u3, hI, ha, hacc, rfl, rfl⟩
    rw [List.getElem?_map] at hx
    cases hi : mid[i]? with
    | none => rw [hi] at hx; cases hx
    | some run =>
    rw [hi] at hx; cases hx
    have hil : i < mid.length := (List.getElem?_eq_some_iff.mp hi).1
    have hrun := hm run (List.mem_of_getElem? hi)
    have hrunl := hrun.l
    have hstep : shr name (mid.take (i + 1)) r0.length [] = match seek run name a with | none => none | some h => some (h + run.length, acc ++ [seg name a h]) := by
      rw [List.take_add_one, hi, Option.toList_some, shr_append, hI]
      rfl
    refine ⟨fun m σ => ∃ h, a ≤ h ∧ h ≤ name.length + 1 ∧ m = name.length + 1 - h ∧ (∀ j, a ≤ j → j < h → gAt run name j = false) ∧ σ = ⟨[.list R, .str name, .int a, .mut sA, vGr run, .int h, u3], [(sA, acc.map V.str)], rw⟩, name.length + 1 - a,
      ⟨a, Nat.le_refl _, by lia, rfl, fun j h1 h2 => absurd h1 (by lia), rfl⟩, ?_⟩
    rintro n σ ⟨h, hah, hhn, rfl, hno, rfl⟩
    have hnone : (∀ j, h ≤ j → gAt run name j = false) → vOpt (shares2 r0 mid rl name) = .none := fun hall => by
      have hs : seek run name a = none := seek_none fun j hj => by
        rcases Nat.lt_or_ge j h with q | q
        · exact hno j hj q
        · exact hall j q
      rw [hs] at hstep
      have hmid : shr name mid r0.length [] = none := by
        rw [← List.take_append_drop (i + 1) mid, shr_append, hstep]
      simp [shares2, hg, hmid, vOpt]
    have next : gAt run name h = false → h + run.length ≤ name.length → ∃ m, m < name.length + 1 - h ∧ ∃ h', a ≤ h' ∧ h' ≤ name.length + 1 ∧ m = name.length + 1 - h' ∧ (∀ j, a ≤ j → j < h' → gAt run name j = false) ∧
        (⟨[.list R, .str name, .int a, .mut sA, vGr run, .int ((h : Int) + 1), u3], [(sA, acc.map V.str)], rw⟩ : Mine.St) = ⟨[.list R, .str name, .int a, .mut sA, vGr run, .int h', u3], [(sA, acc.map V.str)], rw⟩ := fun hf hl3 =>
      ⟨name.length + 1 - (h + 1), by lia, h + 1, by lia, by lia, rfl, fun j h1 h2 => by
        rcases Nat.lt_or_ge j h with q | q
        · exact hno j h1 q
        · rw [show j = h by lia]; exact hf, rfl⟩
    refine ⟨decide (h + run.length ≤ name.length) && !gAt run name h, ?_, fun hc2 => ?_, fun hc2 => ?_⟩
    · refine BltOK.lenL rfl (by simp; lia) (BltOK.lenS (by lia) ⟨fun h3 => ?_, fun h3 => ⟨?_, rfl⟩⟩)
      · refine FunOK.is hT hP (at_walk run name h hrun.l hl2 hrun.g) (by decide) ⟨?_, rfl⟩
        have : h + run.length ≤ name.length := by have := of_decide_eq_true h3; simp at this; lia
        rw [decide_eq_true this, Bool.true_and]
      · have : ¬ h + run.length ≤ name.length := by have := of_decide_eq_false h3; simp at this; lia
        rw [decide_eq_false this, Bool.false_and]
    · simp only [Bool.and_eq_true, decide_eq_true_eq, Bool.not_eq_true'] at hc2
      exact next hc2.2 hc2.1
    · refine BltOK.lenL rfl (by simp; lia) (BltOK.lenS (by lia) ⟨fun h3 => ?_, fun h3 => ?_⟩)
      · have hl3 : ¬ h + run.length ≤ name.length := by have := of_decide_eq_true h3; simp at this; lia
        refine ⟨rfl, _, .self _, (hnone fun j hj => ?_).symm⟩
        cases q : gAt run name j with
        | false => rfl
        | true => have := gAt_len q; lia
      · have hl3 : h + run.length ≤ name.length := by have := of_decide_eq_false h3; simp at this; lia
        have hf : gAt run name h = true := by simpa [hl3] using hc2
        rw [seek_some hah hf hno] at hstep
        refine ⟨⟨rfl, _, memGet_one⟩, SlcOK.str (by lia) ?_⟩
        rw [slc_seg _ _ _ (by lia) hah]
        refine BltOK.append memGet_one (by simp; lia) (BltOK.lenL rfl (by simp; lia) ?_)
        exact ⟨rfl, h + run.length, acc ++ [seg name a h], sA, _, _, _, hstep, hl3, by simp; lia, by simp [memSet_one], by simp only [List.length_map]; rfl⟩
  · rintro vars mem ⟨a, acc, sA, u1, u2, u3, hI, ha, hacc, rfl, rfl⟩
    rw [List.length_map, List.take_length] at hI
    rw [List.length_map] at hacc
    refine BltOK.lenS (by lia) (IdxOK.lstI rfl (by decide) (by lia) il (BltOK.lenL rfl (by simp; lia) ?_))
    refine ⟨decide (a + rl.length ≤ name.length) && gAt rl name (name.length - rl.length) |> not, ⟨fun h3 => ⟨?_, rfl⟩, fun h3 => ?_⟩, fun hc2 => ?_, fun hc2 => ?_⟩
    · have hlt : ¬ a + rl.length ≤ name.length := by have := of_decide_eq_true h3; simp at this; lia
      rw [decide_eq_false hlt]; rfl
    · have hlt : a + rl.length ≤ name.length := by have := of_decide_eq_false h3; simp at this; lia
      rw [show (name.length : Int) - ((rl.map vGe).length : Int) = ((name.length - rl.length : Nat) : Int) by simp; lia]
      refine IdxOK.lstI rfl (by decide) (by lia) il (FunOK.is hT hP (at_walk rl name (name.length - rl.length) hrl.l hl2 hrl.g) (by decide) ⟨?_, rfl⟩)
      rw [decide_eq_true hlt]; rfl
    · exact ⟨_, .self _, by simp only [shares2, hg, hI, if_true]; rw [show (decide (a + rl.length ≤ name.length) && gAt rl name (name.length - rl.length)) = false from (Bool.not_eq_true' _).mp hc2]; rfl⟩
    · have hc2 : (decide (a + rl.length ≤ name.length) && gAt rl name (name.length - rl.length)) = true := by simpa using hc2
      have hlt : a + rl.length ≤ name.length := by simp at hc2; exact hc2.1
      rw [show (name.length : Int) - ((rl.map vGe).length : Int) = ((name.length - rl.length : Nat) : Int) by simp; lia]
      refine SlcOK.str (by lia) ?_
      rw [slc_seg _ _ _ (by lia) (by lia)]
      refine LstOK.still (BinOK.addL lst_one rfl (by simp; lia) ⟨_, .self _, ?_⟩)
      simp [shares2, hg, hI, hc2, vOpt]
end
section
noncomputable def ksI (a : Int) (n : Nat) : List Int := (List.range n).map fun (i : Nat) => a + (i : Int)
theorem ksI_rng (a : Int) (n : Nat) : ((List.range n).map fun (i : Nat) => V.int (a + (i : Int) * 1)) = (ksI a n).map V.int := by simp [ksI]
theorem ksI_len (a : Int) (n : Nat) : (ksI a n).length = n := by simp [ksI]
theorem ksI_mem {a x : Int} {n : Nat} : x ∈ ksI a n ↔ a ≤ x ∧ x < a + n := by
  unfold ksI
  simp only [List.mem_map, List.mem_range]
  constructor
  · rintro ⟨i, hi, rfl⟩; lia
  · rintro ⟨h1, h2⟩; exact ⟨(x - a).toNat, by lia, by lia⟩
theorem itI {k : Nat} {C : FC} {a b : Int} (ha : -1000000 ≤ a ∧ a ≤ 1000000) (hb : -1000000 ≤ b ∧ b ≤ 1000000) : IterOK k C (.rng a b 1) ((ksI a (b - a).toNat).map V.int) := by
  rw [← ksI_rng]
  exact IterOK.range (.inl rfl) (rangeSize_I a b) ha hb (by lia)
theorem fits_bound {run : List It} {row : List Int} {a : Int} (h : fits run row a = true) : 0 ≤ a ∧ a + run.length ≤ row.length := by
  unfold fits at h
  simp only [Bool.and_eq_true, Bool.not_eq_true', Bool.or_eq_false_iff, decide_eq_false_iff_not] at h
  lia
noncomputable def lat1 (row : List Int) (e : Int) (run : List It) : Int := ((ksI 0 (e - run.length + 1 - 0).toNat).filter (fits run row)).foldl max (-1)
theorem foldl_max_ge (l : List Int) : ∀ m, m ≤ l.foldl max m ∧ (∀ x ∈ l, x ≤ l.foldl max m) ∧ (l.foldl max m = m ∨ l.foldl max m ∈ l) := by
  induction l with
  | nil => intro m; simp
  | cons a r ih =>
    intro m
    obtain ⟨h1, h2, h3⟩ := ih (max m a)
    simp only [List.foldl_cons]
    refine ⟨by lia, fun x hx => ?_, ?_⟩
    · rcases List.mem_cons.mp hx with rfl | hx
      · lia
      · exact h2 x hx
    · rcases h3 with h3 | h3
      · rcases Int.le_total m a with q | q
        · right; rw [h3, Int.max_eq_right q]; exact .head _
        · left; rw [h3, Int.max_eq_left q]
      · right; exact .tail _ h3
theorem max_unique {l : List Int} {m : Int} (h1 : m ∈ (-1 : Int) :: l) (h2 : ∀ x ∈ (-1 : Int) :: l, x ≤ m) : l.foldl max (-1) = m := by
  obtain ⟨q1, q2, q3⟩ := foldl_max_ge l (-1)
  have a1 : l.foldl max (-1) ≤ m := by
    rcases q3 with q | q
    · rw [q]; exact h2 _ (.head _)
    · exact h2 _ (.tail _ q)
  have a2 : m ≤ l.foldl max (-1) := by
    rcases List.mem_cons.mp h1 with q | q
    · rw [q]; exact q1
    · exact q2 _ q
  lia
theorem lat1_spec {row : List Int} {e : Int} {run : List It} (h : 0 ≤ lat1 row e run) : fits run row (lat1 row e run) = true ∧ lat1 row e run + run.length ≤ e := by
  obtain ⟨q1, q2, q3⟩ := foldl_max_ge ((ksI 0 (e - run.length + 1 - 0).toNat).filter (fits run row)) (-1)
  have : lat1 row e run ∈ (ksI 0 (e - run.length + 1 - 0).toNat).filter (fits run row) := by
    rcases q3 with q | q
    · unfold lat1 at h; lia
    · exact q
  rw [List.mem_filter, ksI_mem] at this
  exact ⟨this.2, by lia⟩
theorem lat1_ge {row : List Int} {e : Int} {run : List It} {x : Int} (h : fits run row x = true) (hx : x + run.length ≤ e) : x ≤ lat1 row e run := by
  obtain ⟨q1, q2, q3⟩ := foldl_max_ge ((ksI 0 (e - run.length + 1 - 0).toNat).filter (fits run row)) (-1)
  have := fits_bound h
  exact q2 x (List.mem_filter.mpr ⟨ksI_mem.mpr (by lia), h⟩)
noncomputable def Feas (row : List Int) : List (List It) → Int → Int → Prop
  | [], a, e => a ≤ e
  | m :: r, a, e => ∃ k, a ≤ k ∧ fits m row k = true ∧ Feas row r (k + m.length) e
theorem Feas.mono {row : List Int} : ∀ {ms : List (List It)} {a a' e : Int}, a' ≤ a → Feas row ms a e → Feas row ms a' e
  | [], _, _, _, h, f => Int.le_trans h f
  | m :: r, _, _, _, h, ⟨k, h1, h2, h3⟩ => ⟨k, Int.le_trans h h1, h2, h3⟩
theorem feas_late {row : List Int} : ∀ {ms : List (List It)} {a e : Int}, 0 ≤ a → a ≤ ms.foldr (fun m e => lat1 row e m) e → Feas row ms a e
  | [], a, e, _, h => h
  | m :: r, a, e, h0, h => by
    simp only [List.foldr_cons] at h
    obtain ⟨h1, h2⟩ := lat1_spec (Int.le_trans h0 h)
    have := fits_bound h1
    exact ⟨_, h, h1, feas_late (by lia) h2⟩
theorem late_feas {row : List Int} : ∀ {ms : List (List It)} {a e : Int}, Feas row ms a e → a ≤ ms.foldr (fun m e => lat1 row e m) e
  | [], a, e, h => h
  | m :: r, a, e, ⟨k, h1, h2, h3⟩ => by
    simp only [List.foldr_cons]
    exact Int.le_trans h1 (lat1_ge h2 (late_feas h3))
theorem Feas.end {row : List Int} : ∀ {ms : List (List It)} {a e : Int}, Feas row ms a e → a ≤ e
  | [], _, _, h => h
  | m :: r, _, _, ⟨k, h1, h2, h3⟩ => by have := h3.end; lia
noncomputable def seekT (row : List Int) (run : List It) (a : Nat) : Option Nat := (List.range row.length).find? fun h => decide (a ≤ h) && fits run row h
noncomputable def tel (row : List Int) : List (List It) → Nat → List (List Int) → Option (Nat × List (List Int))
  | [], a, acc => some (a, acc)
  | run :: rest, a, acc => match seekT row run a with
    | none => none
    | some h => tel row rest (h + run.length) (acc ++ [seg row a h])
theorem tel_append (row : List Int) : ∀ (l l' : List (List It)) (a : Nat) (acc : List (List Int)), tel row (l ++ l') a acc = match tel row l a acc with | none => none | some (a', acc') => tel row l' a' acc'
  | [], l', a, acc => rfl
  | run :: rest, l', a, acc => by
    rw [List.cons_append]
    show (match seekT row run a with | none => none | some h => tel row (rest ++ l') (h + run.length) (acc ++ [seg row a h])) = match (match seekT row run a with | none => none | some h => tel row rest (h + run.length) (acc ++ [seg row a h])) with | none => none | some (a', acc') => tel row l' a' acc'
    cases seekT row run a with
    | none => rfl
    | some h => exact tel_append row rest l' _ _
noncomputable def told1 (r0 : List It) (row : List Int) : Option (List (List Int)) := if fits r0 row 0 && decide (r0.length = row.length) then some [] else none
noncomputable def told2 (r0 : List It) (mid : List (List It)) (rl : List It) (row : List Int) : Option (List (List Int)) :=
  if fits r0 row 0 && fits rl row ((row.length : Int) - rl.length) && decide ((r0.length : Int) ≤ mid.foldr (fun m e => lat1 row e m) ((row.length : Int) - rl.length)) then
    match tel row mid r0.length [] with
    | none => none
    | some (a, acc) => some (acc ++ [seg row a (row.length - rl.length)])
  else none
noncomputable abbrev vRow (l : List Int) : V := .list (l.map V.int)
noncomputable def vTold : Option (List (List Int)) → V
  | none => .none
  | some l => .list (l.map vRow)
set_option maxHeartbeats 4000000 in
theorem told_walk1 {w : World} {mg mb : Str → Option Value} (r0 : List It) (row : List Int) (h0 : r0.length ≤ 1000) (hl2 : row.length ≤ 1000) : FnOK (TT w mg mb) 108 12 159 [.list [vRun r0], vRow row] (fun r => r = vTold (told1 r0 row)) := by
  refine' FnOK.sem (F := F159 w mg mb) (f := 159) (dds := []) (dvs := []) [Str.ofString "runs", Str.ofString "row"]
    [Str.ofString "late", Str.ofString "run", Str.ofString "told", Str.ofString "at", Str.ofString "here"] [.list [vRun r0], vRow row, .undef, .undef, .undef, .undef, .undef]
    (hK := by rfl) (by kernel_rfl) rfl (by kernel_rfl) (fun zu zu => .nil) (fun zu zu zu hv => binds2 hv fun zu zu => rfl) rfl rfl ?s ?b
  case s => exact (ders w mg mb).2.2.2.2.2.2.2.2.2.2.2.2.2.2.1.2
  intro C hT hP
  refine IdxOK.lstI rfl (by decide) (Nat.le_of_ble_eq_true rfl) rfl ?_
  refine FunOK.is hT hP (fits_walk r0 row 0 h0 hl2) (by decide) ⟨fun hc => ?_, fun hc => ?_⟩
  · have : fits r0 row 0 = false := by simpa using hc
    exact ⟨_, .self _, by simp [told1, this, vTold]⟩
  have hg : fits r0 row 0 = true := by simpa using hc
  refine BltOK.lenL rfl (by simp) ⟨fun zu => ?_, fun hc2 => absurd hc2 (by simp)⟩
  refine IdxOK.lstI rfl (by decide) (Nat.le_of_ble_eq_true rfl) rfl ?_
  refine BltOK.lenL rfl (by simp; lia) (BltOK.lenL rfl (by simp; lia) ⟨fun hc2 => ?_, fun hc2 => ?_⟩)
  · have : r0.length = row.length := by simp at hc2; lia
    exact LstOK.still ⟨_, .self _, by simp [told1, hg, this, vTold]⟩
  · have : ¬ r0.length = row.length := by simp at hc2; lia
    exact ⟨_, .self _, by simp [told1, this, vTold]⟩
theorem seekT_min {row : List Int} {run : List It} {a : Nat} {m : Int} (h1 : m ∈ (ksI a ((row.length : Int) - a).toNat).filter (fits run row)) (h2 : ∀ x ∈ (ksI a ((row.length : Int) - a).toNat).filter (fits run row), m ≤ x) : seekT row run a = some m.toNat ∧ (a : Int) ≤ m ∧ fits run row m = true := by
  rw [List.mem_filter, ksI_mem] at h1
  obtain ⟨⟨p1, p2⟩, p3⟩ := h1
  refine ⟨?_, p1, p3⟩
  unfold seekT
  rw [List.find?_range_eq_some]
  have em : ((m.toNat : Nat) : Int) = m := by lia
  refine ⟨by rw [em, p3]; simp; lia, by simp; lia, fun j hj => ?_⟩
  cases q : fits run row (j : Int) with
  | false => simp
  | true =>
    simp only [Bool.and_true, Bool.not_eq_true', decide_eq_false_iff_not]
    intro haj
    have := h2 (j : Int) (List.mem_filter.mpr ⟨ksI_mem.mpr (by lia), q⟩)
    lia
noncomputable def TInv (row : List Int) (runs : V) (r0 : List It) (mid : List (List It)) (e : Int) (i : Nat) (vars : List V) (mem : List (Addr × List V)) : Prop :=
  ∃ a acc sA u1 u2 u3, tel row (mid.take i) r0.length [] = some (a, acc) ∧ Feas row (mid.drop i) a e ∧ acc.length ≤ i ∧ mem = [(sA, acc.map vRow)] ∧ vars = [runs, vRow row, u1, u2, .mut sA, .int (a : Int), u3]
set_option maxHeartbeats 4000000 in
theorem told_walk2 {w : World} {mg mb : Str → Option Value} (r0 : List It) (mid : List (List It)) (rl : List It) (row : List Int) (h0 : r0.length ≤ 1000) (hm : ∀ r ∈ mid, r ≠ [] ∧ r.length ≤ 1000) (hml : mid.length ≤ 1000) (hrl : rl.length ≤ 1000) (hl2 : row.length ≤ 1000) :
    FnOK (TT w mg mb) 108 12 159 [.list ((r0 :: (mid ++ [rl])).map vRun), vRow row] (fun r => r = vTold (told2 r0 mid rl row)) := by
  refine' FnOK.sem (F := F159 w mg mb) (f := 159) (dds := []) (dvs := []) [Str.ofString "runs", Str.ofString "row"]
    [Str.ofString "late", Str.ofString "run", Str.ofString "told", Str.ofString "at", Str.ofString "here"] [.list ((r0 :: (mid ++ [rl])).map vRun), vRow row, .undef, .undef, .undef, .undef, .undef]
    (hK := by rfl) (by kernel_rfl) rfl (by kernel_rfl) (fun zu zu => .nil) (fun zu zu zu hv => binds2 hv fun zu zu => rfl) rfl rfl ?s ?b
  case s => exact (ders w mg mb).2.2.2.2.2.2.2.2.2.2.2.2.2.2.1.2
  intro C hT hP
  have i0 : itm ((r0 :: (mid ++ [rl])).map vRun) 0 = some (vRun r0) := by simp [itm]
  have il : itm ((r0 :: (mid ++ [rl])).map vRun) (-1) = some (vRun rl) := by rw [← List.cons_append, List.map_append]; exact itm_last _ _
  have hlen : ((r0 :: (mid ++ [rl])).map vRun).length = mid.length + 2 := by simp
  have hsl : slc ((r0 :: (mid ++ [rl])).map vRun) (some 1) (some (-1)) = mid.map vRun := by rw [slc_map, slc_mid]
  have hR : (r0 :: (mid ++ [rl])).map vRun = vRun r0 :: (mid.map vRun ++ [vRun rl]) := by simp
  generalize (r0 :: (mid ++ [rl])).map vRun = R at i0 il hlen hsl hR
  refine IdxOK.lstI rfl (by decide) (by lia) i0 ?_
  refine FunOK.is hT hP (fits_walk r0 row 0 h0 hl2) (by decide) ⟨fun hc => ?_, fun hc => ?_⟩
  · have : fits r0 row 0 = false := by simpa using hc
    exact ⟨_, .self _, by simp [told2, this, vTold]⟩
  have hg : fits r0 row 0 = true := by simpa using hc
  have hg0 := (fits_bound hg).2
  have hl16 : row.length ≤ 16777216 := by lia
  have hrl16 : rl.length ≤ 16777216 := by lia
  have h016 : r0.length ≤ 16777216 := by lia
  have hR16 : R.length ≤ 16777216 := by lia
  refine BltOK.lenL rfl (by lia) ⟨fun hc1 => absurd hc1 (by simp; lia), fun zu => ?_⟩
  refine BltOK.lenM rfl hl16 (IdxOK.lstI rfl (by decide) (by lia) il (BltOK.lenM rfl hrl16 ?_))
  refine IdxOK.lstI rfl (by decide) (by lia) il ?_
  refine FunOK.is hT hP (fits_walk rl row ((row.length : Int) - (rl.length : Int)) hrl hl2) (by decide) ?_
  generalize he : (row.length : Int) - (rl.length : Int) = e
  refine ⟨fun hc2 => ?_, fun hc2 => ?_⟩
  · have : fits rl row e = false := by simpa using hc2
    exact ⟨_, .self _, by simp [told2, he, this, vTold]⟩
  have hgl : fits rl row e = true := by simpa using hc2
  have heb := fits_bound hgl
  refine SlcOK.revMid hR (by lia) ?_
  rw [← List.map_reverse]
  refine ForOK.mk' IterOK.list (fun i vars mem => mem = [] ∧ ∃ u, vars = [.list R, vRow row, .int ((mid.reverse.take i).foldl (lat1 row) e), u, .undef, .undef, .undef] ∧ -1 ≤ (mid.reverse.take i).foldl (lat1 row) e ∧ (mid.reverse.take i).foldl (lat1 row) e ≤ 1000) ⟨rfl, _, rfl, by simp; lia, by simp; lia⟩ ?_ ?_
  · rintro i x vars mem rw hx ⟨rfl, u, rfl, hb1, hb2⟩
    rw [List.getElem?_map] at hx
    cases hi : mid.reverse[i]? with
    | none => rw [hi] at hx; cases hx
    | some run =>
    rw [hi] at hx; cases hx
    have hrun := (hm run (List.mem_reverse.mp (List.mem_of_getElem? hi))).2
    have hstep : (mid.reverse.take (i + 1)).foldl (lat1 row) e = lat1 row ((mid.reverse.take i).foldl (lat1 row) e) run := by
      rw [List.take_add_one, hi, Option.toList_some, List.foldl_append]; rfl
    generalize (mid.reverse.take i).foldl (lat1 row) e = late at hb1 hb2 hstep ⊢
    refine LstOK.still (BltOK.lenM rfl (by lia) (BltOK.range1 ?_))
    refine CompK.filt1 (ksI 0 (late - run.length + 1 - 0).toNat) V.int (fits run row) V.int (itI (by lia) (by lia)) (by rw [ksI_len]; lia) (fun Ci hT' hP' v hv J hJ a0 rw => ?_) ?_
    · exact FunOK.is (hT'.trans hT) (hP'.trans hP) (fits_walk run row v hrun hl2) (by decide) ⟨fun hf => Stb.one (J_eq hJ (if_pos hf)), fun hf => Stb.one (J_eq hJ (if_neg (by rw [hf]; decide)))⟩
    have hfl := List.length_filter_le (fits run row) (ksI 0 (late - run.length + 1 - 0).toNat)
    rw [ksI_len] at hfl
    refine BinOK.addL rfl rfl (by simp only [List.length_map, List.length_cons, List.length_nil]; lia) ?_
    refine BltOK.max (ns := (-1) :: (ksI 0 (late - run.length + 1 - 0).toNat).filter (fits run row)) (by simp [lst?]) (by simp) (fun m hm1 hm2 => ?_)
    have hmx : lat1 row late run = m := max_unique hm1 hm2
    have hm3 : -1 ≤ m := hm2 (-1) (.head _)
    have hm4 : m ≤ 1000 := by
      rcases List.mem_cons.mp hm1 with q | q
      · lia
      · have := ksI_mem.mp (List.mem_filter.mp q).1; lia
    rw [hmx] at hstep
    exact ⟨rfl, rfl, _, by rw [hstep], hstep ▸ hm3, hstep ▸ hm4⟩
  · rintro vars mem ⟨rfl, u, rfl, hb1, hb2⟩
    rw [List.length_map, List.take_length] at hb1 hb2
    rw [List.length_map, List.take_length]
    rw [List.foldl_reverse] at hb1 hb2 ⊢
    generalize hlt : mid.foldr (fun x y => lat1 row y x) e = late at hb1 hb2 ⊢
    have hlate : late = mid.foldr (fun m e => lat1 row e m) e := hlt.symm
    clear hlt
    refine IdxOK.lstI rfl (by decide) (by lia) i0 (BltOK.lenM rfl h016 ⟨fun hc3 => ?_, fun hc3 => ?_⟩)
    · have h3 : ¬ (r0.length : Int) ≤ late := Int.not_le.mpr (of_decide_eq_true hc3)
      exact ⟨_, .self _, by simp only [told2, he, ← hlate, h3]; simp [vTold]⟩
    have h3 : (r0.length : Int) ≤ late := Int.not_lt.mp (of_decide_eq_false hc3)
    have hfeas : Feas row mid r0.length e := feas_late (by lia) (hlate ▸ h3)
    refine LstOK.grow fun sA hsA => ?_
    refine IdxOK.lstI rfl (by decide) (by lia) i0 (BltOK.lenM rfl h016 ?_)
    refine SlcOK.lstE rfl hR16 hsl ?_
    refine ForOK.mk' IterOK.list (TInv row (.list R) r0 mid e) ⟨r0.length, [], sA, _, _, _, rfl, hfeas, by simp, rfl, rfl⟩ ?_ ?_
    · rintro i x vars mem rw hx ⟨a, acc, sA, u1, u2, u3, hI, hF, hacc, rfl, rfl⟩
      rw [List.getElem?_map] at hx
      cases hi : mid[i]? with
      | none => rw [hi] at hx; cases hx
      | some run =>
      rw [hi] at hx; cases hx
      have hil := (List.getElem?_eq_some_iff.mp hi).1
      have hrun := (hm run (List.mem_of_getElem? hi)).2
      have hpos := List.length_pos_iff.mpr (hm run (List.mem_of_getElem? hi)).1
      have hstep : tel row (mid.take (i + 1)) r0.length [] = match seekT row run a with | none => none | some h => some (h + run.length, acc ++ [seg row a h]) := by
        rw [List.take_add_one, hi, Option.toList_some, tel_append, hI]
        rfl
      have hdrop : mid.drop i = run :: mid.drop (i + 1) := by
        rw [List.drop_eq_getElem_cons hil]; congr 1
        exact (List.getElem?_eq_some_iff.mp hi).2
      rw [hdrop] at hF
      have hFe := hF.end
      obtain ⟨k0, hk1, hk2, hk3⟩ := hF
      have hkb := fits_bound hk2
      refine BltOK.lenM rfl hl16 (BltOK.range2 ?_)
      refine CompK.filt1 (ksI a ((row.length : Int) - a).toNat) V.int (fits run row) V.int (itI (by lia) (by lia)) (by rw [ksI_len]; lia) (fun Ci hT' hP' v hv J hJ a0 rw => ?_) ?_
      · exact FunOK.is (hT'.trans hT) (hP'.trans hP) (fits_walk run row v hrun hl2) (by decide) ⟨fun hf => Stb.one (J_eq hJ (if_pos hf)), fun hf => Stb.one (J_eq hJ (if_neg (by rw [hf]; decide)))⟩
      have hk0 : k0 ∈ (ksI a ((row.length : Int) - a).toNat).filter (fits run row) := List.mem_filter.mpr ⟨ksI_mem.mpr (by lia), hk2⟩
      refine BltOK.min (ns := (ksI a ((row.length : Int) - a).toNat).filter (fits run row)) rfl (List.ne_nil_of_mem hk0) (fun m hm1 hm2 => ?_)
      obtain ⟨q1, q2, q3⟩ := seekT_min hm1 hm2
      have q4 := hm2 k0 hk0
      have hmb := fits_bound q3
      rw [q1] at hstep
      obtain ⟨h, rfl⟩ : ∃ h : Nat, m = h := ⟨m.toNat, by lia⟩
      rw [Int.toNat_natCast] at hstep
      have hF2 : Feas row (mid.drop (i + 1)) ((h + run.length : Nat) : Int) e := hk3.mono (by lia)
      have haccl : acc.length ≤ 1000 := by lia
      refine ⟨⟨rfl, _, memGet_one⟩, SlcOK.lstE rfl (by rw [List.length_map]; exact hl16) (by rw [slc_map, slc_seg _ _ _ (by lia) (by lia)]) ?_⟩
      refine BltOK.append memGet_one (by rw [List.length_map]; lia) (BltOK.lenM rfl (by lia) ?_)
      exact ⟨rfl, h + run.length, acc ++ [seg row a h], sA, _, _, _, hstep, hF2, by simp; lia, by simp [memSet_one], rfl⟩
    · rintro vars mem ⟨a, acc, sA, u1, u2, u3, hI, hF, hacc, rfl, rfl⟩
      rw [List.length_map] at hI hF hacc
      rw [List.take_length] at hI
      rw [List.drop_length] at hF
      have haccl : acc.length ≤ 1000 := by lia
      have hae : (a : Int) ≤ e := hF
      refine BltOK.lenM rfl hl16 (IdxOK.lstI rfl (by decide) (by lia) il (BltOK.lenM rfl hrl16 ?_))
      refine SlcOK.lstE rfl (by rw [List.length_map]; exact hl16) (by rw [show (row.length : Int) - (rl.length : Int) = ((row.length - rl.length : Nat) : Int) by lia, slc_map, slc_seg _ _ _ (by lia) (by lia)]) ?_
      refine LstOK.still (BinOK.addL lst_one rfl (by simp; lia) ⟨_, .self _, ?_⟩)
      have ht : told2 r0 mid rl row = some (acc ++ [seg row a (row.length - rl.length)]) := by
        unfold told2
        rw [he, hg, hgl, ← hlate, decide_eq_true h3, hI]; rfl
      rw [ht]; simp [vTold]
end
section
noncomputable def r16 : List Int := [0, 1, 2, 3, 4, 5, 6, 7, 8, 9, 10, 11, 12, 13, 14, 15]
noncomputable def half (n : Int) : List Nat × List Int :=
  if n % 6 = 0 then ([63], r16)
  else if n % 6 = 1 then ([hx (n / 6 % 16).toNat], [n / 6 % 16])
  else
    let signs := [hx (n / 6 % 16).toNat] ++ (if n % 6 < 4 then [45] else []) ++ [hx (n / 96 % 16).toNat]
    let inside := r16.filter fun v => if n % 6 < 4 then decide (n / 6 % 16 ≤ v) && decide (v ≤ n / 96 % 16) else v == n / 6 % 16 || v == n / 96 % 16
    if n % 6 % 2 = 0 then ([91] ++ signs ++ [93], inside) else ([91, 33] ++ signs ++ [93], r16.filter fun v => !decide (v ∈ inside))

theorem hex_itm {i : Int} (h : 0 ≤ i ∧ i < 16) : itm [48, 49, 50, 51, 52, 53, 54, 55, 56, 57, 65, 66, 67, 68, 69, 70] i = some (hx i.toNat) := by
  have key : ∀ d : Fin 16, itm [48, 49, 50, 51, 52, 53, 54, 55, 56, 57, 65, 66, 67, 68, 69, 70] ((d.val : Nat) : Int) = some (hx d.val) := by decide
  have := key ⟨i.toNat, by lia⟩
  simp only at this
  rwa [Int.toNat_of_nonneg h.1] at this
theorem rng16 : ((List.range 16).map fun (i : Nat) => V.int (0 + (i : Int) * 1)) = r16.map V.int := by rfl
theorem it16 {k : Nat} {C : FC} : IterOK k C (.rng 0 16 1) (r16.map V.int) := rng16 ▸ IterOK.range (.inl rfl) (rangeSize_to 16) (by lia) (by lia) (by lia)
set_option maxHeartbeats 4000000 in
theorem half_walk {w : World} {mg mb : Str → Option Value} (n : Int) : FnOK (TT w mg mb) 108 10 125 [.int n] (fun r => r = .tup [.str (half n).1, .list ((half n).2.map V.int)]) := by
  refine' FnOK.sem (F := F125 w mg mb) (f := 125) (dds := []) (dvs := []) [Str.ofString "n"]
    [Str.ofString "kind", Str.ofString "x", Str.ofString "y", Str.ofString "signs", Str.ofString "inside"] [.int n, .undef, .undef, .undef, .undef, .undef]
    (hK := by rfl) (by kernel_rfl) rfl (by kernel_rfl) (fun zu zu => .nil) (fun zu zu zu hv => binds1 hv fun zu => rfl) rfl rfl ?s ?b
  case s => exact (ders w mg mb).2.2.2.2.2.2.2.2.1.2
  intro C hT hP
  have x0 : 0 ≤ n / 6 % 16 ∧ n / 6 % 16 < 16 := by lia
  have y0 : 0 ≤ n / 96 % 16 ∧ n / 96 % 16 < 16 := by lia
  have l16 : r16.length ≤ 16777216 := by decide
  refine ⟨by decide, by decide, by decide, by decide, by decide, ⟨fun hc => ?_, fun hc0 => ⟨fun hc1 => ?_, fun hc1 => ?_⟩⟩⟩
  · have h0 : n % 6 = 0 := by simpa using hc
    refine BltOK.range1 (CompK.map1 r16 V.int V.int it16 l16 (fun Ci zu zu v hv J hJ a rw => ⟨fun zu => Stb.one hJ, nofun⟩) ⟨_, .self _, by simp [half, h0]⟩)
  · have h1 : n % 6 = 1 := by simpa using hc1
    exact IdxOK.str ⟨by simp; lia, by simp; lia⟩ (by decide) (hex_itm x0) (LstOK.still ⟨_, .self _, by simp [half, h1]⟩)
  have h0 : ¬ n % 6 = 0 := by simpa using hc0
  have h1 : ¬ n % 6 = 1 := by simpa using hc1
  have hsg := half.eq_1 n
  simp only [if_neg h0, if_neg h1] at hsg
  refine IdxOK.str ⟨by simp; lia, by simp; lia⟩ (by decide) (hex_itm x0) ?_
  refine ⟨.str (if n % 6 < 4 then [45] else []), ⟨fun h4 => ⟨by rw [if_pos (of_decide_eq_true h4)], rfl⟩, fun h4 => ⟨by rw [if_neg (of_decide_eq_false h4)], rfl⟩⟩, ⟨by split <;> simp, ?_⟩⟩
  refine IdxOK.str ⟨by simp; lia, by simp; lia⟩ (by decide) (hex_itm y0) ⟨by split <;> simp, BltOK.range1 ?_⟩
  refine CompK.filt1 r16 V.int (fun v => if n % 6 < 4 then decide (n / 6 % 16 ≤ v) && decide (v ≤ n / 96 % 16) else v == n / 6 % 16 || v == n / 96 % 16) V.int it16 l16 (fun Ci zu zu v hv J hJ a rw => ?_) ?_
  · refine ⟨if n % 6 < 4 then decide (n / 6 % 16 ≤ v) && decide (v ≤ n / 96 % 16) else v == n / 6 % 16 || v == n / 96 % 16, ⟨fun h4 => ?_, fun h4 => ?_⟩, fun h => Stb.one (J_eq hJ (if_pos h)), fun h => Stb.one (J_eq hJ (if_neg (by rw [h]; decide)))⟩
    · rw [if_pos (of_decide_eq_true h4)]
      exact ⟨fun h5 => ⟨by rw [h5]; rfl, rfl⟩, fun h5 => ⟨by rw [h5]; rfl, rfl⟩⟩
    · rw [if_neg (of_decide_eq_false h4)]
      exact ⟨_, ⟨fun h5 => ⟨(by rw [h5]; rfl : true = (v == n / 6 % 16 || v == n / 96 % 16)), rfl⟩, fun h5 => ⟨by rw [h5]; rfl, rfl⟩⟩, rfl, rfl⟩
  refine ⟨by decide, ⟨fun h2 => ⟨by split <;> simp, by split <;> simp, ⟨_, .self _, ?_⟩⟩, fun h2 => ⟨by split <;> simp, by split <;> simp, BltOK.range1 (CompK.filt1 r16 V.int (fun v => !decide (v ∈ r16.filter fun v => if n % 6 < 4 then decide (n / 6 % 16 ≤ v) && decide (v ≤ n / 96 % 16) else v == n / 6 % 16 || v == n / 96 % 16)) V.int it16 l16
    (fun Ci zu zu v hv J hJ a rw => CmpOK.notinI rfl ⟨fun h => Stb.one (J_eq hJ (if_pos h)), fun h => Stb.one (J_eq hJ (if_neg (by rw [h]; decide)))⟩) ⟨_, .self _, ?_⟩)⟩⟩⟩
  · rw [hsg, if_pos (by simpa using h2)]
  · rw [hsg, if_neg (by simpa using h2)]

theorem half_len (n : Int) : (half n).1.length ≤ 6 := by
  unfold half
  split
  · simp
  · split
    · simp
    · dsimp only
      split <;> split <;> simp
theorem half_mem (n : Int) : ∀ v ∈ (half n).2, 0 ≤ v ∧ v < 16 := by
  have h16 : ∀ v ∈ r16, 0 ≤ v ∧ v < 16 := by decide
  unfold half
  split
  · exact h16
  · split
    · intro v hv
      simp only [List.mem_singleton] at hv
      lia
    · dsimp only
      split
      · exact fun v hv => h16 v (List.mem_filter.mp hv).1
      · exact fun v hv => h16 v (List.mem_filter.mp hv).1
theorem half_len2 (n : Int) : (half n).2.length ≤ 16 := by
  have h16 : r16.length = 16 := by decide
  unfold half
  split
  · simp [h16]
  · split
    · simp
    · dsimp only
      split
      · exact h16 ▸ List.length_filter_le _ _
      · exact h16 ▸ List.length_filter_le _ _
end
section
theorem qmap_itm {c : Nat} (h : c < 256) : itm (((List.range 256).map hexq).map V.str) (c : Int) = some (.str (hexq c)) := by
  unfold itm
  rw [if_neg (by lia), Int.toNat_natCast]
  simp [h]
set_option maxHeartbeats 4000000 in
theorem quote_walk {w : World} {mg mb : Str → Option Value} (c : Nat) (hc : c < 256) : FnOK (TT w mg mb) 108 10 61 [.str [c]] (fun r => r = .str (hexq c)) := by
  refine' FnOK.sem (F := F61 w mg mb) (f := 61) (dds := []) (dvs := []) [Str.ofString "c"] [] [.str [c]]
    (hK := by rfl) (by kernel_rfl) rfl (by kernel_rfl) (fun zu zu => .nil) (fun zu zu zu hv => binds1 hv fun zu => rfl) rfl rfl ?s ?b
  case s => exact (ders w mg mb).2.1.2
  intro C hT hP
  exact BltOK.ord (IdxOK.lst rfl ⟨by simp, by simp; lia⟩ (by simp) (qmap_itm hc) ⟨_, .self _, rfl⟩)
end
section
noncomputable def nums (script : List Int) : List Int :=
  if ((slc script none (some 5)).map (· % 100000000)).length < 3 then (slc script none (some 5)).map (· % 100000000) ++ [17, 60, 8] else (slc script none (some 5)).map (· % 100000000)
structure BS where
  pat : List Nat
  init : List (List It)
  last : List It
  row : List Int
noncomputable def fixo (o : Int) : Int := if o ∈ [10, 13] then o + 1 else o
noncomputable def sgn (i : Int) : Int := [103, 32, 46, 45, 95, 126, 9, 90].getD i.toNat 0
noncomputable def pick (l : List Int) (n : Int) : Int := l.getD (n % l.length).toNat 0
noncomputable def bstep (b : BS) (x : Int) : BS :=
  if x % 8 < 2 then ⟨b.pat ++ List.replicate (1 + x % 8).toNat 42, b.init ++ [b.last], [], b.row ++ slc [fixo (x / 32 % 256), 61, 32] none (some (x / 8 % 4))⟩
  else if x % 8 = 2 then ⟨b.pat ++ [(sgn (x / 8 % 8)).toNat], b.init, b.last ++ [(false, [sgn (x / 8 % 8) / 16], [sgn (x / 8 % 8) % 16])], b.row ++ [sgn (x / 8 % 8)]⟩
  else if x % 8 = 3 then ⟨b.pat ++ hexq (fixo (x / 32 % 256)).toNat, b.init, b.last ++ [(true, [fixo (x / 32 % 256) / 16], [fixo (x / 32 % 256) % 16])], b.row ++ [fixo (x / 32 % 256)]⟩
  else ⟨b.pat ++ ([61] ++ (half (x / 8 * 37 % 1536)).1 ++ (half ((x / 12288 + x * 53) % 1536)).1), b.init, b.last ++ [(true, (half (x / 8 * 37 % 1536)).2, (half ((x / 12288 + x * 53) % 1536)).2)],
    b.row ++ [fixo (if (half (x / 8 * 37 % 1536)).2 ≠ [] ∧ (half ((x / 12288 + x * 53) % 1536)).2 ≠ [] then 16 * pick (half (x / 8 * 37 % 1536)).2 (x / 9) + pick (half ((x / 12288 + x * 53) % 1536)).2 (x / 11) else fixo (x / 32 % 256))]⟩
noncomputable def bs0 : BS := ⟨[], [], [], []⟩
noncomputable def bfold (l : List Int) : BS := l.foldl bstep bs0
noncomputable def runsOf (init : List (List It)) (last : List It) : List (List It) := match init with
  | [] => [last ++ [(false, [2], [14])]]
  | r0 :: mid => [r0] ++ mid.filter (fun r => !r.isEmpty) ++ [last ++ [(false, [2], [14])]]

structure BM (mem : List (Addr × List V)) (rA wA b : Addr) (bs : List Addr) (st : BS) : Prop where
  nd : (rA :: wA :: b :: bs).Nodup
  r : memGet mem rA = some (bs.map V.mut ++ [.mut b])
  w : memGet mem wA = some (st.row.map V.int)
  l : memGet mem b = some (st.last.map vIt)
  i : bs.map (memGet mem) = st.init.map (fun run => some (run.map vIt))
theorem BM.len {mem : List (Addr × List V)} {rA wA b : Addr} {bs : List Addr} {st : BS} (h : BM mem rA wA b bs st) : bs.length = st.init.length := by
  have := congrArg List.length h.i
  simpa using this
section
variable {mem : List (Addr × List V)} {rA wA b : Addr} {bs : List Addr} {st : BS}
theorem BM.ne (h : BM mem rA wA b bs st) : rA ≠ wA ∧ rA ≠ b ∧ wA ≠ b ∧ rA ∉ bs ∧ wA ∉ bs ∧ b ∉ bs := by
  have := h.nd
  simp only [List.nodup_cons, List.mem_cons, not_or] at this
  obtain ⟨⟨h1, h2, h3⟩, ⟨h4, h5⟩, h6, _⟩ := this
  exact ⟨h1, h2, h4, h3, h5, h6⟩
theorem map_get_set {a : Addr} {ys : List V} (h : a ∉ bs) : bs.map (memGet (memSet mem a ys)) = bs.map (memGet mem) :=
  List.map_congr_left fun c hc => memGet_set_ne fun q => h (q ▸ hc)
theorem BM.row (h : BM mem rA wA b bs st) {ys : List V} {pat : List Nat} {row : List Int} (hy : st.row.map V.int ++ ys = row.map V.int) : BM (memSet mem wA (st.row.map V.int ++ ys)) rA wA b bs ⟨pat, st.init, st.last, row⟩ := by
  obtain ⟨h1, h2, h3, h4, h5, h6⟩ := h.ne
  exact ⟨h.nd, by rw [memGet_set_ne h1]; exact h.r, by rw [memGet_set h.w, hy], by rw [memGet_set_ne h3.symm]; exact h.l, by rw [map_get_set h5]; exact h.i⟩
theorem BM.lst (h : BM mem rA wA b bs st) {pat : List Nat} {it : It} : BM (memSet mem b (st.last.map vIt ++ [vIt it])) rA wA b bs ⟨pat, st.init, st.last ++ [it], st.row⟩ := by
  obtain ⟨h1, h2, h3, h4, h5, h6⟩ := h.ne
  exact ⟨h.nd, by rw [memGet_set_ne h2]; exact h.r, by rw [memGet_set_ne h3]; exact h.w, by rw [memGet_set h.l]; simp, by rw [map_get_set h6]; exact h.i⟩
theorem BM.new (h : BM mem rA wA b bs st) {pat : List Nat} {a : Addr} (ha : a ∉ mem.map (·.1)) : BM (memSet ((a, []) :: mem) rA ((bs.map V.mut ++ [.mut b]) ++ [.mut a])) rA wA a (bs ++ [b]) ⟨pat, st.init ++ [st.last], [], st.row⟩ := by
  obtain ⟨h1, h2, h3, h4, h5, h6⟩ := h.ne
  have n1 : rA ≠ a := fun q => ha (q ▸ memGet_key h.r)
  have n2 : wA ≠ a := fun q => ha (q ▸ memGet_key h.w)
  have n3 : b ≠ a := fun q => ha (q ▸ memGet_key h.l)
  have n4 : ∀ c ∈ bs, c ≠ a := fun c hc q => by
    have : memGet mem c ∈ bs.map (memGet mem) := List.mem_map_of_mem hc
    rw [h.i] at this
    obtain ⟨run, _, e⟩ := List.mem_map.mp this
    exact ha (q ▸ memGet_key e.symm)
  have n5 : a ∉ bs := fun hm => n4 a hm rfl
  have hnd := h.nd
  simp only [List.nodup_cons, List.mem_cons, not_or] at hnd
  refine ⟨?_, ?_, ?_, ?_, ?_⟩
  · simp only [List.nodup_cons, List.mem_cons, not_or, List.mem_append, List.not_mem_nil, or_false, List.nodup_append, List.mem_singleton]
    exact ⟨⟨h1, n1, h4, h2⟩, ⟨n2, h5, h3⟩, ⟨n5, n3.symm⟩, hnd.2.2.2, by simp, fun c hc d hd e => h6 (by rw [← hd, ← e]; exact hc)⟩
  · rw [memGet_set (xs := bs.map V.mut ++ [.mut b]) (by rw [memGet_cons_ne n1]; exact h.r)]; simp
  · rw [memGet_set_ne h1.symm, memGet_cons_ne n2]; exact h.w
  · rw [memGet_set_ne n1.symm]; unfold memGet; simp
  · rw [map_get_set (by simp only [List.mem_append, List.mem_singleton, not_or]; exact ⟨h4, h2⟩), List.map_append, List.map_append]
    rw [List.map_congr_left (fun c hc => memGet_cons_ne (n4 c hc)), h.i]
    simp [memGet_cons_ne n3, h.l]
end
theorem frz_list {mem : List (Addr × List V)} : ∀ {bs : List Addr} {init : List (List It)}, bs.map (memGet mem) = init.map (fun run => some (run.map vIt)) → Frzs mem (bs.map V.mut) (init.map vRun)
  | [], [], _ => .nil
  | b :: bs, r :: init, h => by
    simp only [List.map_cons, List.cons.injEq] at h
    exact .cons (.mut h.1 (.self _)) (frz_list h.2)
  | [], _ :: _, h => by simp at h
  | _ :: _, [], h => by simp at h
theorem BM.frz {mem : List (Addr × List V)} {rA wA b : Addr} {bs : List Addr} {st : BS} (h : BM mem rA wA b bs st) : Frz mem (.mut rA) (.list ((st.init ++ [st.last]).map vRun)) := by
  refine .mut h.r ?_
  rw [List.map_append]
  exact (frz_list h.i).append (.cons (.mut h.l (.self _)) .nil)
noncomputable def BInv (script : List Int) (i : Nat) (vars : List V) (mem : List (Addr × List V)) : Prop :=
  ∃ rA wA b bs u1 u2 u3 u4 u5 u6, BM mem rA wA b bs (bfold ((nums script).take i)) ∧ (bfold ((nums script).take i)).pat.length ≤ 20 * i ∧ (bfold ((nums script).take i)).row.length ≤ 4 * i ∧ (bfold ((nums script).take i)).init.length ≤ i ∧ (bfold ((nums script).take i)).last.length ≤ i ∧
    vars = [.list (script.map V.int), u1, .list ((nums script).map V.int), .str (bfold ((nums script).take i)).pat, .mut rA, .mut wA, u2, u3, u4, u5, u6]
theorem slc5 (script : List Int) : (slc script none (some 5)).length ≤ 5 := by rw [show slc script none (some 5) = _ from slc_0N script 5]; exact List.length_take_le ..
theorem nums_len (script : List Int) : (nums script).length ≤ 8 := by
  have := slc5 script
  unfold nums
  split
  · rw [List.length_append, List.length_map]; exact Nat.add_le_add_right this 3
  · rw [List.length_map]; exact Nat.le_trans this (by decide)
theorem st_eq {v v' : List V} {m : List (Addr × List V)} {r : List (Addr × Obj)} (h : v = v') : (⟨v, m, r⟩ : Mine.St) = ⟨v', m, r⟩ := h ▸ rfl
theorem of_eq {α : Type} {p : α → Prop} {a : α} (h : p a) : ∀ a', a' = a → p a' := fun zu e => e ▸ h
set_option maxHeartbeats 4000000 in
set_option tactic.hygienic true in
theorem built_walk {w : World} {mg mb : Str → Option Value} (script : List Int) (hl : script.length ≤ 63) : FnOK (TT w mg mb) 108 12 130 [.list (script.map V.int)]
    (fun r => r = .tup [.str ((bfold (nums script)).pat ++ [46]), .list ((runsOf (bfold (nums script)).init (bfold (nums script)).last).map vRun), .list ((bfold (nums script)).row.map V.int)]) := by
  refine' FnOK.sem (F := F130 w mg mb) (f := 130) (dds := []) (dvs := []) [Str.ofString "script"]
    [Str.ofString "x", Str.ofString "numbers", Str.ofString "pattern", Str.ofString "runs", Str.ofString "row", Str.ofString "octet", Str.ofString "first", Str.ofString "highs", Str.ofString "second", Str.ofString "lows"] [.list (script.map V.int), .undef, .undef, .undef, .undef, .undef, .undef, .undef, .undef, .undef, .undef]
    (hK := by rfl) (by kernel_rfl) rfl (by kernel_rfl) (fun zu zu => .nil) (fun zu zu zu hv => binds1 hv fun zu => rfl) rfl rfl ?s ?b
  case s => exact (ders w mg mb).2.2.2.2.2.2.2.2.2.1.2
  intro C hT hP
  have hsl := slc5 script
  refine SlcOK.lstE rfl (by simp; lia) (slc_map V.int script none (some 5)) ?_
  refine CompK.map1 (slc script none (some 5)) V.int (fun x => V.int (x % 100000000)) IterOK.list (by lia) (fun Ci zu zu v hv J hJ a rw => ⟨fun zu => BinOK.powI ⟨by decide, Stb.one hJ⟩, nofun⟩) ?_
  refine ⟨(· = ⟨[.list (script.map V.int), .undef, .list ((nums script).map V.int), .undef, .undef, .undef, .undef, .undef, .undef, .undef, .undef], [], []⟩), BltOK.lenM rfl (by lia) ⟨fun hc => LstOK.still (BinOK.addL rfl rfl (by simp; lia) ?_), fun hc => st_eq ?_⟩, of_eq ?_⟩
  · have : nums script = (slc script none (some 5)).map (· % 100000000) ++ [17, 60, 8] := if_pos (by have := of_decide_eq_true hc; rw [List.length_map]; lia)
    rw [this]; simp
  · have : nums script = (slc script none (some 5)).map (· % 100000000) := if_neg (by have := of_decide_eq_false hc; rw [List.length_map]; lia)
    rw [this, List.map_map]; rfl
  refine LstOK.grow fun b0 hb0 => LstOK.grow fun rA hrA => LstOK.grow fun wA hwA => ?_
  have hnl := nums_len script
  have hn1 : b0 ≠ rA := fun q => hrA (by simp [q])
  have hn2 : rA ≠ wA ∧ b0 ≠ wA := ⟨fun q => hwA (by simp [q]), fun q => hwA (by simp [q])⟩
  refine ForOK.mk' IterOK.list (BInv script) ⟨rA, wA, b0, [], _, _, _, _, _, _, ⟨by simp [hn1.symm, hn2.1, hn2.2.symm], ?_, ?_, ?_, rfl⟩, by simp [bfold, bs0], by simp [bfold, bs0], by simp [bfold, bs0], by simp [bfold, bs0], rfl⟩ ?_ ?_
  · show memGet [(wA, []), (rA, [.mut b0]), (b0, [])] rA = _
    simp [memGet, hn2.1.symm]
  · show memGet [(wA, []), (rA, [.mut b0]), (b0, [])] wA = _
    simp [memGet, bfold, bs0]
  · show memGet [(wA, []), (rA, [.mut b0]), (b0, [])] b0 = _
    simp [memGet, hn1.symm, hn2.2.symm, bfold, bs0]
  · rintro i x vars mem rw hx ⟨rA, wA, b, bs, u1, u2, u3, u4, u5, u6, hB, hp, hrow, hini, hlast, rfl⟩
    rw [List.getElem?_map] at hx
    cases hi : (nums script)[i]? with
    | none => rw [hi] at hx; cases hx
    | some y =>
    rw [hi] at hx; cases hx
    have hi8 : i < 8 := by have := (List.getElem?_eq_some_iff.mp hi).1; lia
    have hstep : bfold ((nums script).take (i + 1)) = bstep (bfold ((nums script).take i)) y := by
      rw [List.take_add_one, hi]; simp [bfold, List.foldl_append]
    generalize bfold ((nums script).take i) = st at hB hp hrow hini hlast hstep
    have hdone : ∀ mem' u1 u2 u3 u4 u5 u6 rA wA b' bs' st', bstep st y = st' → BM mem' rA wA b' bs' st' → st'.pat.length ≤ st.pat.length + 20 → st'.row.length ≤ st.row.length + 4 → st'.init.length ≤ st.init.length + 1 → st'.last.length ≤ st.last.length + 1 →
        BInv script (i + 1) [.list (script.map V.int), u1, .list ((nums script).map V.int), .str st'.pat, .mut rA, .mut wA, u2, u3, u4, u5, u6] mem' := by
      intro mem' u1 u2 u3 u4 u5 u6 rA wA b' bs' st' e1 e2 e3 e4 e5 e6
      refine ⟨rA, wA, b', bs', u1, u2, u3, u4, u5, u6, ?_⟩
      rw [hstep, e1]
      exact ⟨e2, by lia, by lia, by lia, by lia, rfl⟩
    have hbl := hB.len
    clear hrA hwA hb0
    have ho : 0 ≤ y / 32 % 256 ∧ y / 32 % 256 < 256 := by lia
    have ho' : 0 ≤ fixo (y / 32 % 256) ∧ fixo (y / 32 % 256) < 256 := by
      unfold fixo
      split
      · rename_i h; simp only [List.mem_cons, List.not_mem_nil, or_false] at h; lia
      · exact ho
    refine ⟨by decide, by decide, ⟨(· = ⟨[.list (script.map V.int), .int y, .list ((nums script).map V.int), .str st.pat, .mut rA, .mut wA, .int (fixo (y / 32 % 256)), u3, u4, u5, u6], mem, rw⟩), LstOK.still (CmpOK.inI (ns := [10, 13]) rfl ⟨fun hc => st_eq ?_, fun hc => st_eq ?_⟩), of_eq ?_⟩⟩
    · rw [show fixo (y / 32 % 256) = y / 32 % 256 + 1 from if_pos (of_decide_eq_true hc)]
    · rw [show fixo (y / 32 % 256) = y / 32 % 256 from if_neg (of_decide_eq_false hc)]
    generalize hoe : fixo (y / 32 % 256) = o at ho'
    have hrl : (st.row.map V.int).length ≤ 40 := by rw [List.length_map]; lia
    have hll : (st.last.map vIt).length ≤ 40 := by rw [List.length_map]; lia
    have hbsl : (bs.map V.mut).length ≤ 40 := by rw [List.length_map]; lia
    have hcur : ∀ {m : List (Addr × List V)} {Q : V → Mine.St → Prop} {vars : List V}, memGet m rA = some (bs.map V.mut ++ [.mut b]) → Q (.mut b) ⟨vars, m, rw⟩ → IdxOK 11 C (.mut rA) (.int (-1)) Q ⟨vars, m, rw⟩ := fun h q => IdxOK.end h (by lia) q
    refine ⟨by decide, ⟨fun hc => ?_, fun hc1 => ⟨by decide, ⟨fun hc2 => ?_, fun hc2 => ⟨by decide, ⟨fun hc3 => ?_, fun hc3 => ?_⟩⟩⟩⟩⟩⟩
    · have hc' : y % 8 < 2 := of_decide_eq_true hc
      have h8 : 0 ≤ y % 8 := by lia
      refine ⟨by decide, BinOK.mulS (by lia) ⟨?_, ⟨rfl, _, hB.r⟩, LstOK.grow fun a ha => ?_⟩⟩
      · rw [List.length_replicate]; lia
      have ne1 : rA ≠ a := fun q => ha (q ▸ memGet_key hB.r)
      have hB1 := hB.new (pat := st.pat ++ List.replicate (1 + y % 8).toNat 42) ha
      refine BltOK.append (by rw [memGet_cons_ne ne1]; exact hB.r) (by rw [List.length_append]; simp only [List.length_cons, List.length_nil]; lia) ⟨⟨rfl, _, hB1.w⟩, LstOK.still ⟨by decide, by decide, ?_⟩⟩
      have l3 : (slc [o, 61, 32] none (some (y / 8 % 4))).length ≤ 3 := by unfold slc; simp only [Option.elim, List.length_take, List.length_drop, List.length_cons, List.length_nil]; lia
      refine SlcOK.lstE rfl (by simp) (slc_map V.int [o, 61, 32] none (some (y / 8 % 4))) (BltOK.extend hB1.w (by simp only [List.length_map] at hrl ⊢; lia) ?_)
      refine ⟨rfl, hdone _ _ _ _ _ _ _ _ _ _ _ ⟨st.pat ++ List.replicate (1 + y % 8).toNat 42, st.init ++ [st.last], [], st.row ++ slc [o, 61, 32] none (some (y / 8 % 4))⟩ (by unfold bstep; rw [if_pos hc', hoe]) (hB1.row (by simp)) ?_ ?_ ?_ ?_⟩
      · rw [List.length_append, List.length_replicate]; lia
      · rw [List.length_append]; lia
      · simp
      · simp
    · have h1 : ¬ y % 8 < 2 := of_decide_eq_false hc1
      have h2 : y % 8 = 2 := by simpa using hc2
      refine LstOK.still ⟨by decide, by decide, IdxOK.map (f := V.int) (l := [103, 32, 46, 45, 95, 126, 9, 90]) rfl ⟨by lia, by simp; lia⟩ (by decide) fun s hs => ?_⟩
      have hso : sgn (y / 8 % 8) = s := by unfold sgn; rw [List.getD_eq_getElem?_getD, hs]; rfl
      have hob : 0 ≤ s ∧ s ≤ 126 := by
        have := List.mem_of_getElem? hs
        simp only [List.mem_cons, List.not_mem_nil, or_false] at this
        lia
      have hB1 : BM (memSet mem b (st.last.map vIt ++ [vIt (false, [s / 16], [s % 16])])) rA wA b bs _ := hB.lst (pat := st.pat ++ [s.toNat])
      refine BltOK.chr ⟨by lia, by lia⟩ ⟨by simp; lia, hcur hB.r ⟨⟨rfl, _, hB.l⟩, by decide, LstOK.still ⟨by decide, LstOK.still (BltOK.append hB.l (by lia) ⟨⟨rfl, _, hB1.w⟩, BltOK.append hB1.w (Nat.le_trans hrl (by decide)) ⟨rfl, ?_⟩⟩)⟩⟩⟩
      exact hdone _ _ _ _ _ _ _ _ _ _ _ ⟨st.pat ++ [s.toNat], st.init, st.last ++ [(false, [s / 16], [s % 16])], st.row ++ [s]⟩ (by unfold bstep; rw [if_neg h1, if_pos h2, hso]) (hB1.row (by simp)) (by simp) (by simp) (by simp) (by simp)
    · have h1 : ¬ y % 8 < 2 := of_decide_eq_false hc1
      have h2 : ¬ y % 8 = 2 := by simpa using hc2
      have h3 : y % 8 = 3 := by simpa using hc3
      have hB1 : BM (memSet mem b (st.last.map vIt ++ [vIt (true, [o / 16], [o % 16])])) rA wA b bs _ := hB.lst (pat := st.pat ++ hexq o.toNat)
      have hq : (hexq o.toNat).length = 3 := rfl
      refine BltOK.chr ⟨by lia, by lia⟩ (FunOK.is hT hP (quote_walk _ (by lia)) (by decide) ⟨by lia, hcur hB.r ⟨⟨rfl, _, hB.l⟩, by decide, LstOK.still ⟨by decide, LstOK.still (BltOK.append hB.l (by lia) ⟨⟨rfl, _, hB1.w⟩, BltOK.append hB1.w (Nat.le_trans hrl (by decide)) ⟨rfl, ?_⟩⟩)⟩⟩⟩)
      exact hdone _ _ _ _ _ _ _ _ _ _ _ ⟨st.pat ++ hexq o.toNat, st.init, st.last ++ [(true, [o / 16], [o % 16])], st.row ++ [o]⟩ (by unfold bstep; rw [if_neg h1, if_neg h2, if_pos h3, hoe]) (hB1.row (by simp)) (by rw [List.length_append]; lia) (by simp) (by simp) (by simp)
    · have h1 : ¬ y % 8 < 2 := of_decide_eq_false hc1
      have h2 : ¬ y % 8 = 2 := by simpa using hc2
      have h3 : ¬ y % 8 = 3 := by simpa using hc3
      refine ⟨by decide, by decide, by decide, FunOK.is hT hP (half_walk (y / 8 * 37 % 1536)) (by decide) ⟨by decide, by decide, by decide, FunOK.is hT hP (half_walk ((y / 12288 + y * 53) % 1536)) (by decide) ?_⟩⟩
      have hbs : bstep st y = _ := (if_neg h1).trans ((if_neg h2).trans (if_neg h3))
      have f1 := half_len (y / 8 * 37 % 1536)
      have f2 := half_len2 (y / 8 * 37 % 1536)
      have f3 := half_mem (y / 8 * 37 % 1536)
      have g1 := half_len ((y / 12288 + y * 53) % 1536)
      have g2 := half_len2 ((y / 12288 + y * 53) % 1536)
      rw [hoe] at hbs
      clear hoe
      generalize half (y / 8 * 37 % 1536) = f at hbs f1 f2 f3 ⊢
      generalize half ((y / 12288 + y * 53) % 1536) = g at hbs g1 g2 ⊢
      have hpl : (st.pat ++ ([61] ++ f.1 ++ g.1)).length ≤ st.pat.length + 20 := by simp only [List.length_append, List.length_cons, List.length_nil]; lia
      have hB1 : BM (memSet mem b (st.last.map vIt ++ [vIt (true, f.2, g.2)])) rA wA b bs _ := hB.lst (pat := st.pat ++ ([61] ++ f.1 ++ g.1))
      generalize hoe : (if f.2 ≠ [] ∧ g.2 ≠ [] then 16 * pick f.2 (y / 9) + pick g.2 (y / 11) else o) = o2 at hbs
      refine ⟨by simp; lia, by simp; lia, by simp; lia, hcur hB.r ⟨⟨rfl, _, hB.l⟩, BltOK.append hB.l (by lia) ⟨(· = ⟨[.list (script.map V.int), .int y, .list ((nums script).map V.int), .str (st.pat ++ ([61] ++ f.1 ++ g.1)), .mut rA, .mut wA, .int o2, .str f.1, .list (f.2.map V.int), .str g.1, .list (g.2.map V.int)], memSet mem b (st.last.map vIt ++ [vIt (true, f.2, g.2)]), rw⟩), ⟨!(f.2.map V.int).isEmpty && !(g.2.map V.int).isEmpty, LstOK.still (CmpOK.neNil rfl rfl ⟨fun h5 => LstOK.still (CmpOK.neNil rfl rfl ⟨by rw [h5]; rfl, rfl⟩), fun h5 => ⟨by rw [h5]; rfl, rfl⟩⟩), fun hc => ?_, fun hc => st_eq ?_⟩, of_eq ⟨⟨rfl, _, hB1.w⟩, .int (fixo o2), LstOK.still (CmpOK.inI (ns := [10, 13]) rfl ⟨fun hc => ⟨?_, rfl⟩, fun hc => ⟨?_, rfl⟩⟩), BltOK.append hB1.w (Nat.le_trans hrl (by decide)) ⟨rfl, ?_⟩⟩⟩⟩⟩
      · have e5 : f.2 ≠ [] := by intro e; rw [e] at hc; exact absurd hc (by simp)
        have e6 : g.2 ≠ [] := by intro e; rw [e] at hc; exact absurd hc (by simp)
        have p5 : 0 < (f.2.length : Int) := Int.natCast_pos.mpr (List.length_pos_iff.mpr e5)
        have p6 : 0 < (g.2.length : Int) := Int.natCast_pos.mpr (List.length_pos_iff.mpr e6)
        refine ⟨by decide, BltOK.lenM rfl (by lia) ⟨p5, IdxOK.map rfl ⟨Int.emod_nonneg _ (by lia), Int.emod_lt_of_pos _ p5⟩ (by lia) fun v1 hv1 => ?_⟩⟩
        have r1 := f3 v1 (List.mem_of_getElem? hv1)
        refine ⟨by lia, by decide, BltOK.lenM rfl (by lia) ⟨p6, IdxOK.map rfl ⟨Int.emod_nonneg _ (by lia), Int.emod_lt_of_pos _ p6⟩ (by lia) fun v2 hv2 => st_eq ?_⟩⟩
        have q1 : pick f.2 (y / 9) = v1 := by unfold pick; rw [List.getD_eq_getElem?_getD, hv1]; rfl
        have q2 : pick g.2 (y / 11) = v2 := by unfold pick; rw [List.getD_eq_getElem?_getD, hv2]; rfl
        rw [← hoe, if_pos ⟨e5, e6⟩, q1, q2]
      · rw [← hoe, if_neg]
        rintro ⟨e5, e6⟩
        rw [List.isEmpty_map, List.isEmpty_map, List.isEmpty_eq_false_iff.mpr e5, List.isEmpty_eq_false_iff.mpr e6] at hc
        exact absurd hc (by decide)
      · rw [show fixo o2 = o2 + 1 from if_pos (of_decide_eq_true hc)]
      · rw [show fixo o2 = o2 from if_neg (of_decide_eq_false hc)]
      · exact hdone _ _ _ _ _ _ _ _ _ _ _ _ hbs (hB1.row (by simp)) hpl (by simp) (by simp) (by simp)
  · rintro vars mem ⟨rA, wA, b, bs, u1, u2, u3, u4, u5, u6, hB, hp, hrow, hini, hlast, rfl⟩
    rw [List.length_map, List.take_length] at hB hp hrow hini hlast
    rw [List.length_map, List.take_length]
    have hbl := hB.len
    generalize bfold (nums script) = st at hB hp hrow hini hlast hbl
    clear hrA hwA hb0
    have hll : (st.last.map vIt).length ≤ 40 := by rw [List.length_map]; lia
    have hbsl : (bs.map V.mut).length ≤ 40 := by rw [List.length_map]; lia
    have hB1 : BM (memSet mem b (st.last.map vIt ++ [vIt (false, [2], [14])])) rA wA b bs _ := hB.lst (pat := st.pat)
    have hfz : Frz (memSet mem b (st.last.map vIt ++ [.tup [.bool false, .list [.int 2], .list [.int 14]]])) (.mut rA) (.list ((st.init ++ [st.last ++ [(false, [2], [14])]]).map vRun)) := hB1.frz
    have hfw : memGet (memSet mem b (st.last.map vIt ++ [.tup [.bool false, .list [.int 2], .list [.int 14]]])) wA = some (st.row.map V.int) := hB1.w
    have hIl : (st.init ++ [st.last ++ [(false, [2], [14])]]).length = st.init.length + 1 := by simp
    refine IdxOK.end hB.r (by lia) ⟨⟨rfl, _, hB.l⟩, LstOK.still (LstOK.still (BltOK.append hB.l (by lia) ⟨[.list (script.map V.int), u1, .list ((nums script).map V.int), .str st.pat, .list ((st.init ++ [st.last ++ [(false, [2], [14])]]).map vRun), .list (st.row.map V.int), u2, u3, u4, u5, u6],
      .cons (.self _) (.cons (.self _) (.cons (.self _) (.cons (.self _) (.cons hfz (.cons (.mut hfw (.self _)) (.cons (.self _) (.cons (.self _) (.cons (.self _) (.cons (.self _) (.cons (.self _) .nil)))))))))),
      (· = ⟨[.list (script.map V.int), u1, .list ((nums script).map V.int), .str st.pat, .list ((runsOf st.init st.last).map vRun), .list (st.row.map V.int), u2, u3, u4, u5, u6], [], []⟩),
      BltOK.lenM rfl (by lia) ⟨fun hc => ?_, fun hc => st_eq ?_⟩, of_eq ⟨by simp; lia, _, .self _, rfl⟩⟩))⟩
    · have hne : 0 < st.init.length := by have := of_decide_eq_true hc; lia
      match hin : st.init, hne with
      | r0 :: mid, _ =>
      have hR : ((r0 :: mid) ++ [st.last ++ [(false, [2], [14])]]).map vRun = vRun r0 :: (mid.map vRun ++ [vRun (st.last ++ [(false, [2], [14])])]) := by simp
      have hml : mid.length ≤ 8 := by rw [hin, List.length_cons] at hini; lia
      have hfl := List.length_filter_le (fun r : List It => !r.isEmpty) mid
      generalize ((r0 :: mid) ++ [st.last ++ [(false, [2], [14])]]).map vRun = R at hR
      have hRl : R.length = mid.length + 2 := by rw [hR]; simp
      refine IdxOK.lst (d := vRun r0) rfl ⟨by lia, by lia⟩ (by lia) (by rw [hR]; simp [itm]) (LstOK.still (SlcOK.lstE rfl (by lia) (by rw [hR, slc_mid]) ?_))
      refine CompK.filt1 mid vRun (fun r => !r.isEmpty) vRun IterOK.list (by lia) (fun Ci zu zu v hv J hJ a rw => LstOK.still (CmpOK.neNil rfl rfl ⟨fun h => Stb.one (J_eq hJ (if_pos (by rwa [List.isEmpty_map] at h))), fun h => Stb.one (J_eq hJ (if_neg (by rw [List.isEmpty_map] at h; rw [h]; decide)))⟩)) ?_
      refine BinOK.addL rfl rfl (by simp; lia) (IdxOK.lst (d := vRun (st.last ++ [(false, [2], [14])])) rfl ⟨by lia, by lia⟩ (by lia) (by rw [hR, ← List.cons_append]; exact itm_last _ _) (LstOK.still (BinOK.addL rfl rfl (by simp; lia) (st_eq ?_))))
      simp [runsOf]
    · have hne : st.init = [] := List.length_eq_zero_iff.mp (by have := of_decide_eq_false hc; lia)
      simp [hne, runsOf]
end
section
structure RS where
  held : Bool
  init : List (List Ge)
  last : List Ge
  p : Nat
noncomputable def lit1 (c : Nat) : Ge := (false, [([c], [c])])
noncomputable def brk (signs : List Nat) : Option Ge :=
  let barred := decide (signs.take 1 = [94])
  let sg := if barred then signs.drop 1 else signs
  if sg = [] ∨ ((sg.drop 1).take 1 = [45] ∧ sg.drop 2 < sg.take 1) then none
  else if (sg.drop 1).take 1 = [45] then some (barred, [(sg.take 1, sg.drop 2)]) else some (barred, sg.map fun c => ([c], [c]))
noncomputable def special : List Nat := [40, 41, 42, 43, 63, 91, 93, 123, 125, 124, 94, 36]
noncomputable def rstepD (c : Nat) (r : List Nat) (s : RS) : Option RS :=
  if (c :: r).take 6 = [40, 63, 62, 46, 42, 63] ∧ s.held = false then some ⟨true, s.init ++ [s.last], [], s.p + 6⟩
  else if s.held = true ∧ ((c :: r).take 3 = [41, 46, 42] ∨ (c :: r).take 4 = [41, 40, 63, 62]) then some ⟨false, s.init, s.last, s.p + 1⟩
  else if (c :: r).take 2 = [46, 42] ∧ s.held = false then some ⟨s.held, s.init ++ [s.last], [], s.p + 2⟩
  else if (c :: r).take 4 = [40, 63, 33, 41] then some ⟨s.held, s.init, s.last ++ [(false, [])], s.p + 4⟩
  else if c = 46 then some ⟨s.held, s.init, s.last ++ [(true, [])], s.p + 1⟩
  else if c = 91 ∧ 93 ∈ c :: r then match brk (((c :: r).take ((c :: r).idxOf 93)).drop 1) with
    | none => none
    | some g => some ⟨s.held, s.init, s.last ++ [g], s.p + (c :: r).idxOf 93 + 1⟩
  else if c = 92 then some ⟨s.held, s.init, s.last ++ [lit1 (r.headD 0)], s.p + 2⟩
  else if c ∈ special then none
  else some ⟨s.held, s.init, s.last ++ [lit1 c], s.p + 1⟩
noncomputable def rstep (T : List Nat) (s : RS) : Option RS := match T.drop s.p with
  | [] => none
  | c :: r => rstepD c r s
noncomputable def rloop (T : List Nat) : Nat → RS → Option RS
  | 0, s => some s
  | n + 1, s => if s.p + 3 < T.length then match rstep T s with
    | none => none
    | some s' => rloop T n s'
    else some s
noncomputable def readF (T : List Nat) : List (List Ge) := match rloop T T.length ⟨false, [], [], 0⟩ with
  | none => []
  | some s => if s.held then [] else s.init ++ [s.last]

structure BR (mem : List (Addr × List V)) (rA b : Addr) (bs : List Addr) (init : List (List Ge)) (last : List Ge) : Prop where
  nd : (rA :: b :: bs).Nodup
  r : memGet mem rA = some (bs.map V.mut ++ [.mut b])
  l : memGet mem b = some (last.map vGe)
  i : bs.map (memGet mem) = init.map (fun run => some (run.map vGe))
theorem BR.len {mem : List (Addr × List V)} {rA b : Addr} {bs : List Addr} {init : List (List Ge)} {last : List Ge} (h : BR mem rA b bs init last) : bs.length = init.length := by
  have := congrArg List.length h.i
  simpa using this
section
variable {mem : List (Addr × List V)} {rA b : Addr} {bs : List Addr} {init : List (List Ge)} {last : List Ge}
theorem BR.ne (h : BR mem rA b bs init last) : rA ≠ b ∧ rA ∉ bs ∧ b ∉ bs := by
  have := h.nd
  simp only [List.nodup_cons, List.mem_cons, not_or] at this
  exact ⟨this.1.1, this.1.2, this.2.1⟩
theorem BR.lst (h : BR mem rA b bs init last) {g : Ge} : BR (memSet mem b (last.map vGe ++ [vGe g])) rA b bs init (last ++ [g]) := by
  obtain ⟨h1, h2, h3⟩ := h.ne
  exact ⟨h.nd, by rw [memGet_set_ne h1]; exact h.r, by rw [memGet_set h.l]; simp, by rw [map_get_set h3]; exact h.i⟩
theorem BR.new (h : BR mem rA b bs init last) {a : Addr} (ha : a ∉ mem.map (·.1)) : BR (memSet ((a, []) :: mem) rA ((bs.map V.mut ++ [.mut b]) ++ [.mut a])) rA a (bs ++ [b]) (init ++ [last]) [] := by
  obtain ⟨h1, h2, h3⟩ := h.ne
  have n1 : rA ≠ a := fun q => ha (q ▸ memGet_key h.r)
  have n3 : b ≠ a := fun q => ha (q ▸ memGet_key h.l)
  have n4 : ∀ c ∈ bs, c ≠ a := fun c hc q => by
    have : memGet mem c ∈ bs.map (memGet mem) := List.mem_map_of_mem hc
    rw [h.i] at this
    obtain ⟨run, _, e⟩ := List.mem_map.mp this
    exact ha (q ▸ memGet_key e.symm)
  have n5 : a ∉ bs := fun hm => n4 a hm rfl
  have hnd := h.nd
  simp only [List.nodup_cons, List.mem_cons, not_or] at hnd
  refine ⟨?_, ?_, ?_, ?_⟩
  · simp only [List.nodup_cons, List.mem_cons, not_or, List.mem_append, List.not_mem_nil, or_false, List.nodup_append, List.mem_singleton]
    exact ⟨⟨n1, h2, h1⟩, ⟨n5, n3.symm⟩, hnd.2.2, by simp, fun c hc d hd e => h3 (by rw [← hd, ← e]; exact hc)⟩
  · rw [memGet_set (xs := bs.map V.mut ++ [.mut b]) (by rw [memGet_cons_ne n1]; exact h.r)]; simp
  · rw [memGet_set_ne n1.symm]; unfold memGet; simp
  · rw [map_get_set (by simp only [List.mem_append, List.mem_singleton, not_or]; exact ⟨h2, h1⟩), List.map_append, List.map_append]
    rw [List.map_congr_left (fun c hc => memGet_cons_ne (n4 c hc)), h.i]
    simp [memGet_cons_ne n3, h.l]
end
theorem frz_listR {mem : List (Addr × List V)} : ∀ {bs : List Addr} {init : List (List Ge)}, bs.map (memGet mem) = init.map (fun run => some (run.map vGe)) → Frzs mem (bs.map V.mut) (init.map vGr)
  | [], [], _ => .nil
  | b :: bs, r :: init, h => by
    simp only [List.map_cons, List.cons.injEq] at h
    exact .cons (.mut h.1 (.self _)) (frz_listR h.2)
  | [], _ :: _, h => by simp at h
  | _ :: _, [], h => by simp at h
theorem BR.frz {mem : List (Addr × List V)} {rA b : Addr} {bs : List Addr} {init : List (List Ge)} {last : List Ge} (h : BR mem rA b bs init last) : Frz mem (.mut rA) (.list ((init ++ [last]).map vGr)) := by
  refine .mut h.r ?_
  rw [List.map_append]
  exact (frz_listR h.i).append (.cons (.mut h.l (.self _)) .nil)
theorem drop_behind (H T : List Nat) (j : Nat) : (H ++ T).drop (H.length + j) = T.drop j := by rw [← List.drop_drop, List.drop_left]
theorem slc_at (H T : List Nat) (p n : Nat) : slc (H ++ T) (some ((H.length + p : Nat) : Int)) (some (((H.length + p : Nat) : Int) + (n : Int))) = (T.drop p).take n := by
  show slc _ _ (some ((H.length + p + n : Nat) : Int)) = _
  rw [slc_NN, drop_behind, Nat.add_sub_cancel_left]
theorem slc_from (H T : List Nat) (p : Nat) : slc (H ++ T) (some ((H.length + p : Nat) : Int)) none = T.drop p := by rw [slc_N0, drop_behind]
theorem slc_toN {α : Type} (l : List α) (n : Nat) : slc l none (some (n : Int)) = l.take n := slc_0N l n
theorem slc_frN {α : Type} (l : List α) (n : Nat) : slc l (some (n : Int)) none = l.drop n := slc_N0 l n
theorem slc_12 (l : List Nat) : slc l (some 1) (some 2) = (l.drop 1).take 1 := slc_NN l 1 2
noncomputable def RInv (text : List Nat) (T : List Nat) (N : Nat) (fin : Option RS) (n : Nat) (σ : Mine.St) : Prop :=
  ∃ s rA b bs u1 u2 u3, rloop T n s = fin ∧ T.length ≤ s.p + n + 0 ∧ s.p ≤ T.length + 8 ∧ s.init.length + s.last.length ≤ s.p ∧ BR σ.mem rA b bs s.init s.last ∧ σ.raw = [] ∧ σ.vars = [.str text, .mut rA, .bool s.held, .int ((4 + s.p : Nat) : Int), u1, u2, u3]
section
variable {A B : Prop} [Decidable A] [Decidable B] {b : Bool}
theorem jA1 (h : decide A = true) : (!b) = decide (A ∧ b = false) := by have := of_decide_eq_true h; cases b <;> simp [this]
theorem jA0 (h : decide A = false) : false = decide (A ∧ b = false) := (decide_eq_false fun q => of_decide_eq_false h q.1).symm
theorem jO1 (h : decide A = true) : true = decide (A ∨ B) := (decide_eq_true (.inl (of_decide_eq_true h))).symm
theorem jO0 (h : decide A = false) : decide B = decide (A ∨ B) := decide_eq_decide.mpr ⟨.inr, fun q => q.resolve_left (of_decide_eq_false h)⟩
theorem jB1 (h : b = true) : decide A = decide (b = true ∧ A) := decide_eq_decide.mpr ⟨fun q => ⟨h, q⟩, fun q => q.2⟩
theorem jB0 (h : b = false) : false = decide (b = true ∧ A) := (decide_eq_false fun q => by rw [q.1] at h; cases h).symm
theorem jD1 (h : decide A = true) : decide B = decide (A ∧ B) := decide_eq_decide.mpr ⟨fun q => ⟨of_decide_eq_true h, q⟩, fun q => q.2⟩
theorem jD0 (h : decide A = false) : false = decide (A ∧ B) := (decide_eq_false fun q => of_decide_eq_false h q.1).symm
end
theorem BltOK.findE {k : Nat} {C : FC} {σ : Mine.St} {x y : List Nat} {c a j : Nat} {Q : V → Mine.St → Prop} (hd : x.drop a = y) (hm : c ∈ y) (hj : y.idxOf c = j) (q : Q (.int ((a + j : Nat) : Int)) σ) : BltOK k C (.builtin "str.find") [.str x, .str [c], .int (a : Int)] Q σ := by
  subst hd hj
  exact BltOK.find hm q
set_option maxHeartbeats 4000000 in
theorem read_walk {w : World} {mg mb : Str → Option Value} (T : List Nat) (hTl : T.length ≤ 100000) (hT3 : 3 ≤ T.length) (hend : T.drop (T.length - 3) = [41, 92, 90]) : FnOK (TT w mg mb) 108 12 135 [.str ([40, 63, 115, 58] ++ T)] (fun r => r = .list ((readF T).map vGr)) := by
  refine' FnOK.sem (F := F135 w mg mb) (f := 135) (dds := []) (dvs := []) [Str.ofString "text"]
    [Str.ofString "runs", Str.ofString "held", Str.ofString "at", Str.ofString "shut", Str.ofString "signs", Str.ofString "barred"] [.str ([40, 63, 115, 58] ++ T), .undef, .undef, .undef, .undef, .undef, .undef]
    (hK := by rfl) (by kernel_rfl) rfl (by kernel_rfl) (fun zu zu => .nil) (fun zu zu zu hv => binds1 hv fun zu => rfl) rfl rfl ?s ?b
  case s => exact (ders w mg mb).2.2.2.2.2.2.2.2.2.2.1.2
  intro C hT hP
  have htl : ([40, 63, 115, 58] ++ T).length = T.length + 4 := by simp
  have s1 : slc ([40, 63, 115, 58] ++ T) none (some 4) = [40, 63, 115, 58] := by
    unfold slc
    simp only [Option.elim]
    have h1 : clipAt ([40, 63, 115, 58] ++ T).length 4 = 4 := by have := clipAt_cast ([40, 63, 115, 58] ++ T).length 4; simp at this ⊢; lia
    rw [h1]; simp
  have s2 : slc ([40, 63, 115, 58] ++ T) (some (-3)) none = [41, 92, 90] := by
    unfold slc
    simp only [Option.elim]
    have h1 : clipAt ([40, 63, 115, 58] ++ T).length (-3) = 4 + (T.length - 3) := by have := clipAt_cast ([40, 63, 115, 58] ++ T).length (-3); simp at this ⊢; lia
    rw [h1, show 4 + (T.length - 3) = ([40, 63, 115, 58] : List Nat).length + (T.length - 3) from rfl, drop_behind, hend, List.take_of_length_le (by simp; lia)]
  generalize htext : [40, 63, 115, 58] ++ T = text at htl s1 s2
  have hs16 : text.length ≤ 16777216 := by lia
  refine ⟨false, SlcOK.strE hs16 s1 ⟨fun hc => absurd hc (by decide), fun zu => SlcOK.strE hs16 s2 ⟨by decide, rfl⟩⟩, fun hc => absurd hc (by decide), fun zu => ?_⟩
  refine LstOK.grow fun b0 hb0 => LstOK.grow fun rA hrA => ?_
  have hn1 : b0 ≠ rA := fun q => hrA (by simp [q])
  refine ⟨RInv text T (T.length) (rloop T T.length ⟨false, [], [], 0⟩), T.length, ⟨⟨false, [], [], 0⟩, rA, b0, [], _, _, _, rfl, by simp, by simp, by simp, ⟨by simp [hn1.symm], ?_, ?_, rfl⟩, rfl, rfl⟩, ?_⟩
  · show memGet [(rA, [.mut b0]), (b0, [])] rA = _
    simp [memGet]
  · show memGet [(rA, [.mut b0]), (b0, [])] b0 = _
    simp [memGet, hn1.symm]
  clear hb0 hrA hn1
  rintro n ⟨vars, mem, raw⟩ ⟨s, rA, b, bs, u1, u2, u3, hloop, hfuel, hp8, hsz, hB, hraw, hvars⟩
  dsimp only at hB hraw hvars
  subst hraw hvars
  have hBl := hB.len
  refine BltOK.lenS hs16 ⟨fun hc => ?_, fun hc => ?_⟩
  · have hp : s.p + 3 < T.length := by have := of_decide_eq_true hc; lia
    obtain ⟨n, rfl⟩ : ∃ m, n = m + 1 := ⟨n - 1, by lia⟩
    have hls : rloop T (n + 1) s = match rstep T s with | none => none | some s' => rloop T n s' := by
      show (if s.p + 3 < T.length then _ else some s) = _
      rw [if_pos hp]
    rw [hls] at hloop
    clear hls
    have hslc : ∀ j : Nat, slc text (some ((4 + s.p : Nat) : Int)) (some (((4 + s.p : Nat) : Int) + (j : Int))) = (T.drop s.p).take j := fun j => htext ▸ slc_at [40, 63, 115, 58] T s.p j
    have hfrom : slc text (some ((4 + s.p : Nat) : Int)) none = T.drop s.p := htext ▸ slc_from [40, 63, 115, 58] T s.p
    obtain ⟨c, r, hr⟩ : ∃ c r, T.drop s.p = c :: r := ⟨_, _, List.drop_eq_getElem_cons (by lia)⟩
    have hrl : r.length + s.p + 1 = T.length := by have := congrArg List.length hr; simp at this; lia
    have hitm : itm text ((4 + s.p : Nat) : Int) = some c := by
      unfold itm
      rw [if_neg (by lia), Int.toNat_natCast, ← htext]
      have : (([40, 63, 115, 58] : List Nat) ++ T).drop (([40, 63, 115, 58] : List Nat).length + s.p) = c :: r := by rw [drop_behind]; exact hr
      have h2 := congrArg (fun l => l[0]?) this
      simpa using h2
    rw [hr] at hslc hfrom
    have hrs : rstep T s = rstepD c r s := by unfold rstep; rw [hr]
    unfold rstepD at hrs
    have hnext : ∀ s' mem' rA' b' bs' u1 u2 u3, rstep T s = some s' → s.p < s'.p → s'.p ≤ T.length + 8 → s'.init.length + s'.last.length ≤ s'.p → BR mem' rA' b' bs' s'.init s'.last →
        ∃ m, m < n + 1 ∧ RInv text T T.length (rloop T T.length ⟨false, [], [], 0⟩) m ⟨[.str text, .mut rA', .bool s'.held, .int ((4 + s'.p : Nat) : Int), u1, u2, u3], mem', []⟩ := by
      intro s' mem' rA' b' bs' u1 u2 u3 q1 q2 q3 q4 q5
      rw [q1] at hloop
      exact ⟨n, Nat.lt_succ_self n, s', rA', b', bs', u1, u2, u3, hloop, by lia, q3, q4, q5, rfl, rfl⟩
    have hnone : rstep T s = none → V.list [] = V.list ((readF T).map vGr) := fun q => by
      rw [q] at hloop
      unfold readF
      rw [← hloop]
      rfl
    have hptr : -(text.length : Int) ≤ ((4 + s.p : Nat) : Int) ∧ ((4 + s.p : Nat) : Int) < text.length := by lia
    have hbl : (bs.map V.mut).length ≤ 200000 := by rw [List.length_map]; lia
    have hll : (s.last.map vGe).length ≤ 200000 := by rw [List.length_map]; lia
    have hnew : ∀ a, a ∉ mem.map (·.1) → memGet ((a, []) :: mem) rA = some (bs.map V.mut ++ [.mut b]) := fun a ha => (memGet_cons_ne (fun q : rA = a => ha (q ▸ memGet_key hB.r))).trans hB.r
    have hcur : ∀ {Q : V → Mine.St → Prop} {vars : List V}, Q (.mut b) ⟨vars, mem, []⟩ → IdxOK 11 C (.mut rA) (.int (-1)) Q ⟨vars, mem, []⟩ := fun q => IdxOK.end hB.r (by lia) q
    have happ : ∀ {Q : V → Mine.St → Prop} {vars : List V} (g : Ge) {d : V}, d = vGe g → (∀ mem', BR mem' rA b bs s.init (s.last ++ [g]) → Q .none ⟨vars, mem', []⟩) → BltOK 11 C (.builtin "list.append") [.mut b, d] Q ⟨vars, mem, []⟩ := fun g d e q => BltOK.append hB.l (by lia) (q _ (e ▸ hB.lst))
    have hsl1 : s.init.length + (s.last.length + 1) ≤ s.p + 1 := by lia
    refine ⟨decide ((c :: r).take 6 = [40, 63, 62, 46, 42, 63] ∧ s.held = false), SlcOK.strE hs16 (hslc 6) ⟨fun a => ⟨jA1 a, rfl⟩, fun a => ⟨jA0 a, rfl⟩⟩, fun hc1 => ?_, fun hc1 => ?_⟩
    · have h1 := of_decide_eq_true hc1
      rw [if_pos h1] at hrs
      have hl6 := congrArg List.length h1.1
      simp at hl6
      exact ⟨⟨rfl, _, hB.r⟩, LstOK.grow fun a ha => BltOK.append (hnew a ha) (by simp only [List.length_append, List.length_cons, List.length_nil]; lia) (hnext _ _ _ _ _ _ _ _ hrs (by simp) (by simp; lia) (by simp; lia) (hB.new ha))⟩
    have h1 := of_decide_eq_false hc1
    rw [if_neg h1] at hrs
    clear hc1
    refine ⟨decide (s.held = true ∧ ((c :: r).take 3 = [41, 46, 42] ∨ (c :: r).take 4 = [41, 40, 63, 62])), ⟨fun hh => ⟨_, SlcOK.strE hs16 (hslc 3) ⟨fun a => ⟨jO1 a, rfl⟩, fun a => SlcOK.strE hs16 (hslc 4) ⟨jO0 a, rfl⟩⟩, ⟨jB1 hh, rfl⟩⟩, fun hh => ⟨jB0 hh, rfl⟩⟩, fun hc1 => ?_, fun hc1 => ?_⟩
    · rw [if_pos (of_decide_eq_true hc1)] at hrs
      exact hnext _ _ _ _ _ _ _ _ hrs (by simp) (by simp; lia) (by simp; lia) hB
    rw [if_neg (of_decide_eq_false hc1)] at hrs
    clear hc1
    refine ⟨decide ((c :: r).take 2 = [46, 42] ∧ s.held = false), SlcOK.strE hs16 (hslc 2) ⟨fun a => ⟨jA1 a, rfl⟩, fun a => ⟨jA0 a, rfl⟩⟩, fun hc1 => ?_, fun hc1 => ?_⟩
    · rw [if_pos (of_decide_eq_true hc1)] at hrs
      exact ⟨⟨rfl, _, hB.r⟩, LstOK.grow fun a ha => BltOK.append (hnew a ha) (by simp only [List.length_append, List.length_cons, List.length_nil]; lia) (hnext _ _ _ _ _ _ _ _ hrs (by simp) (by simp; lia) (by simp; lia) (hB.new ha))⟩
    rw [if_neg (of_decide_eq_false hc1)] at hrs
    clear hc1
    refine SlcOK.strE hs16 (hslc 4) ⟨fun hc1 => ?_, fun hc1 => ?_⟩
    · rw [if_pos (of_decide_eq_true hc1)] at hrs
      exact hcur ⟨⟨rfl, _, hB.l⟩, LstOK.still (happ (false, []) rfl fun zu hB1 => hnext _ _ _ _ _ _ _ _ hrs (by simp) (by simp; lia) (by simp; lia) hB1)⟩
    rw [if_neg (of_decide_eq_false hc1)] at hrs
    clear hc1
    have hr0 : r ≠ [] := fun q => by rw [q] at hrl; simp at hrl; lia
    refine IdxOK.str hptr hs16 hitm ⟨fun hc1 => ?_, fun hc1 => ?_⟩
    · rw [if_pos (List.singleton_inj.mp (of_decide_eq_true hc1))] at hrs
      exact hcur ⟨⟨rfl, _, hB.l⟩, LstOK.still (happ (true, []) rfl fun zu hB1 => hnext _ _ _ _ _ _ _ _ hrs (by simp) (by simp; lia) (by simp; lia) hB1)⟩
    rw [if_neg (fun q => of_decide_eq_false hc1 (List.singleton_inj.mpr q))] at hrs
    clear hc1
    refine ⟨decide ([c] = [91] ∧ 93 ∈ c :: r), IdxOK.str hptr hs16 hitm ⟨fun a => SlcOK.strE hs16 hfrom (CmpOK.inS ⟨jD1 a, rfl⟩), fun a => ⟨jD0 a, rfl⟩⟩, fun hc1 => ?_, fun hc1 => ?_⟩
    · obtain ⟨hc91, hm93⟩ := of_decide_eq_true hc1
      have hc91 := List.singleton_inj.mp hc91
      rw [if_pos ⟨hc91, hm93⟩] at hrs
      have hdrop : text.drop (4 + s.p) = c :: r := by rw [← htext]; exact (drop_behind [40, 63, 115, 58] T s.p).trans hr
      have hj : (c :: r).idxOf 93 < (c :: r).length := List.idxOf_lt_length_of_mem hm93
      have hj0 : 1 ≤ (c :: r).idxOf 93 := by rw [List.idxOf_cons, hc91]; simp
      simp only [List.length_cons] at hj
      obtain ⟨j, hjj⟩ : ∃ j, (c :: r).idxOf 93 = j := ⟨_, rfl⟩
      rw [hjj] at hj hj0 hrs
      obtain ⟨signs, hsgn⟩ : ∃ g, ((c :: r).take j).drop 1 = g := ⟨_, rfl⟩
      rw [hsgn] at hrs
      have hsg : slc text (some (((4 + s.p : Nat) : Int) + 1)) (some ((4 + s.p + j : Nat) : Int)) = signs := by
        rw [show ((4 + s.p : Nat) : Int) + 1 = ((4 + s.p + 1 : Nat) : Int) by lia, slc_seg _ _ _ (by lia) (by lia), ← hsgn]
        unfold seg
        rw [← List.drop_drop, hdrop, List.drop_take]
        congr 1; lia
      have hsgl : signs.length ≤ 16777216 := by rw [← hsgn]; simp; lia
      unfold brk at hrs
      dsimp only at hrs
      obtain ⟨sg, hsq⟩ : ∃ g, (if decide (signs.take 1 = [94]) = true then signs.drop 1 else signs) = g := ⟨_, rfl⟩
      rw [hsq] at hrs
      have hsl2 : sg.length ≤ 16777216 := by
        rw [← hsq]
        split
        · simp; lia
        · exact hsgl
      refine ⟨rfl, BltOK.findE hdrop hm93 hjj (SlcOK.strE hs16 hsg (SlcOK.strE hsgl (slc_toN signs 1) ⟨.str sg, ⟨fun hb => SlcOK.strE hsgl (slc_frN signs 1) ⟨by rw [← hsq, if_pos hb], rfl⟩, fun hb => ⟨by rw [← hsq, if_neg (by rw [hb]; decide)], rfl⟩⟩, ?_⟩))⟩
      have ep : ((4 + s.p + j : Nat) : Int) + 1 = ((4 + (s.p + j + 1) : Nat) : Int) := by lia
      refine ⟨decide (sg = [] ∨ ((sg.drop 1).take 1 = [45] ∧ sg.drop 2 < sg.take 1)), ⟨fun a => ⟨jO1 a, rfl⟩, fun a => ⟨_, SlcOK.strE hsl2 (slc_12 sg) ⟨fun b => SlcOK.strE hsl2 (slc_toN sg 1) (SlcOK.strE hsl2 (slc_frN sg 2) ⟨jD1 b, rfl⟩), fun b => ⟨jD0 b, rfl⟩⟩, ⟨jO0 a, rfl⟩⟩⟩, fun hc2 => ?_, fun hc2 => ?_⟩
      · rw [if_pos (of_decide_eq_true hc2)] at hrs
        exact LstOK.still ⟨_, .self _, hnone hrs⟩
      rw [if_neg (of_decide_eq_false hc2)] at hrs
      refine SlcOK.strE hsl2 (slc_12 sg) ⟨fun hc3 => ?_, fun hc3 => ?_⟩
      · rw [if_pos (of_decide_eq_true hc3)] at hrs
        refine hcur ⟨⟨rfl, _, hB.l⟩, SlcOK.strE hsl2 (slc_toN sg 1) (SlcOK.strE hsl2 (slc_frN sg 2) (LstOK.still (happ (decide (signs.take 1 = [94]), [(sg.take 1, sg.drop 2)]) rfl fun zu hB1 => ?_)))⟩
        have := hnext _ _ _ _ _ (.int ((4 + s.p + j : Nat) : Int)) (.str sg) (.bool (decide (signs.take 1 = [94]))) hrs (by simp; lia) (by simp; lia) (by simp; lia) hB1
        rw [← ep] at this
        exact this
      · rw [if_neg (of_decide_eq_false hc3)] at hrs
        refine hcur ⟨⟨rfl, _, hB.l⟩, CompK.map1 sg (fun c => V.str [c]) (fun c => vPair ([c], [c])) IterOK.str hsl2 (fun Ci zu zu v hv J hJ a rw => ⟨fun zu => Stb.one hJ, nofun⟩) ?_⟩
        refine happ (decide (signs.take 1 = [94]), sg.map fun c => ([c], [c])) (by simp [vGe]) fun zu hB1 => ?_
        have := hnext _ _ _ _ _ (.int ((4 + s.p + j : Nat) : Int)) (.str sg) (.bool (decide (signs.take 1 = [94]))) hrs (by simp; lia) (by simp; lia) (by simp; lia) hB1
        rw [← ep] at this
        exact this
    rw [if_neg (fun q => of_decide_eq_false hc1 ⟨List.singleton_inj.mpr q.1, q.2⟩)] at hrs
    clear hc1
    obtain ⟨c1, r1, rfl⟩ : ∃ c1 r1, r = c1 :: r1 := List.exists_cons_of_ne_nil hr0
    refine IdxOK.str hptr hs16 hitm ⟨fun hc1 => ?_, fun hc1 => ?_⟩
    · rw [if_pos (List.singleton_inj.mp (of_decide_eq_true hc1))] at hrs
      have hitm1 : itm text (((4 + s.p : Nat) : Int) + 1) = some c1 := by
        unfold itm
        rw [if_neg (by lia), show (((4 + s.p : Nat) : Int) + 1).toNat = 4 + s.p + 1 by lia, ← htext]
        have : (([40, 63, 115, 58] : List Nat) ++ T).drop (([40, 63, 115, 58] : List Nat).length + s.p) = c :: c1 :: r1 := by rw [drop_behind]; exact hr
        have h2 := congrArg (fun l => l[1]?) this
        simpa using h2
      have hp1 : -(text.length : Int) ≤ ((4 + s.p : Nat) : Int) + 1 ∧ ((4 + s.p : Nat) : Int) + 1 < text.length := by lia
      exact hcur ⟨⟨rfl, _, hB.l⟩, IdxOK.str hp1 hs16 hitm1 (IdxOK.str hp1 hs16 hitm1 (LstOK.still (happ (lit1 c1) rfl fun zu hB1 => hnext _ _ _ _ _ _ _ _ hrs (by simp) (by simp; lia) (by simp; lia) hB1)))⟩
    rw [if_neg (fun q => of_decide_eq_false hc1 (List.singleton_inj.mpr q))] at hrs
    clear hc1
    refine IdxOK.str hptr hs16 hitm (CmpOK.inS ⟨fun hc1 => ?_, fun hc1 => ?_⟩)
    · rw [if_pos (show c ∈ special from of_decide_eq_true hc1)] at hrs
      exact LstOK.still ⟨_, .self _, hnone hrs⟩
    rw [if_neg (show ¬ c ∈ special from of_decide_eq_false hc1)] at hrs
    exact hcur ⟨⟨rfl, _, hB.l⟩, IdxOK.str hptr hs16 hitm (IdxOK.str hptr hs16 hitm (LstOK.still (happ (lit1 c) rfl fun zu hB1 => hnext _ _ _ _ _ _ _ _ hrs (by simp) (by simp; lia) (by simp; lia) hB1)))⟩
  · have hfin : rloop T T.length ⟨false, [], [], 0⟩ = some s := by
      rw [← hloop]
      cases n with
      | zero => rfl
      | succ n => show (if s.p + 3 < T.length then _ else some s) = some s; rw [if_neg (by have := of_decide_eq_false hc; lia)]
    have hfr : readF T = if s.held then [] else s.init ++ [s.last] := by unfold readF; rw [hfin]
    refine ⟨fun hh => LstOK.still ⟨_, .self _, by rw [hfr, if_pos hh]; rfl⟩, fun hh => ⟨_, hB.frz, by rw [hfr, if_neg (by rw [hh]; decide)]⟩⟩
end
section
set_option maxHeartbeats 4000000 in
theorem unquote_walk {w : World} {mg mb : Str → Option Value} (c : Nat) (hc : c < 256) : FnOK (TT w mg mb) 108 9 54 [.str (hexq c)] (fun r => r = .str [c]) := by
  refine' FnOK.sem (F := F54 w mg mb) (f := 54) (dds := []) (dvs := []) [Str.ofString "s"]
    [] [.str (hexq c)]
    (hK := by rfl) (by kernel_rfl) rfl (by kernel_rfl) (fun zu zu => .nil) (fun zu zu zu hv => binds1 hv fun zu => rfl) rfl rfl ?s ?b
  case s => exact (ders w mg mb).1.2
  intro C hT hP
  refine SlcOK.strE (r := [hx (c / 16), hx (c % 16)]) (by simp [hexq]) rfl (BltOK.hex hc (BltOK.chr ⟨by lia, by lia⟩ ⟨_, .self _, rfl⟩))
noncomputable def Oct (c : Nat) : Prop := c < 256 ∧ c ≠ 10 ∧ c ≠ 13
theorem enc1_ok : ∀ c, c < 256 → c ≠ 10 → c ≠ 13 → ∀ d ∈ enc1 c, Unicode.isLineBreak d = false := by decide +kernel
theorem enc1_len (c : Nat) : 1 ≤ (enc1 c).length ∧ (enc1 c).length ≤ 3 := by unfold enc1 hexq; split <;> simp
noncomputable def lnT (q : List Nat × List Nat) : List Nat := q.1.flatMap enc1 ++ q.2
noncomputable def lnO (q : List Nat × List Nat) : List Nat := q.1 ++ if q.2 = [] then [10] else []
structure Ln (q : List Nat × List Nat) : Prop where
  o : ∀ c ∈ q.1, Oct c
  n : q.1 ≠ []
  l : lnT q ≠ [] ∧ (lnT q).length ≤ 100000
  t : q.2 = [61] ∨ (q.2 = [] ∧ (lnT q).getLast? = some 46)
theorem Ln.brk {q : List Nat × List Nat} (h : Ln q) : ∀ c ∈ lnT q, Unicode.isLineBreak c = false := by
  intro c hc
  rcases List.mem_append.mp hc with hc | hc
  · obtain ⟨d, hd, hc⟩ := List.mem_flatMap.mp hc
    obtain ⟨h1, h2, h3⟩ := h.o d hd
    exact enc1_ok d h1 h2 h3 c hc
  · rcases h.t with e | ⟨e, _⟩
    · rw [e] at hc; rw [List.mem_singleton.mp hc]; decide
    · rw [e] at hc; cases hc
theorem Ln.end {q : List Nat × List Nat} (h : Ln q) : ∀ c, (lnT q).getLast? = some c → Unicode.isSpace c = false := by
  intro c hc
  rcases h.t with e | ⟨_, e⟩
  · unfold lnT at hc; rw [e, List.getLast?_append] at hc; cases hc; decide
  · rw [e] at hc; cases hc; decide
theorem linesN_go : ∀ (y acc rest : List Nat), 10 ∉ y → linesN acc (y ++ rest) = linesN (acc ++ y) rest
  | [], acc, rest, _ => by simp
  | c :: y, acc, rest, h => by
    simp only [List.mem_cons, not_or] at h
    rw [List.cons_append]
    show (if c = 10 then _ else linesN (acc ++ [c]) (y ++ rest)) = _
    rw [if_neg (Ne.symm h.1), linesN_go y _ rest h.2, List.append_assoc]; rfl
theorem linesN_join : ∀ (ls : List (List Nat)) (z : List Nat), (∀ y ∈ ls, 10 ∉ y) → 10 ∉ z → z ≠ [] → linesN [] (joinN [10] (ls ++ [z])) = ls ++ [z]
  | [], z, _, h, hz => by
    show linesN [] (z ++ []) = [z]
    rw [linesN_go z [] [] h]
    show (if _ then _ else _) = _
    rw [if_neg (by simpa using hz)]; rfl
  | y :: ls, z, h1, h2, h3 => by
    have e : joinN [10] (y :: ls ++ [z]) = y ++ 10 :: joinN [10] (ls ++ [z]) := by
      show y ++ (ls ++ [z]).flatMap _ = _
      cases ls with
      | nil => simp [joinN]
      | cons a r => simp [joinN]
    rw [e, linesN_go y [] _ (h1 y (.head _))]
    show ([] ++ y) :: linesN [] (joinN [10] (ls ++ [z])) = _
    rw [linesN_join ls z (fun y hy => h1 y (.tail _ hy)) h2 h3]; rfl
theorem itm_drop {l : List Nat} {i c : Nat} {r : List Nat} (h : l.drop i = c :: r) (j : Nat) : itm l ((i : Int) + (j : Int)) = (c :: r)[j]? := by
  unfold itm
  rw [if_neg (by lia), show ((i : Int) + (j : Int)).toNat = i + j by lia, ← h, List.getElem?_drop]
theorem bare_ne {c : Nat} (h : bare c = true) : c ≠ 61 := fun e => by rw [e] at h; revert h; decide
theorem hx_mem : ∀ d, d < 16 → hx d ∈ [48, 49, 50, 51, 52, 53, 54, 55, 56, 57, 97, 98, 99, 100, 101, 102, 65, 66, 67, 68, 69, 70] := by decide
noncomputable def DInv (x line base : List Nat) (q : List Nat × List Nat) (rw : List (Addr × Obj)) (m : Nat) (σ : Mine.St) : Prop :=
  ∃ (i : Nat) (dec : List Nat) (u : V), m = line.length - i ∧ σ.mem = [] ∧ σ.raw = rw ∧ σ.vars = [.str x, .str [10], .str dec, .str line, .int (i : Nat), .int (line.length : Nat), u] ∧
    ((i = line.length ∧ dec = base ++ lnO q) ∨ ∃ k, k ≤ q.1.length ∧ (k < q.1.length ∨ q.2 = [61]) ∧ i = ((q.1.take k).flatMap enc1).length ∧ dec = base ++ q.1.take k)
theorem lnT_drop (q : List Nat × List Nat) (k : Nat) : (lnT q).drop ((q.1.take k).flatMap enc1).length = (q.1.drop k).flatMap enc1 ++ q.2 := by
  unfold lnT
  conv => lhs; rw [← List.take_append_drop k q.1]
  rw [List.flatMap_append, List.append_assoc]
  conv => lhs; arg 1; rw [List.take_append_drop]
  exact List.drop_left
theorem enc_nil {l : List Nat} (h : (l.flatMap enc1).length = 0) : l = [] := by
  cases l with
  | nil => rfl
  | cons c r =>
    have := enc1_len c
    rw [List.flatMap_cons, List.length_append] at h
    lia
theorem joinN_end (sep y : List Nat) : ∀ l : List (List Nat), ∃ p, joinN sep (l ++ [y]) = p ++ y
  | [] => ⟨[], by simp [joinN]⟩
  | a :: r => ⟨a ++ r.flatMap (sep ++ ·) ++ sep, by simp [joinN]⟩
theorem mem_joinN {c : Nat} : ∀ {l : List (List Nat)}, c ∈ joinN [10] l → c = 10 ∨ ∃ y ∈ l, c ∈ y
  | [], h => by cases h
  | a :: r, h => by
    rcases List.mem_append.mp h with h | h
    · exact .inr ⟨a, .head _, h⟩
    · obtain ⟨y, hy, h⟩ := List.mem_flatMap.mp h
      rcases List.mem_append.mp h with h | h
      · exact .inl (List.mem_singleton.mp h)
      · exact .inr ⟨y, .tail _ hy, h⟩
set_option maxHeartbeats 4000000 in
theorem decode_walk {w : World} {mg mb : Str → Option Value} (x : List Nat) (ls : List (List Nat × List Nat)) (z : List Nat × List Nat) (hx : x = joinN [10] ((ls ++ [z]).map lnT)) (hls : ∀ q ∈ ls, Ln q) (hz : Ln z) (hz0 : z.2 = []) (hxl : x.length ≤ 100000) (hol : ((ls ++ [z]).flatMap lnO).length ≤ 100000) :
    FnOK (TT w mg mb) 108 12 82 [.str x] (fun r => r = .str (ls.flatMap lnO ++ z.1)) := by
  refine' FnOK.sem (F := F82 w mg mb) (f := 82) (dds := [.str [10]]) (dvs := [.str (S [10]) 284]) [Str.ofString "encoded", Str.ofString "eol"]
    [Str.ofString "decoded", Str.ofString "line", Str.ofString "i", Str.ofString "n", Str.ofString "c"] [.str x, .str [10], .undef, .undef, .undef, .undef, .undef]
    (hK := by rfl) (by kernel_rfl) rfl (by kernel_rfl) (fun zu zu => .cons (.str _ _) .nil) ?bb rfl rfl ?s ?b
  case s => exact (ders w mg mb).2.2.2.1.2
  case bb =>
    intro s vs hK hv
    match vs, hv with
    | [v], _ => exact binds_K (o := ⟨.type "tuple", none, .seq #[.str (S [10]) 284] 0, #[]⟩) hK rfl (by kernel_rfl) rfl rfl rfl
  intro C hT hP
  have hall : ∀ q ∈ ls ++ [z], Ln q := fun q hq => by
    rcases List.mem_append.mp hq with h | h
    · exact hls q h
    · rw [List.mem_singleton.mp h]; exact hz
  have h46 : ∃ y, x = y ++ [46] := by
    obtain ⟨p, hp⟩ := joinN_end [10] (lnT z) (ls.map lnT)
    rcases hz.t with e | ⟨_, e⟩
    · rw [hz0] at e; cases e
    · obtain ⟨y, hy⟩ := List.getLast?_eq_some_iff.mp e
      exact ⟨p ++ y, by rw [hx, List.map_append, List.map_singleton, hp, hy, List.append_assoc]⟩
  have hbrk : ∀ c ∈ x, Unicode.isLineBreak c = true → c = 10 := fun c hc h => by
    rw [hx] at hc
    rcases mem_joinN hc with h1 | ⟨y, hy, h1⟩
    · exact h1
    · obtain ⟨q, hq, rfl⟩ := List.mem_map.mp hy
      rw [(hall q hq).brk c h1] at h; cases h
  have hlines : linesN [] x = (ls ++ [z]).map lnT := by
    have h10 : ∀ q ∈ ls ++ [z], 10 ∉ lnT q := fun q hq h => by have := (hall q hq).brk 10 h; revert this; decide
    rw [hx, List.map_append, List.map_singleton]
    refine linesN_join _ _ (fun y hy => ?_) (h10 z (by simp)) hz.l.1
    obtain ⟨q, hq, rfl⟩ := List.mem_map.mp hy
    exact h10 q (List.mem_append_left _ hq)
  have hxs : x.length ≤ 16777216 := by lia
  have hne : x.isEmpty = false := by obtain ⟨y, e⟩ := h46; rw [e]; simp
  refine ⟨hxs, fun h => absurd h (by rw [hne]; decide), fun zu => ?_⟩
  refine ⟨rfl, BltOK.splitlines hbrk (by lia) ?_⟩
  rw [hlines, List.map_map]
  have hpre : ∀ i, (((ls ++ [z]).take i).flatMap lnO).length ≤ 100000 := fun i => by
    refine Nat.le_trans ?_ hol
    conv => rhs; rw [← List.take_append_drop i (ls ++ [z])]
    rw [List.flatMap_append, List.length_append]
    exact Nat.le_add_right _ _
  refine ForOK.mk' IterOK.list (fun i vars mem => mem = [] ∧ ∃ dec u1 u2 u3 u4, dec = ((ls ++ [z]).take i).flatMap lnO ∧ vars = [.str x, .str [10], .str dec, u1, u2, u3, u4]) ⟨rfl, _, _, _, _, _, rfl, rfl⟩ ?_ ?_
  · rintro i d vars mem rw hd ⟨rfl, base, u1, u2, u3, u4, hbase, rfl⟩
    rw [List.getElem?_map] at hd
    cases hi : (ls ++ [z])[i]? with
    | none => rw [hi] at hd; cases hd
    | some q =>
    rw [hi] at hd; cases hd
    have hq := hall q (List.mem_of_getElem? hi)
    have hstep : ((ls ++ [z]).take (i + 1)).flatMap lnO = base ++ lnO q := by
      rw [List.take_add_one, hi, List.flatMap_append, ← hbase]; simp
    have hbl := hpre i
    have hbl2 := hpre (i + 1)
    rw [← hbase] at hbl
    rw [hstep, List.length_append] at hbl2
    have hol1 : q.1.length ≤ (lnO q).length := by unfold lnO; rw [List.length_append]; exact Nat.le_add_right _ _
    clear hbase
    have hll : (lnT q).length ≤ 16777216 := Nat.le_trans hq.l.2 (by decide)
    have hnl : (lnT q).isEmpty = false := List.isEmpty_eq_false_iff.mpr hq.l.1
    have hdrop := lnT_drop q
    have hlen : ∀ k, ((q.1.take k).flatMap enc1).length + ((q.1.drop k).flatMap enc1).length + q.2.length = (lnT q).length := fun k => by
      unfold lnT
      conv => rhs; rw [← List.take_append_drop k q.1]
      rw [List.flatMap_append, List.length_append, List.length_append]
    have h0 : 0 < q.1.length := List.length_pos_iff.mpr hq.n
    refine ⟨rfl, BltOK.rstrip hq.end hll ⟨hll, fun h => absurd h (by simp only [Function.comp_apply, hnl]; decide), fun zu => BltOK.lenS hll ?_⟩⟩
    refine ⟨DInv x (lnT q) base q rw, (lnT q).length, ⟨0, base, u4, by simp, rfl, rfl, rfl, .inr ⟨0, by lia, .inl h0, by simp, by simp⟩⟩, ?_⟩
    rintro m ⟨vars, mem, raw⟩ ⟨i, dec, u, rfl, hm, hr, hv, hcase⟩
    dsimp only at hm hr hv
    subst hm hr hv
    refine ⟨fun hc => ?_, fun hc => ?_⟩
    · have hin : i < (lnT q).length := by have := of_decide_eq_true hc; omega
      rcases hcase with ⟨e, _⟩ | ⟨k, hk, hkt, rfl, rfl⟩
      · omega
      have hA : ∀ k' (d : List Nat) (j : Int) (u : V), k < k' → k' ≤ q.1.length → (k' < q.1.length ∨ q.2 = [61]) → j = (((q.1.take k').flatMap enc1).length : Nat) → d = base ++ q.1.take k' → ∃ m, m < (lnT q).length - ((q.1.take k).flatMap enc1).length ∧ DInv x (lnT q) base q raw m ⟨[.str x, .str [10], .str d, .str (lnT q), .int j, .int ((lnT q).length : Nat), u], [], raw⟩ := fun k' d j u h1 h2 h3 e1 e2 => by
        have h4 : ((q.1.take k').flatMap enc1).length = ((q.1.take k).flatMap enc1).length + (((q.1.take k').drop k).flatMap enc1).length := by
          conv => lhs; rw [← List.take_append_drop k (q.1.take k'), List.take_take, Nat.min_eq_left (Nat.le_of_lt h1)]
          rw [List.flatMap_append, List.length_append]
        have h5 : (((q.1.take k').drop k).flatMap enc1).length ≠ 0 := fun e => by
          have := congrArg List.length (enc_nil e)
          rw [List.length_drop, List.length_take, List.length_nil] at this
          omega
        exact ⟨_, by omega, ((q.1.take k').flatMap enc1).length, d, u, rfl, rfl, rfl, by rw [e1], .inr ⟨k', h2, h3, rfl, e2⟩⟩
      have hBB : ∀ (d : List Nat) (j : Int) (u : V), j = ((lnT q).length : Nat) → d = base ++ lnO q → ∃ m, m < (lnT q).length - ((q.1.take k).flatMap enc1).length ∧ DInv x (lnT q) base q raw m ⟨[.str x, .str [10], .str d, .str (lnT q), .int j, .int ((lnT q).length : Nat), u], [], raw⟩ := fun d j u e1 e2 =>
        ⟨0, by omega, (lnT q).length, d, u, by omega, rfl, rfl, by rw [e1], .inl ⟨rfl, e2⟩⟩
      have hdk := hdrop k
      have hlk := hlen k
      obtain ⟨pos, hpos⟩ : ∃ pos, ((q.1.take k).flatMap enc1).length = pos := ⟨_, rfl⟩
      rw [hpos] at hin hA hBB hdk hlk
      rw [hpos]
      rcases Nat.lt_or_ge k q.1.length with hkl | hkl
      · obtain ⟨c, hck⟩ : ∃ c, q.1[k] = c := ⟨_, rfl⟩
        have hdc : q.1.drop k = c :: q.1.drop (k + 1) := hck ▸ List.drop_eq_getElem_cons hkl
        have htc : q.1.take (k + 1) = q.1.take k ++ [c] := by rw [List.take_add_one, List.getElem?_eq_getElem hkl, hck]; rfl
        obtain ⟨o1, o2, o3⟩ := hq.o c (hck ▸ List.getElem_mem hkl)
        have hp1 : ((q.1.take (k + 1)).flatMap enc1).length = pos + (enc1 c).length := by rw [htc, List.flatMap_append, List.length_append, hpos]; simp
        have hl1 := hlen (k + 1)
        rw [hp1] at hl1
        have htl : (q.1.take k).length ≤ 100000 := by rw [List.length_take]; lia
        have hdec1 : base ++ q.1.take k ++ [c] = base ++ q.1.take (k + 1) := by rw [htc, List.append_assoc]
        have hend : pos + (enc1 c).length = (lnT q).length → base ++ q.1.take k ++ [c] ++ [10] = base ++ lnO q := fun e => by
          have h1 : q.2 = [] := List.length_eq_zero_iff.mp (by lia)
          have h2 := enc_nil (l := q.1.drop (k + 1)) (by lia)
          have h3 : q.1.take (k + 1) = q.1 := List.take_of_length_le (List.drop_eq_nil_iff.mp h2)
          rw [hdec1, h3]; unfold lnO; rw [h1, if_pos rfl, List.append_assoc]
        have hnot : pos + (enc1 c).length ≠ (lnT q).length → (k + 1 < q.1.length ∨ q.2 = [61]) := fun e => by
          rcases hq.t with h1 | ⟨h1, _⟩
          · exact .inr h1
          · refine .inl (Nat.lt_of_not_le fun h2 => e ?_)
            rw [List.drop_of_length_le h2, h1] at hl1
            simpa using hl1
        have hsum : (base ++ q.1.take k).length ≤ 200000 := by rw [List.length_append]; lia
        rw [hdc, List.flatMap_cons, List.append_assoc] at hdk
        cases hb : bare c with
        | true =>
          have e1 : enc1 c = [c] := by unfold enc1; rw [if_pos hb]
          rw [e1] at hdk hp1 hend hnot
          have h61' := itm_drop hdk 0
          have hne : [c] ≠ [61] := fun e => bare_ne hb (List.singleton_inj.mp e)
          refine IdxOK.strI (itN _) hll (c := c) (by simpa using h61') ⟨fun zu => ⟨Nat.le_trans (Nat.add_le_add_right hsum _) (by simp), ⟨fun he => ⟨?_, ?_⟩, fun he => ?_⟩⟩, fun h => absurd h (by rw [decide_eq_false hne]; decide)⟩
          · rw [List.length_append]; exact Nat.le_trans (Nat.add_le_add_right (Nat.add_le_add_right hsum _) _) (by simp)
          · have he : pos + 1 = (lnT q).length := by have := eq_of_beq he; lia
            exact hBB _ _ _ (by lia) (hend he)
          · have he : pos + 1 ≠ (lnT q).length := fun e => ne_of_beq_false he (by lia)
            exact hA (k + 1) _ _ _ (by lia) hkl (hnot he) (by rw [hp1]; simp) hdec1
        | false =>
          have e1 : enc1 c = hexq c := by unfold enc1; rw [if_neg (by rw [hb]; decide)]
          have e3 : (enc1 c).length = 3 := by rw [e1]; rfl
          rw [e3] at hp1 hend hnot hl1
          rw [e1] at hdk
          have i0 := itm_drop hdk 0
          have i1 := itm_drop hdk 1
          have i2 := itm_drop hdk 2
          have h3 : slc (lnT q) (some (pos : Int)) (some ((pos : Int) + 3)) = hexq c := by
            rw [show (pos : Int) + 3 = ((pos + 3 : Nat) : Int) by lia, slc_seg _ _ _ (by lia) (by lia)]
            unfold seg
            rw [hdk, show pos + 3 - pos = 3 by lia]; rfl
          refine IdxOK.strI (itN _) hll (c := 61) (by simpa using i0) ⟨fun h => absurd h (by decide), fun zu => ⟨fun he => absurd (eq_of_beq he) (by lia), fun zu => ⟨true, ⟨fun zu => IdxOK.str ⟨by lia, by lia⟩ hll i1 (CmpOK.inS ⟨fun zu => IdxOK.str ⟨by lia, by lia⟩ hll i2 (CmpOK.inS ⟨decide_eq_true (hx_mem _ (by lia)), rfl⟩), fun h => absurd (hx_mem (c / 16) (by lia)) (of_decide_eq_false h)⟩), fun h => absurd h (by simp; lia)⟩, fun zu => ?_, nofun⟩⟩⟩
          refine SlcOK.strE hll h3 (FunOK.is hT hP (unquote_walk c o1) (by decide) ⟨Nat.le_trans (Nat.add_le_add_right hsum _) (by simp), ⟨fun he => ⟨?_, ?_⟩, fun he => ?_⟩⟩)
          · rw [List.length_append]; exact Nat.le_trans (Nat.add_le_add_right (Nat.add_le_add_right hsum _) _) (by simp)
          · have he : pos + 3 = (lnT q).length := by have := eq_of_beq he; lia
            exact hBB _ _ _ (by lia) (hend he)
          · have he : pos + 3 ≠ (lnT q).length := fun e => ne_of_beq_false he (by lia)
            exact hA (k + 1) _ _ _ (by lia) hkl (hnot he) (by rw [hp1]; simp) hdec1
      · have h61 : q.2 = [61] := hkt.resolve_left (by lia)
        have hk' : k = q.1.length := by lia
        subst hk'
        rw [List.drop_length, h61] at hdk
        rw [List.drop_length, h61] at hlk
        have hn : pos + 1 = (lnT q).length := by simpa using hlk
        have h61' := itm_drop hdk 0
        refine IdxOK.strI (itN _) hll (c := 61) (by simpa using h61') ⟨fun h => absurd h (by decide), fun zu => ⟨fun zu => hBB _ _ _ (by lia) (by rw [List.take_length]; unfold lnO; rw [h61]; simp), fun h => absurd h (by simp; lia)⟩⟩
    · have hin : (lnT q).length ≤ i := by have := of_decide_eq_false hc; lia
      refine ⟨rfl, rfl, dec, _, _, _, _, ?_, rfl⟩
      rw [hstep]
      rcases hcase with ⟨_, e⟩ | ⟨k, hk, hkt, rfl, _⟩
      · exact e
      · exfalso
        have := hlen k
        rcases hkt with h | h
        · have h1 : (q.1.drop k).flatMap enc1 ≠ [] := fun e => by have := congrArg List.length (enc_nil (congrArg List.length e)); simp at this; lia
          have := List.length_pos_iff.mpr h1; lia
        · rw [h] at this; simp only [List.length_cons, List.length_nil] at this; lia
  · rintro vars mem ⟨rfl, dec, u1, u2, u3, u4, hdec, rfl⟩
    rw [List.length_map, List.take_length, List.flatMap_append] at hdec
    have hd2 : dec = (ls.flatMap lnO ++ z.1) ++ [10] := by rw [hdec]; simp [lnO, hz0]
    obtain ⟨y, hy⟩ := h46
    subst hd2
    have hsl := slc_init (ls.flatMap lnO ++ z.1) (10 : Nat)
    have hdl : (ls.flatMap lnO ++ z.1 ++ [10]).length ≤ 16777216 := by
      have := hpre (ls ++ [z]).length
      rw [List.take_length, List.flatMap_append, ← hdec] at this
      exact Nat.le_trans this (by decide)
    refine ⟨true, IdxOK.str (c := 46) ⟨by rw [hy]; simp; lia, by lia⟩ hxs (by rw [hy]; exact itm_last _ _) (CmpOK.notinS ⟨fun zu => ⟨rfl, BltOK.endswithT ⟨rfl, rfl⟩⟩, fun h => absurd h (by decide)⟩), fun zu => BltOK.lenS (by decide) (SlcOK.strE hdl hsl ⟨_, .self _, rfl⟩), nofun⟩
end
section
theorem enc_pos : ∀ (os : List Nat) (p : Nat), p < (os.flatMap enc1).length → ∃ A d B o, os = A ++ d :: B ∧ p = (A.flatMap enc1).length + o ∧ o < (enc1 d).length
  | [], p, h => by simp at h
  | c :: os, p, h => by
    rcases Nat.lt_or_ge p (enc1 c).length with q | q
    · exact ⟨[], c, os, p, rfl, by simp, q⟩
    · rw [List.flatMap_cons, List.length_append] at h
      obtain ⟨A, d, B, o, h1, h2, h3⟩ := enc_pos os (p - (enc1 c).length) (by lia)
      exact ⟨c :: A, d, B, o, by rw [h1]; rfl, by rw [List.flatMap_cons, List.length_append]; lia, h3⟩
theorem enc_get {os A B : List Nat} {d : Nat} (h : os = A ++ d :: B) {o : Nat} (ho : o < (enc1 d).length) : (os.flatMap enc1)[(A.flatMap enc1).length + o]? = (enc1 d)[o]? := by
  rw [h, List.flatMap_append, List.flatMap_cons, List.getElem?_append_right (Nat.le_add_right _ _), Nat.add_sub_cancel_left, List.getElem?_append_left ho]
theorem enc61 : ∀ d, d < 256 → ∀ o, o < 3 → (enc1 d)[o]? = some 61 → o = 0 := by decide +kernel
theorem enc61' : ∀ d, d < 256 → 1 < (enc1 d).length → (enc1 d)[0]? = some 61 := by decide +kernel
theorem bnd61 {os : List Nat} (ho : ∀ c ∈ os, Oct c) {p : Nat} (h : (os.flatMap enc1)[p]? = some 61) : ∃ A B, os = A ++ B ∧ (A.flatMap enc1).length = p := by
  obtain ⟨A, d, B, o, h1, h2, h3⟩ := enc_pos os p (List.getElem?_eq_some_iff.mp h).1
  rw [h2, enc_get h1 h3] at h
  have hd := ho d (by rw [h1]; simp)
  have := enc1_len d
  have e := enc61 d hd.1 o (by lia) h
  exact ⟨A, d :: B, h1, by lia⟩
theorem bnd3 {os : List Nat} (ho : ∀ c ∈ os, Oct c) {p : Nat} (hp : p < (os.flatMap enc1).length) (hp2 : 2 ≤ p) (h1 : (os.flatMap enc1)[p - 1]? ≠ some 61) (h2 : (os.flatMap enc1)[p - 2]? ≠ some 61) : ∃ A B, os = A ++ B ∧ (A.flatMap enc1).length = p := by
  obtain ⟨A, d, B, o, e1, e2, e3⟩ := enc_pos os p hp
  have hd := ho d (by rw [e1]; simp)
  have hl := enc1_len d
  have h0 := fun h => (enc_get e1 (o := 0) (by lia)).trans (enc61' d hd.1 h)
  rw [Nat.add_zero] at h0
  rcases Nat.lt_trichotomy o 1 with q | q | q
  · exact ⟨A, d :: B, e1, by lia⟩
  · exact absurd (h0 (by lia)) (by rw [show (A.flatMap enc1).length = p - 1 by lia]; exact h1)
  · exact absurd (h0 (by lia)) (by rw [show (A.flatMap enc1).length = p - 2 by lia]; exact h2)
theorem itm_some {l : List Nat} {p c : Nat} {i : Int} (hi : i = (p : Int)) (h : l[p]? = some c) : itm l i = some c := by
  unfold itm
  rw [if_neg (by lia), hi]; exact h
theorem slc_fromN {α : Type} (l : List α) (a : Nat) : slc l (some (a : Int)) none = l.drop a := slc_N0 l a
theorem enc_len (l : List Nat) : (l.flatMap enc1).length ≤ 3 * l.length := by
  induction l with
  | nil => simp
  | cons c r ih => have := enc1_len c; rw [List.flatMap_cons, List.length_append, List.length_cons]; lia
theorem sum_ln : ∀ ls : List (List Nat × List Nat), (∀ q ∈ ls, q.2.length ≤ 1) → ((ls.map lnT).map (·.length)).sum ≤ 3 * (ls.flatMap Prod.fst).length + ls.length
  | [], _ => by simp
  | q :: r, h => by
    have h1 := sum_ln r fun q hq => h q (.tail _ hq)
    have h2 := h q (.head _)
    have h3 := enc_len q.1
    rw [List.map_cons, List.map_cons, List.sum_cons, List.flatMap_cons, List.length_append, List.length_cons]
    have h4 : (lnT q).length = (q.1.flatMap enc1).length + q.2.length := List.length_append
    lia
structure Brk (os : List Nat) (ls : List (List Nat × List Nat)) (A : List Nat) : Prop where
  o : ls.flatMap Prod.fst = A
  q : ∀ q ∈ ls, q.2 = [61] ∧ q.1 ≠ []
noncomputable def EInv (os : List Nat) (n : Nat) (eA : Addr) (rw : List (Addr × Obj)) (m : Nat) (σ : Mine.St) : Prop :=
  ∃ (ls : List (List Nat × List Nat)) (A B : List Nat) (u : V), os = A ++ B ∧ Brk os ls A ∧ (A.flatMap enc1).length < (os.flatMap enc1).length ∧ m = (os.flatMap enc1).length - (A.flatMap enc1).length ∧ ls.length ≤ (A.flatMap enc1).length ∧
    σ = ⟨[.str (os.flatMap enc1), .int (n : Nat), .str [10], .str [61, 10], .int ((n : Int) - 1), .mut eA, .app eA, .str (os.flatMap enc1), .int ((A.flatMap enc1).length : Nat), .int (((os.flatMap enc1).length : Nat) - 1 - (n : Int)), u, .undef, .undef], [(eA, (ls.map lnT).map V.str)], rw⟩
set_option maxHeartbeats 4000000 in
theorem encode_walk {w : World} {mg mb : Str → Option Value} (os : List Nat) (n : Nat) (ho : ∀ c ∈ os, Oct c) (hdot : ∃ y, os = y ++ [46]) (hol : os.length ≤ 1000) (hn : 4 ≤ n ∧ n ≤ 12) : FnOK (TT w mg mb) 108 12 74 [.str os, .int (n : Nat)]
    (fun r => ∃ ls z, os = ls.flatMap Prod.fst ++ z ∧ z ≠ [] ∧ (∀ q ∈ ls, q.2 = [61] ∧ q.1 ≠ []) ∧ r = .str (joinN [10] ((ls ++ [(z, [])]).map lnT))) := by
  refine' FnOK.sem (F := F74 w mg mb) (f := 74) (dds := [.str [10]]) (dvs := [.str (S [10]) 284]) [Str.ofString "body", Str.ofString "maxlinelen", Str.ofString "eol"]
    [Str.ofString "soft_break", Str.ofString "maxlinelen1", Str.ofString "encoded_body", Str.ofString "append", Str.ofString "line", Str.ofString "start", Str.ofString "laststart", Str.ofString "stop", Str.ofString "room", Str.ofString "q"] [.str os, .int (n : Nat), .str [10], .undef, .undef, .undef, .undef, .undef, .undef, .undef, .undef, .undef, .undef]
    (hK := by rfl) (by kernel_rfl) rfl (by kernel_rfl) (fun zu zu => .cons (.str _ _) .nil) ?bb rfl rfl ?s ?b
  case s => exact (ders w mg mb).2.2.1.2
  case bb =>
    intro s vs hK hv
    match vs, hv with
    | [v, w], _ => exact binds_K (o := ⟨.type "tuple", none, .seq #[.int 76 1850, .str (S [10]) 284] 0, #[]⟩) hK rfl (by kernel_rfl) rfl rfl rfl
  intro C hT hP
  obtain ⟨y0, hy0⟩ := hdot
  have hos : os ≠ [] := by rw [hy0]; simp
  have hosl : os.length ≤ 16777216 := by lia
  have hyl : (os.flatMap enc1).length ≤ 3000 := by have := enc_len os; lia
  have hys : (os.flatMap enc1).length ≤ 16777216 := by lia
  have hyd : os.flatMap enc1 = y0.flatMap enc1 ++ [46] := by rw [hy0, List.flatMap_append]; rfl
  have hy1 : 0 < (os.flatMap enc1).length := by rw [hyd]; simp
  have hbk : ∀ c ∈ os.flatMap enc1, Unicode.isLineBreak c = false := fun c hc => by
    obtain ⟨d, hd, hc⟩ := List.mem_flatMap.mp hc
    obtain ⟨h1, h2, h3⟩ := ho d hd
    exact enc1_ok d h1 h2 h3 c hc
  have hlines : linesN [] (os.flatMap enc1) = [os.flatMap enc1] := by
    have := linesN_join [] (os.flatMap enc1) (fun zu h => by cases h) (fun h => by have := hbk 10 h; revert this; decide) (List.length_pos_iff.mp hy1)
    simpa [joinN] using this
  have hend : itm (os.flatMap enc1) (-1) = some 46 := by rw [hyd]; exact itm_last _ _
  refine ⟨fun h => absurd (of_decide_eq_true h) (by lia), fun zu => ⟨hosl, fun h => absurd h (by rw [List.isEmpty_eq_false_iff.mpr hos]; decide), fun zu => ⟨rfl, ?_⟩⟩⟩
  refine BltOK.translateL enc1 hos (fun c hc => ?_) hys ⟨by decide, LstOK.grow fun eA heA => AppOK.mk' memGet_one ⟨rfl, BltOK.splitlines (fun c hc h => by rw [hbk c hc] at h; cases h) (by lia) ?_⟩⟩
  · have hc' := (ho c hc).1
    refine IdxOK.map (f := V.str) (l := (List.range 256).map enc1) rfl ⟨by lia, by rw [List.length_map, List.length_range]; lia⟩ (by rw [List.length_map, List.length_range]; decide) fun y hy => ⟨?_, rfl⟩
    rw [Int.toNat_natCast, List.getElem?_map, List.getElem?_range hc'] at hy
    cases hy; rfl
  rw [hlines]
  refine ForOK.mk' IterOK.list (fun i vars mem => ∃ u7 u8 u9 u10, vars = [.str (os.flatMap enc1), .int (n : Nat), .str [10], .str [61, 10], .int ((n : Int) - 1), .mut eA, .app eA, u7, u8, u9, u10, .undef, .undef] ∧ ((i = 0 ∧ mem = [(eA, [])]) ∨ (i = 1 ∧ ∃ ls z, os = ls.flatMap Prod.fst ++ z ∧ z ≠ [] ∧ (∀ q ∈ ls, q.2 = [61] ∧ q.1 ≠ []) ∧ ls.length ≤ 3000 ∧ mem = [(eA, ((ls ++ [(z, [])]).map lnT).map V.str)]))) ⟨_, _, _, _, rfl, .inl ⟨rfl, rfl⟩⟩ ?_ ?_
  · rintro i d vars mem rw hd ⟨u7, u8, u9, u10, rfl, hcase⟩
    have hi : i = 0 := by
      have := (List.getElem?_eq_some_iff.mp hd).1
      simpa using this
    subst hi
    cases hd
    rcases hcase with ⟨_, rfl⟩ | ⟨h, _⟩
    rotate_left
    · cases h
    refine BltOK.lenS hys ⟨EInv os n eA rw, (os.flatMap enc1).length, ⟨[], [], os, _, rfl, ⟨rfl, fun zu h => by cases h⟩, hy1, by simp, by simp, rfl⟩, ?_⟩
    rintro m σ ⟨ls, A, B, u, hAB, hB, hlt, rfl, hll, rfl⟩
    obtain ⟨p, hp⟩ : ∃ p, (A.flatMap enc1).length = p := ⟨_, rfl⟩
    rw [hp] at hlt hll
    rw [hp]
    have hnext : ∀ A' B' p', os = A' ++ B' → (A'.flatMap enc1).length = p' → p < p' → p' < (os.flatMap enc1).length → ∃ D : List Nat, slc (os.flatMap enc1) (some (p : Int)) (some (p' : Int)) = D.flatMap enc1 ∧ ∀ (j : Int) (u : V), j = p' → ∃ m, m < (os.flatMap enc1).length - p ∧ EInv os n eA rw m ⟨[.str (os.flatMap enc1), .int (n : Nat), .str [10], .str [61, 10], .int ((n : Int) - 1), .mut eA, .app eA, .str (os.flatMap enc1), .int j, .int (((os.flatMap enc1).length : Nat) - 1 - (n : Int)), u, .undef, .undef], [(eA, (ls.map lnT).map V.str ++ [.str (D.flatMap enc1 ++ [61])])], rw⟩ := by
      intro A' B' p' h1 h2 h3 h4
      obtain ⟨D, hD⟩ : ∃ D, A' = A ++ D := by
        rcases List.append_eq_append_iff.mp (h1.symm.trans hAB) with ⟨a, e, _⟩ | ⟨c, e, _⟩
        · rw [e, List.flatMap_append, List.length_append] at hp; lia
        · exact ⟨c, e⟩
      have hD0 : D ≠ [] := fun e => by rw [hD, e, List.append_nil] at h2; lia
      refine ⟨D, ?_, fun j u hj => ⟨_, ?_, ls ++ [(D, [61])], A', B', u, h1, ⟨?_, ?_⟩, by lia, rfl, ?_, ?_⟩⟩
      · rw [slc_seg _ _ _ (by lia) (by lia)]
        unfold seg
        rw [h1, hD, List.flatMap_append, List.flatMap_append, List.append_assoc, ← hp, List.drop_left, ← h2, hD, List.flatMap_append, List.length_append, Nat.add_sub_cancel_left]
        exact List.take_left
      · lia
      · rw [List.flatMap_append, hB.o, hD]; simp
      · intro q hq
        rcases List.mem_append.mp hq with h | h
        · exact hB.q q h
        · rw [List.mem_singleton.mp h]; exact ⟨rfl, hD0⟩
      · rw [List.length_append, h2]; simp only [List.length_cons, List.length_nil]; lia
      · rw [hj, h2, List.map_append, List.map_append]; rfl
    have hlsl : ((ls.map lnT).map V.str).length ≤ 16777215 := by rw [List.length_map, List.length_map]; lia
    refine ⟨fun hc => ?_, fun hc => ?_⟩
    · have hc' : p + n + 1 ≤ (os.flatMap enc1).length := by have := of_decide_eq_true hc; lia
      have hg : ∀ s : Nat, s < (os.flatMap enc1).length → ∃ c, (os.flatMap enc1)[s]? = some c := fun s hs => ⟨_, List.getElem?_eq_getElem hs⟩
      obtain ⟨c2, hc2⟩ := hg (p + n - 3) (by lia)
      obtain ⟨c1, hc1⟩ := hg (p + n - 2) (by lia)
      have hsn : ∀ (s : Nat), p ≤ s → (os.flatMap enc1)[s]? = some 61 → slc (os.flatMap enc1) (some (p : Int)) (some ((s : Int) + 1)) = slc (os.flatMap enc1) (some (p : Int)) (some (s : Int)) ++ [61] := fun s hs h => by
        obtain ⟨hs2, e⟩ := List.getElem?_eq_some_iff.mp h
        rw [show (s : Int) + 1 = ((s + 1 : Nat) : Int) by lia, slc_seg _ _ _ (by lia) (by lia), slc_seg _ _ _ (by lia) (by lia), seg_snoc hs hs2, e]
      refine IdxOK.str ⟨by lia, by lia⟩ hys (itm_some (p := p + n - 3) (by lia) hc2) ⟨fun h1 => ?_, fun h1 => ?_⟩
      · have e61 := List.singleton_inj.mp (of_decide_eq_true h1)
        subst e61
        obtain ⟨A', B', a1, a2⟩ := bnd61 ho hc2
        obtain ⟨D, d1, d2⟩ := hnext A' B' _ a1 a2 (by lia) (by lia)
        have e := hsn _ (by lia) hc2
        rw [d1] at e
        refine SlcOK.strE (r := D.flatMap enc1 ++ [61]) hys ?_ (PushOK.mk' memGet_one hlsl ?_)
        · rw [← e]; congr 2; lia
        · rw [memSet_one]; exact d2 _ _ (by lia)
      have n1 : (os.flatMap enc1)[p + n - 1 - 2]? ≠ some 61 := fun q => of_decide_eq_false h1 (by rw [show p + n - 1 - 2 = p + n - 3 by lia, hc2] at q; rw [Option.some.inj q])
      refine IdxOK.str ⟨by lia, by lia⟩ hys (itm_some (p := p + n - 2) (by lia) hc1) ⟨fun h2 => ?_, fun h2 => ?_⟩
      · have e61 := List.singleton_inj.mp (of_decide_eq_true h2)
        subst e61
        obtain ⟨A', B', a1, a2⟩ := bnd61 ho hc1
        obtain ⟨D, d1, d2⟩ := hnext A' B' _ a1 a2 (by lia) (by lia)
        have e := hsn _ (by lia) hc1
        rw [d1] at e
        refine SlcOK.strE (r := D.flatMap enc1 ++ [61]) hys ?_ (PushOK.mk' memGet_one hlsl ?_)
        · rw [← e]; congr 2; lia
        · rw [memSet_one]; exact d2 _ _ (by lia)
      have n2 : (os.flatMap enc1)[p + n - 1 - 1]? ≠ some 61 := fun q => of_decide_eq_false h2 (by rw [show p + n - 1 - 1 = p + n - 2 by lia, hc1] at q; rw [Option.some.inj q])
      obtain ⟨A', B', a1, a2⟩ := bnd3 ho (p := p + n - 1) (by lia) (by lia) n2 n1
      obtain ⟨D, d1, d2⟩ := hnext A' B' _ a1 a2 (by lia) (by lia)
      refine SlcOK.strE (r := D.flatMap enc1) hys ?_ ⟨?_, PushOK.mk' memGet_one hlsl ?_⟩
      · rw [← d1]; congr 2; lia
      · have : (D.flatMap enc1).length ≤ (os.flatMap enc1).length := by rw [← d1, slc_seg _ _ _ (by lia) (by lia)]; unfold seg; rw [List.length_take, List.length_drop]; lia
        simp only [List.length_cons, List.length_nil]; lia
      · rw [memSet_one]; exact d2 _ _ (by lia)
    · refine ⟨false, ⟨hys, fun zu => IdxOK.strI (by decide) hys hend (CmpOK.inS ⟨by decide, rfl⟩), fun h => ⟨h.symm ▸ rfl, rfl⟩⟩, nofun, fun zu => SlcOK.strE hys (slc_fromN _ _) (PushOK.mk' memGet_one hlsl ?_)⟩
      rw [memSet_one]
      refine ⟨rfl, _, _, _, _, rfl, .inr ⟨rfl, ls, B, by rw [hB.o]; exact hAB, ?_, hB.q, by lia, ?_⟩⟩
      · intro e; rw [hAB, e, List.append_nil, hp] at hlt; lia
      · have : (os.flatMap enc1).drop p = B.flatMap enc1 := by rw [hAB, List.flatMap_append, ← hp, List.drop_left]
        rw [this, List.map_append, List.map_append]
        simp [lnT]
  · rintro vars mem ⟨u7, u8, u9, u10, rfl, hcase⟩
    rcases hcase with ⟨h, _⟩ | ⟨_, ls, z, h1, h2, h3, h4, rfl⟩
    · cases h
    refine IdxOK.strI (by decide) hys hend (CmpOK.inS ⟨fun h => absurd h (by decide), fun zu => ⟨rfl, BltOK.join lst_one ?_ ⟨_, .self _, ls, z, h1, h2, h3, rfl⟩⟩⟩)
    have h5 := sum_ln (ls ++ [(z, [])]) (fun q hq => by
      rcases List.mem_append.mp hq with h | h
      · rw [(h3 q h).1]; exact Nat.le_refl _
      · rw [List.mem_singleton.mp h]; exact Nat.zero_le _)
    have h6 : ((ls ++ [(z, [])]).flatMap Prod.fst).length = os.length := by rw [h1, List.flatMap_append]; simp
    have h7 : (ls ++ [(z, ([] : List Nat))]).length = ls.length + 1 := by simp
    rw [h6, h7] at h5
    rw [List.length_map, h7]
    simp only [List.length_cons, List.length_nil]
    lia
end
section
noncomputable def pV (a : Addr) : Option (List Nat) → V
  | none => .obj a
  | some l => .str l
noncomputable def parts (r0 : List (List Nat)) (rs : List (List (List Nat))) : List (Option (List Nat)) := r0.map some ++ rs.flatMap fun r => none :: r.map some
noncomputable def cont : List (List (List Nat)) → List (List Nat)
  | [] => []
  | [r] => [[46, 42], r.flatten]
  | r :: r' :: t => ([40, 63, 62, 46, 42, 63] ++ r.flatten ++ [41]) :: cont (r' :: t)
theorem joinN_nil : ∀ l : List (List Nat), joinN [] l = l.flatten
  | [] => rfl
  | a :: r => by show a ++ r.flatMap (fun p => [] ++ p) = _; simp [List.flatMap]
theorem cont_len : ∀ rs : List (List (List Nat)), (cont rs).length ≤ rs.length + 1
  | [] => by simp [cont]
  | [r] => by simp [cont]
  | r :: r' :: t => by have := cont_len (r' :: t); simp only [cont, List.length_cons] at this ⊢; lia
theorem cont_sum : ∀ rs : List (List (List Nat)), ((cont rs).map (·.length)).sum ≤ (rs.map fun r => r.flatten.length + 7).sum
  | [] => by simp [cont]
  | [r] => by simp only [cont, List.map_cons, List.map_nil, List.sum_cons, List.sum_nil, List.length_cons, List.length_nil]; lia
  | r :: r' :: t => by
    have := cont_sum (r' :: t)
    simp only [cont, List.map_cons, List.sum_cons, List.length_append, List.length_cons, List.length_nil] at this ⊢
    lia
theorem sum_flat (l : List (List Nat)) : (l.map (·.length)).sum = l.flatten.length := by rw [List.length_flatten]
theorem le_sum {α : Type} (f : α → Nat) {x : α} : ∀ {l : List α}, x ∈ l → f x ≤ (l.map f).sum
  | y :: l, h => by
    rw [List.map_cons, List.sum_cons]
    rcases List.mem_cons.mp h with rfl | h
    · lia
    · have := le_sum f h; lia
theorem itm_dropV {α : Type} {l : List α} {i : Nat} {c : α} {r : List α} (h : l.drop i = c :: r) : itm l (i : Int) = some c := by
  unfold itm
  rw [if_neg (by lia), Int.toNat_natCast]
  have := congrArg (fun l => l[0]?) h
  simpa using this
theorem drop_lt {α : Type} {l : List α} {i : Nat} {c : α} {r : List α} (h : l.drop i = c :: r) : i < l.length ∧ l.drop (i + 1) = r := by
  have h1 : i < l.length := by
    rcases Nat.lt_or_ge i l.length with q | q
    · exact q
    · rw [List.drop_of_length_le q] at h; cases h
  refine ⟨h1, ?_⟩
  rw [← List.drop_drop, h]; rfl
noncomputable def FInv (P : List (Option (List Nat))) (a : Addr) (resA : Addr) (r0 : List (List Nat)) (tl : List (Option (List Nat))) (m : Nat) (σ : Mine.St) : Prop :=
  ∃ (k : Nat) (u : V), k ≤ r0.length ∧ m = r0.length - k ∧ P.drop k = (r0.drop k).map some ++ tl ∧ σ = ⟨[.list (P.map (pV a)), .obj a, .mut resA, .app resA, .int (k : Nat), .int (P.length : Nat), u], [(resA, (r0.take k).map V.str)], []⟩
noncomputable def OInv (P : List (Option (List Nat))) (a : Addr) (resA : Addr) (r0 : List (List Nat)) (rs : List (List (List Nat))) (m : Nat) (σ : Mine.St) : Prop :=
  ∃ (i : Nat) (u : V) (dn rest : List (List (List Nat))) (L : List (List Nat)), rs = dn ++ rest ∧ m = rest.length ∧ P.drop i = (rest.flatMap fun r => none :: r.map some) ∧ i ≤ P.length ∧ L ++ cont rest = cont rs ∧
    σ.raw = [] ∧ σ.vars = [.list (P.map (pV a)), .obj a, .mut resA, .app resA, .int (i : Nat), .int (P.length : Nat), u] ∧ memGet σ.mem resA = some ((r0 ++ L).map V.str)
noncomputable def GInv (P : List (Option (List Nat))) (a : Addr) (resA fA : Addr) (X : List V) (r : List (List Nat)) (tl : List (Option (List Nat))) (i0 : Nat) (m : Nat) (σ : Mine.St) : Prop :=
  ∃ (k : Nat), k ≤ r.length ∧ m = r.length - k ∧ P.drop (i0 + k) = (r.drop k).map some ++ tl ∧
    σ.raw = [] ∧ σ.vars = [.list (P.map (pV a)), .obj a, .mut resA, .app resA, .int ((i0 + k : Nat) : Int), .int (P.length : Nat), .mut fA] ∧ memGet σ.mem resA = some X ∧ memGet σ.mem fA = some ((r.take k).map V.str)
set_option maxHeartbeats 4000000 in
theorem join_walk {w : World} {mg mb : Str → Option Value} (a : Addr) (r0 : List (List Nat)) (rs : List (List (List Nat))) (hrs : ∀ r ∈ rs, r ≠ []) (hPl : (parts r0 rs).length ≤ 100000) (hS : r0.flatten.length + (rs.map fun r => r.flatten.length + 7).sum ≤ 1000000) :
    FnOK (TT w mg mb) 108 12 120 [.list ((parts r0 rs).map (pV a)), .obj a] (fun r => r = .str ([40, 63, 115, 58] ++ (r0 ++ cont rs).flatten ++ [41, 92, 90])) := by
  refine' FnOK.sem (F := F120 w mg mb) (f := 120) (dds := []) (dvs := []) [Str.ofString "inp", Str.ofString "STAR"]
    [Str.ofString "res", Str.ofString "add", Str.ofString "i", Str.ofString "n", Str.ofString "fixed"] [.list ((parts r0 rs).map (pV a)), .obj a, .undef, .undef, .undef, .undef, .undef]
    (hK := by rfl) (by kernel_rfl) rfl (by kernel_rfl) (fun zu zu => .nil) (fun zu zu zu hv => binds2 hv fun zu zu => rfl) rfl rfl ?s ?b
  case s => exact (ders w mg mb).2.2.2.2.2.2.2.1.2
  intro C hT hP
  have hP0 : (parts r0 rs).drop 0 = (r0.drop 0).map some ++ (rs.flatMap fun r => none :: r.map some) := rfl
  have hrl : r0.length + rs.length ≤ 100000 := by
    have h1 : ∀ l : List (List (List Nat)), l.length ≤ (l.flatMap fun r => none :: r.map (some : List Nat → _)).length := fun l => by
      induction l with
      | nil => simp
      | cons r t ih => rw [List.flatMap_cons, List.length_append, List.length_cons, List.length_cons]; lia
    have := h1 rs
    unfold parts at hPl
    rw [List.length_append, List.length_map] at hPl
    lia
  have hcl := cont_len rs
  have hcs := cont_sum rs
  generalize hPP : parts r0 rs = P at hP0 hPl
  have hps : P.length ≤ 16777216 := by lia
  have hitm : ∀ {i : Nat} {o : Option (List Nat)} {r : List (Option (List Nat))}, P.drop i = o :: r → itm (P.map (pV a)) (i : Int) = some (pV a o) := fun {i o r} h => itm_dropV (r := r.map (pV a)) (by rw [← List.map_drop, h]; rfl)
  have hpml : (P.map (pV a)).length = P.length := List.length_map _
  have hms : (P.map (pV a)).length ≤ 16777216 := by lia
  refine LstOK.grow fun resA hresA => AppOK.mk' memGet_one (BltOK.lenM rfl hps ?_)
  refine ⟨FInv P a resA r0 (rs.flatMap fun r => none :: r.map some), r0.length, ⟨0, _, Nat.zero_le _, rfl, hP0, rfl⟩, ?_⟩
  rintro m σ ⟨k, u, hk, rfl, hd, rfl⟩
  refine ⟨decide (k < r0.length), ⟨fun h => ?_, fun h => ?_⟩, fun hc => ?_, fun hc => ?_⟩
  · rcases Nat.lt_or_ge k r0.length with q | q
    · rw [List.drop_eq_getElem_cons q, List.map_cons, List.cons_append] at hd
      refine IdxOK.lstI rfl (itN _) hms (hitm hd) (CmpOK.isNotStr ⟨(decide_eq_true q).symm, rfl⟩)
    · rw [List.drop_of_length_le q] at hd
      cases rs with
      | nil =>
        have h1 : P.length ≤ k := List.drop_eq_nil_iff.mp hd
        have := of_decide_eq_true h; lia
      | cons r t =>
        rw [List.map_nil, List.nil_append, List.flatMap_cons, List.cons_append] at hd
        refine IdxOK.lstI rfl (itN _) hms (hitm hd) (CmpOK.isNotObj ⟨(decide_eq_false (by lia)).symm, rfl⟩)
  · refine ⟨(decide_eq_false fun q => ?_).symm, rfl⟩
    rw [List.drop_eq_getElem_cons q, List.map_cons, List.cons_append] at hd
    have := (drop_lt hd).1
    have := of_decide_eq_false h
    lia
  · have q := of_decide_eq_true hc
    rw [List.drop_eq_getElem_cons q, List.map_cons, List.cons_append] at hd
    refine IdxOK.lstI rfl (itN _) hms (hitm hd) (PushOK.mk' memGet_one (by rw [List.length_map, List.length_take]; lia) ?_)
    refine ⟨_, ?_, k + 1, u, q, rfl, (drop_lt hd).2, ?_⟩
    · lia
    · rw [memSet_one, List.take_add_one, List.getElem?_eq_getElem q, Option.toList_some, List.map_append]; rfl
  have q := of_decide_eq_false hc
  have hk' : k = r0.length := by lia
  subst hk'
  rw [List.drop_length, List.map_nil, List.nil_append] at hd
  refine ⟨OInv P a resA r0 rs, rs.length, ⟨r0.length, u, [], rs, [], rfl, rfl, hd, ?_, rfl, rfl, rfl, ?_⟩, ?_⟩
  · rw [← hPP]; unfold parts; rw [List.length_append, List.length_map]; lia
  · rw [List.take_length, List.append_nil]; exact memGet_one
  clear hd hc q hresA u
  rintro m ⟨vars, mem, raw⟩ ⟨i, u, dn, rest, L, hrs2, rfl, hd, hiP, hL, hraw, hvars, hmem⟩
  dsimp only at hraw hvars hmem
  subst hraw hvars
  have hLl : ((r0 ++ L).map V.str).length ≤ 300000 := by
    have := congrArg List.length hL
    rw [List.length_append] at this
    rw [List.length_map, List.length_append]; lia
  refine ⟨fun hc => ?_, fun hc => ?_⟩
  · obtain ⟨r, t, rfl⟩ : ∃ r t, rest = r :: t := by
      cases rest with
      | nil => have h1 : P.length ≤ i := List.drop_eq_nil_iff.mp hd; have := of_decide_eq_true hc; lia
      | cons r t => exact ⟨r, t, rfl⟩
    have hr0 : r ≠ [] := hrs r (by rw [hrs2]; simp)
    rw [List.flatMap_cons, List.cons_append] at hd
    obtain ⟨hil, hd1⟩ := drop_lt hd
    obtain ⟨y, ys, rfl⟩ : ∃ y ys, r = y :: ys := List.exists_cons_of_ne_nil hr0
    have hd2 := hd1
    rw [List.map_cons, List.cons_append] at hd2
    obtain ⟨hil1, _⟩ := drop_lt hd2
    have hrr : (y :: ys).length ≤ P.length := by
      have := congrArg List.length hd1
      rw [List.length_drop, List.length_append, List.length_map] at this
      lia
    refine IdxOK.lstI rfl (itN _) hms (hitm hd) (CmpOK.isObj ⟨rfl, ⟨fun he => absurd (eq_of_beq he) (by lia), fun zu => ?_⟩⟩)
    refine IdxOK.lstI rfl (itN _) hms (hitm (i := i + 1) hd2) (CmpOK.isNotStr ⟨rfl, LstOK.grow fun fA hfA => ?_⟩)
    have hne : resA ≠ fA := fun q => hfA (q ▸ memGet_key hmem)
    refine ⟨GInv P a resA fA ((r0 ++ L).map V.str) (y :: ys) (t.flatMap fun r => none :: r.map some) (i + 1), (y :: ys).length, ⟨0, Nat.zero_le _, rfl, hd1, rfl, rfl, (memGet_cons_ne hne).trans hmem, memGet_one⟩, ?_⟩
    rintro m ⟨vars, mem, raw⟩ ⟨k, hk, rfl, hdk, hraw, hvars, hmem1, hmem2⟩
    dsimp only at hraw hvars hmem1 hmem2
    subst hraw hvars
    refine ⟨decide (k < (y :: ys).length), ⟨fun h => ?_, fun h => ?_⟩, fun hc => ?_, fun hc => ?_⟩
    · rcases Nat.lt_or_ge k (y :: ys).length with q | q
      · rw [List.drop_eq_getElem_cons q, List.map_cons, List.cons_append] at hdk
        refine IdxOK.lstI rfl (itN _) hms (hitm hdk) (CmpOK.isNotStr ⟨(decide_eq_true q).symm, rfl⟩)
      · rw [List.drop_of_length_le q] at hdk
        cases t with
        | nil =>
          have h1 : P.length ≤ i + 1 + k := List.drop_eq_nil_iff.mp hdk
          have := of_decide_eq_true h; lia
        | cons r' t' =>
          rw [List.map_nil, List.nil_append, List.flatMap_cons, List.cons_append] at hdk
          refine IdxOK.lstI rfl (itN _) hms (hitm hdk) (CmpOK.isNotObj ⟨(decide_eq_false (by lia)).symm, rfl⟩)
    · refine ⟨(decide_eq_false fun q => ?_).symm, rfl⟩
      rw [List.drop_eq_getElem_cons q, List.map_cons, List.cons_append] at hdk
      have := (drop_lt hdk).1
      have := of_decide_eq_false h
      lia
    · have q := of_decide_eq_true hc
      rw [List.drop_eq_getElem_cons q, List.map_cons, List.cons_append] at hdk
      refine ⟨⟨rfl, _, hmem2⟩, IdxOK.lstI rfl (itN _) hms (hitm hdk) (BltOK.append hmem2 (by rw [List.length_map, List.length_take]; lia) ?_)⟩
      refine ⟨_, ?_, k + 1, q, rfl, (drop_lt hdk).2, rfl, rfl, (memGet_set_ne hne).trans hmem1, ?_⟩
      · lia
      · rw [memGet_set hmem2, List.take_add_one, List.getElem?_eq_getElem q, Option.toList_some, List.map_append]; rfl
    have q := of_decide_eq_false hc
    have hk' : k = (y :: ys).length := by lia
    subst hk'
    rw [List.drop_length, List.map_nil, List.nil_append] at hdk
    rw [List.take_length] at hmem2
    have hfl : (y :: ys).flatten.length ≤ 1000000 := by
      have h2 : (y :: ys).flatten.length + 7 ≤ (rs.map fun r => r.flatten.length + 7).sum := le_sum (fun r : List (List Nat) => r.flatten.length + 7) (by rw [hrs2]; simp)
      lia
    refine ⟨rfl, BltOK.join (l := y :: ys) hmem2 (by rw [sum_flat, List.length_nil, Nat.mul_zero]; lia) ?_⟩
    rw [joinN_nil]
    refine ⟨fun he => ?_, fun he => ?_⟩
    · have ht : t = [] := by
        have he := eq_of_beq he
        cases t with
        | nil => rfl
        | cons r' t' =>
          rw [List.flatMap_cons, List.cons_append] at hdk
          have := (drop_lt hdk).1; lia
      subst ht
      refine PushOK.mk' hmem1 (by lia) (PushOK.mk' (memGet_set hmem1) (by rw [List.length_append]; simp only [List.length_cons, List.length_nil]; lia) ?_)
      refine ⟨_, ?_, i + 1 + (y :: ys).length, _, dn ++ [y :: ys], [], L ++ [[46, 42], (y :: ys).flatten], by rw [hrs2]; simp, rfl, hdk, by have := eq_of_beq he; lia, ?_, rfl, rfl, ?_⟩
      · simp
      · rw [← hL]; simp [cont]
      · rw [memGet_set (memGet_set hmem1)]; simp
    · obtain ⟨r', t', rfl⟩ : ∃ r' t', t = r' :: t' := by
        cases t with
        | nil =>
          have h1 : P.length ≤ i + 1 + (y :: ys).length := List.drop_eq_nil_iff.mp hdk
          have h2 := congrArg List.length hd1
          rw [List.length_drop, List.length_append, List.length_map, List.flatMap_nil, List.length_nil] at h2
          exact absurd (ne_of_beq_false he) (by lia)
        | cons r' t' => exact ⟨r', t', rfl⟩
      refine ⟨by decide, by lia, ?_, ?_, PushOK.mk' hmem1 (by lia) ?_⟩
      · simp only [List.length_append, List.length_cons, List.length_nil]; lia
      · simp only [List.length_append, List.length_cons, List.length_nil]; lia
      · refine ⟨_, ?_, i + 1 + (y :: ys).length, _, dn ++ [y :: ys], r' :: t', L ++ [[40, 63, 62, 46, 42, 63] ++ (y :: ys).flatten ++ [41]], by rw [hrs2]; simp, rfl, hdk, ?_, ?_, rfl, rfl, ?_⟩
        · simp
        · rw [List.flatMap_cons, List.cons_append] at hdk
          have := (drop_lt hdk).1; lia
        · rw [← hL]; simp [cont]
        · rw [memGet_set hmem1]; simp
  · have hrest : rest = [] := by
      cases rest with
      | nil => rfl
      | cons r t =>
        rw [List.flatMap_cons, List.cons_append] at hd
        have := (drop_lt hd).1
        have := of_decide_eq_false hc; lia
    subst hrest
    have hiP2 : i = P.length := by
      have := List.drop_eq_nil_iff.mp hd; lia
    subst hiP2
    rw [show cont [] = ([] : List (List Nat)) from rfl, List.append_nil] at hL
    subst hL
    have hfl : (r0 ++ cont rs).flatten.length ≤ 1000000 := by
      rw [List.flatten_append, List.length_append, ← sum_flat (cont rs)]; lia
    refine ⟨beq_self_eq_true _, ⟨rfl, BltOK.join (l := r0 ++ cont rs) hmem (by rw [sum_flat, List.length_nil, Nat.mul_zero]; lia) ?_⟩⟩
    rw [joinN_nil]
    refine ⟨by decide, by lia, ?_, ?_, _, .self _, rfl⟩
    · simp only [List.length_append, List.length_cons, List.length_nil]; lia
    · simp only [List.length_append, List.length_cons, List.length_nil]; lia
end
section
noncomputable def spec : List Nat := [40, 41, 91, 93, 123, 125, 63, 42, 43, 45, 124, 94, 36, 92, 46, 38, 126, 35, 32, 9, 10, 13, 11, 12]
noncomputable def esc (c : Nat) : List Nat := if c ∈ spec then [92, c] else [c]
theorem esc_tab (p : Params) : dicOK (hK p) 96 esc 128 := ⟨by kernel_rfl, by kernel_rfl, by kernel_rfl⟩
set_option maxHeartbeats 4000000 in
theorem escape_walk {w : World} {mg mb : Str → Option Value} (c : Nat) (hc : c < 128) : FnOK (TT w mg mb) 108 9 106 [.str [c]] (fun r => r = .str (esc c)) := by
  refine' FnOK.sem (F := F106 w mg mb) (f := 106) (dds := []) (dvs := []) [Str.ofString "pattern"]
    [] [.str [c]]
    (hK := by rfl) (by kernel_rfl) rfl (by kernel_rfl) (fun zu zu => .nil) (fun zu zu zu hv => binds1 hv fun zu => rfl) rfl rfl ?s ?b
  case s => exact (ders w mg mb).2.2.2.2.2.1.2
  intro C hT hP
  refine ⟨fun zu => ⟨rfl, BltOK.translateD esc 128 (by rw [hT]; exact esc_tab _) (by decide) (by simp) (by simpa using hc) ?_ ⟨_, .self _, ?_⟩⟩, nofun⟩
  · simp [esc]; split <;> simp
  · simp
end
section
theorem hx_rng {d : Nat} (h : d < 16) : 48 ≤ hx d ∧ hx d ≤ 70 ∧ hx d ≠ 33 ∧ hx d ≠ 93 ∧ hx d ≠ 45 ∧ hx d ≠ 63 ∧ hx d ≠ 92 := by unfold hx; split <;> lia
theorem cd112 (w : World) (mg mb : Str → Option Value) : codeHdIn (TT w mg mb).K 112 108 = true := by kernel_rfl
theorem lt1 {a b : Nat} : ([a] : List Nat) < [b] ↔ a < b := ⟨fun h => (List.cons_lt_cons_iff.mp h).resolve_right fun q => List.not_lt_nil _ q.2, fun h => List.cons_lt_cons_iff.mpr (.inl h)⟩
inductive At where
  | star | any | lit (c : Nat) | set (neg dash : Bool) (i j : Nat)
noncomputable def setT (neg dash : Bool) (i j : Nat) : List Nat := (if neg then [33] else []) ++ [hx i] ++ (if dash then [45] else []) ++ [hx j]
theorem noMs : (List.range 16).all (fun i => (List.range 16).all fun j => noM (setT true true i j) && noM (setT true false i j) && noM (setT false true i j) && noM (setT false false i j)) = true := by kernel_rfl
theorem noM_set (neg dash : Bool) {i j : Nat} (hi : i < 16) (hj : j < 16) : noM (setT neg dash i j) = true := by
  have := List.all_eq_true.mp (List.all_eq_true.mp noMs i (List.mem_range.mpr hi)) j (List.mem_range.mpr hj)
  simp only [Bool.and_eq_true] at this
  cases neg <;> cases dash <;> simp only [this]
noncomputable def atT : At → List Nat
  | .star => [42]
  | .any => [63]
  | .lit c => [c]
  | .set neg dash i j => [91] ++ setT neg dash i j ++ [93]
noncomputable def atP : At → Option (List Nat)
  | .star => none
  | .any => some [46]
  | .lit c => some (esc c)
  | .set neg dash i j => some (if dash = true ∧ hx j < hx i then (if neg then [46] else [40, 63, 33, 41]) else [91] ++ ((if neg then [94] else []) ++ [hx i] ++ (if dash then [45] else []) ++ [hx j]) ++ [93])
noncomputable def AtOK : At → Prop
  | .lit c => c < 128 ∧ c ≠ 42 ∧ c ≠ 63 ∧ c ≠ 91
  | .set _ _ i j => i < 16 ∧ j < 16
  | _ => True
noncomputable def pstep (r : List (Option (List Nat))) (x : At) : List (Option (List Nat)) := match atP x with
  | none => if r.getLast? = some none then r else r ++ [none]
  | some t => r ++ [some t]
inductive TrInv (p : List Nat) (a resA : Addr) (at_ : List At) : Nat → Mine.St → Prop
  | mk (as bs : List At) (i : Nat) (u1 u2 u3 u4 u5 u6 : V) {mem : List (Addr × List V)} (hi : (as.flatMap atT).length = i) (hab : at_ = as ++ bs) (hd : p.drop i = bs.flatMap atT) (hle : i ≤ p.length) (hfl : (as.foldl pstep []).length ≤ as.length)
    (hmem : memGet mem resA = some ((as.foldl pstep []).map (pV a))) : TrInv p a resA at_ bs.length ⟨[.str p, .obj a, .str [46], .mut resA, .app resA, .int (i : Nat), .int (p.length : Nat), u1, u2, u3, u4, u5, u6], mem, []⟩
structure SetF (neg dash : Bool) (X : At) (i : Nat) (p R : List Nat) (f g c0 e : Nat) (t s h33 st : List Nat) : Prop where
  hf : 48 ≤ f ∧ f ≤ 70 ∧ f ≠ 33 ∧ f ≠ 93 ∧ f ≠ 45 ∧ f ≠ 63 ∧ f ≠ 92
  hg : 48 ≤ g ∧ g ≤ 70 ∧ g ≠ 33 ∧ g ≠ 93 ∧ g ≠ 45 ∧ g ≠ 63 ∧ g ≠ 92
  bar : (neg = true ∧ c0 = 33 ∧ e = 1 ∧ h33 = [33]) ∨ (neg = false ∧ c0 = f ∧ e = 0 ∧ h33 = [])
  ht93 : ∀ c ∈ t, c ≠ 93
  hal : (atT X).length = e + t.length + 2
  hd0 : ∃ u, p.drop (i + 1) = c0 :: u
  hd1 : ∃ u, p.drop (i + 1 + e) = f :: u
  hd2 : p.drop (i + 1 + e) = t ++ 93 :: R
  hend : i + 1 + e + t.length < p.length
  hseg : slc p (some ((i + 1 : Nat) : Int)) (some ((i + 1 + e + t.length : Nat) : Int)) = s
  hno : noM st = true
  hst : st.length ≤ 4
  h92 : 92 ∉ s
  no : dash = false → 45 ∉ s ∧ st = s
  yes : dash = true → 45 ∈ s ∧ t.length = 3 ∧ slc p (some ((i + 1 : Nat) : Int)) (some ((i + 1 + e + 1 : Nat) : Int)) = h33 ++ [f] ∧ slc p (some ((i + 1 + e + 1 + 1 : Nat) : Int)) (some ((i + 1 + e + t.length : Nat) : Int)) = [g] ∧ p[i + 1 + e + 1]? = some 45 ∧ (g < f → st = h33) ∧ (¬ g < f → st = (h33 ++ [f]) ++ 45 :: [g])
  fin : (st = [] ∧ atP X = some [40, 63, 33, 41]) ∨ (st = [33] ∧ atP X = some [46]) ∨ (∃ u, st = 33 :: u ∧ u ≠ [] ∧ u.length ≤ 3 ∧ atP X = some ([91] ++ ([94] ++ u) ++ [93])) ∨ (∃ u, st = f :: u ∧ u ≠ [] ∧ u.length ≤ 3 ∧ atP X = some ([91] ++ st ++ [93]))
theorem setF (neg dash : Bool) {x y i : Nat} {p R : List Nat} (hx1 : x < 16) (hy1 : y < 16) (hd : p.drop i = atT (.set neg dash x y) ++ R) : ∃ f g c0 e t s h33 st, SetF neg dash (.set neg dash x y) i p R f g c0 e t s h33 st := by
  have hf := hx_rng hx1
  have hg := hx_rng hy1
  have hno := noM_set neg dash hx1 hy1
  have hd1 : p.drop (i + 1) = setT neg dash x y ++ 93 :: R := by rw [← List.drop_drop, hd]; simp [atT]
  have hal : (atT (.set neg dash x y)).length = (setT neg dash x y).length + 2 := by show ([91] ++ setT neg dash x y ++ [93]).length = _; simp
  have hatP : atP (.set neg dash x y) = some (if dash = true ∧ hx y < hx x then (if neg then [46] else [40, 63, 33, 41]) else [91] ++ ((if neg then [94] else []) ++ [hx x] ++ (if dash then [45] else []) ++ [hx y]) ++ [93]) := rfl
  have hlen : i + 1 + (setT neg dash x y).length < p.length := by
    have := congrArg List.length hd1
    rw [List.length_drop, List.length_append, List.length_cons] at this; omega
  clear hd hx1 hy1
  generalize At.set neg dash x y = X at hal hatP
  unfold setT at hd1 hal hno hlen
  generalize hx x = f at *
  generalize hx y = g at *
  have sl : ∀ a b : Nat, b ≤ p.length → i + 1 + a ≤ b → slc p (some ((i + 1 + a : Nat) : Int)) (some (b : Int)) = ((p.drop (i + 1)).drop a).take (b - (i + 1 + a)) := fun a b h1 h2 => by rw [slc_seg p _ _ h1 h2, seg, List.drop_drop]
  have it : ∀ a : Nat, p[i + 1 + a]? = (p.drop (i + 1))[a]? := fun a => by rw [List.getElem?_drop]
  have dr : ∀ a : Nat, p.drop (i + 1 + a) = (p.drop (i + 1)).drop a := fun a => by rw [List.drop_drop]
  obtain ⟨f1, f2, f3, f4, f5, f6, f7⟩ := hf
  obtain ⟨g1, g2, g3, g4, g5, g6, g7⟩ := hg
  have hf : 48 ≤ f ∧ f ≤ 70 ∧ f ≠ 33 ∧ f ≠ 93 ∧ f ≠ 45 ∧ f ≠ 63 ∧ f ≠ 92 := ⟨f1, f2, f3, f4, f5, f6, f7⟩
  have hg : 48 ≤ g ∧ g ≤ 70 ∧ g ≠ 33 ∧ g ≠ 93 ∧ g ≠ 45 ∧ g ≠ 63 ∧ g ≠ 92 := ⟨g1, g2, g3, g4, g5, g6, g7⟩
  have s0 := sl 0
  rw [Nat.add_zero, List.drop_zero] at s0
  have n1 : noM [] = true := by kernel_rfl
  have n2 : noM [33] = true := by kernel_rfl
  cases neg <;> cases dash <;> simp only [Bool.false_eq_true, if_false, if_true, List.nil_append, List.append_nil, List.cons_append, List.length_cons, List.length_nil] at hd1 hal hno hlen hatP
  · refine ⟨f, g, f, 0, [f, g], [f, g], [], [f, g], hf, hg, .inr ⟨rfl, rfl, rfl, rfl⟩, ?_, hal, ⟨_, hd1⟩, ⟨_, hd1⟩, hd1, hlen, ?_, hno, by simp, ?_, fun zu => ⟨?_, rfl⟩, nofun, .inr (.inr (.inr ⟨[g], rfl, by simp, by simp, by rw [hatP]; simp⟩))⟩
    · simp; omega
    · rw [s0 _ (by simp; omega) (by simp), hd1]; simp
    · simp; omega
    · simp; omega
  · obtain ⟨st, hst⟩ : ∃ st, st = if g < f then [] else [f, 45, g] := ⟨_, rfl⟩
    refine ⟨f, g, f, 0, [f, 45, g], [f, 45, g], [], st, hf, hg, .inr ⟨rfl, rfl, rfl, rfl⟩, ?_, hal, ⟨_, hd1⟩, ⟨_, hd1⟩, hd1, hlen, ?_, ?_, ?_, ?_, nofun, fun zu => ⟨by simp, rfl, ?_, ?_, ?_, fun h => by rw [hst, if_pos h], fun h => by rw [hst, if_neg h]; rfl⟩, ?_⟩
    · simp; omega
    · rw [s0 _ (by simp; omega) (by simp), hd1]; simp
    · rw [hst]; split; exact n1; exact hno
    · rw [hst]; split <;> simp
    · simp; omega
    · rw [s0 _ (by omega) (by omega), hd1, show i + 1 + 0 + 1 - (i + 1) = 1 by omega]; rfl
    · rw [show i + 1 + 0 + 1 + 1 = i + 1 + 2 from rfl, sl 2 _ (by simp; omega) (by simp), hd1]; simp
    · rw [show i + 1 + 0 + 1 = i + 1 + 1 from rfl, it, hd1]; rfl
    · by_cases h : g < f
      · exact .inl ⟨by rw [hst, if_pos h], by rw [hatP]; simp [h]⟩
      · exact .inr (.inr (.inr ⟨[45, g], by rw [hst, if_neg h], by simp, by simp, by rw [hatP, hst, if_neg h]; simp [h]⟩))
  · refine ⟨f, g, 33, 1, [f, g], [33, f, g], [33], [33, f, g], hf, hg, .inl ⟨rfl, rfl, rfl, rfl⟩, ?_, by rw [hal]; rfl, ⟨_, hd1⟩, ⟨93 :: R |>.cons g, by rw [dr, hd1]; rfl⟩, by rw [dr, hd1]; rfl, by simp; omega, ?_, hno, by simp, ?_, fun zu => ⟨?_, rfl⟩, nofun, .inr (.inr (.inl ⟨[f, g], rfl, by simp, by simp, by rw [hatP]; simp⟩))⟩
    · simp; omega
    · rw [s0 _ (by simp; omega) (by simp +arith), hd1, show i + 1 + 1 + [f, g].length - (i + 1) = 3 by simp +arith]; rfl
    · simp; omega
    · simp; omega
  · obtain ⟨st, hst⟩ : ∃ st, st = if g < f then [33] else [33, f, 45, g] := ⟨_, rfl⟩
    refine ⟨f, g, 33, 1, [f, 45, g], [33, f, 45, g], [33], st, hf, hg, .inl ⟨rfl, rfl, rfl, rfl⟩, ?_, by rw [hal]; rfl, ⟨_, hd1⟩, ⟨[45, g] ++ 93 :: R, by rw [dr, hd1]; rfl⟩, by rw [dr, hd1]; rfl, by simp; omega, ?_, ?_, ?_, ?_, nofun, fun zu => ⟨by simp, rfl, ?_, ?_, ?_, fun h => by rw [hst, if_pos h], fun h => by rw [hst, if_neg h]; rfl⟩, ?_⟩
    · simp; omega
    · rw [s0 _ (by simp; omega) (by simp +arith), hd1, show i + 1 + 1 + [f, 45, g].length - (i + 1) = 4 by simp +arith]; rfl
    · rw [hst]; split; exact n2; exact hno
    · rw [hst]; split <;> simp
    · simp; omega
    · rw [s0 _ (by omega) (by omega), hd1, show i + 1 + 1 + 1 - (i + 1) = 2 by omega]; rfl
    · rw [show i + 1 + 1 + 1 + 1 = i + 1 + 3 from rfl, sl 3 _ (by simp; omega) (by simp +arith), hd1, show i + 1 + 1 + [f, 45, g].length - (i + 1 + 3) = 1 by simp +arith]; rfl
    · rw [show i + 1 + 1 + 1 = i + 1 + 2 from rfl, it, hd1]; rfl
    · by_cases h : g < f
      · exact .inr (.inl ⟨by rw [hst, if_pos h], by rw [hatP]; simp [h]⟩)
      · exact .inr (.inr (.inl ⟨[f, 45, g], by rw [hst, if_neg h], by simp, by simp, by rw [hatP]; simp [h]⟩))
end
section
set_option maxHeartbeats 4000000 in
theorem trans_walk {w : World} {mg mb : Str → Option Value} (a : Addr) (at_ : List At) (hat : ∀ x ∈ at_, AtOK x) (hal : at_.length ≤ 1000) : FnOK (TT w mg mb) 108 12 113 [.str (at_.flatMap atT), .obj a, .str [46]] (fun r => r = .list ((at_.foldl pstep []).map (pV a))) := by
  refine' FnOK.semC (F := F113 w mg mb) (f := 113) (dds := []) (dvs := []) [Str.ofString "pat", Str.ofString "STAR", Str.ofString "QUESTION_MARK"]
    [Str.ofString "res", Str.ofString "add", Str.ofString "i", Str.ofString "n", Str.ofString "c", Str.ofString "j", Str.ofString "stuff", Str.ofString "chunks", Str.ofString "k", Str.ofString "chunk"] [.str (at_.flatMap atT), .obj a, .str [46], .undef, .undef, .undef, .undef, .undef, .undef, .undef, .undef, .undef, .undef]
    (hK := by rfl) (by kernel_rfl) rfl (by kernel_rfl) (fun zu zu => .nil) (fun zu zu zu hv => binds3 hv fun zu zu zu => rfl) rfl rfl ?s ?b
  case s => exact (ders w mg mb).2.2.2.2.2.2.1.2
  intro C hT hP hcd
  have hpl : (at_.flatMap atT).length ≤ 8000 := by
    have : ∀ l : List At, (l.flatMap atT).length ≤ 8 * l.length := fun l => by
      induction l with
      | nil => simp
      | cons x r ih =>
        have hx : (atT x).length ≤ 8 := by
          cases x with
          | set neg dash i j => cases neg <;> cases dash <;> simp [atT, setT]
          | _ => simp [atT]
        rw [List.flatMap_cons, List.length_append, List.length_cons]; lia
    have := this at_; lia
  generalize hp : at_.flatMap atT = p at hpl
  have hps : p.length ≤ 16777216 := by lia
  refine LstOK.grow fun resA hresA => AppOK.mk' memGet_one (BltOK.lenS hps ?_)
  refine ⟨TrInv p a resA at_, at_.length, .mk [] at_ 0 _ _ _ _ _ _ rfl rfl (hp.symm ▸ rfl) (Nat.zero_le _) (Nat.zero_le _) memGet_one, ?_⟩
  rintro m σ (@⟨as, bs, i, u1, u2, u3, u4, u5, u6, mem, hi, hab, hd, hle, hfl, hmem⟩)
  have hasl : as.length ≤ 1000 := by rw [hab, List.length_append] at hal; lia
  refine ⟨fun hc => ?_, fun hc => ?_⟩
  · have hil : i < p.length := by have := of_decide_eq_true hc; lia
    obtain ⟨x, r, rfl⟩ : ∃ x r, bs = x :: r := by
      cases bs with
      | nil => have := List.drop_eq_nil_iff.mp hd; lia
      | cons x r => exact ⟨x, r, rfl⟩
    have hok := hat x (by rw [hab]; simp)
    rw [List.flatMap_cons] at hd
    have hdn : ∀ j, j = (atT x).length → p.drop (i + j) = r.flatMap atT := fun j e => by rw [← List.drop_drop, hd, e, List.drop_left]
    have hrl : ((as.foldl pstep []).map (pV a)).length ≤ 16777215 := by rw [List.length_map]; lia
    have hnext : ∀ (j : Int) (mem' : List (Addr × List V)) (v1 v2 v3 v4 v5 v6 : V), j = ((i + (atT x).length : Nat) : Int) → memGet mem' resA = some ((pstep (as.foldl pstep []) x).map (pV a)) →
        ∃ m, m < (x :: r).length ∧ TrInv p a resA at_ m ⟨[.str p, .obj a, .str [46], .mut resA, .app resA, .int j, .int (p.length : Nat), v1, v2, v3, v4, v5, v6], mem', []⟩ := fun j mem' v1 v2 v3 v4 v5 v6 e1 e2 => by
      have hlen : ((as ++ [x]).flatMap atT).length = i + (atT x).length := by rw [List.flatMap_append, List.length_append, hi]; simp
      subst e1
      refine ⟨r.length, Nat.lt_succ_self _, .mk (as ++ [x]) r _ v1 v2 v3 v4 v5 v6 hlen (by rw [hab, List.append_assoc]; rfl) (hdn _ rfl) ?_ ?_ (by rw [List.foldl_append]; exact e2)⟩
      · have := congrArg List.length hd
        rw [List.length_drop, List.length_append] at this
        lia
      · rw [List.foldl_append, List.length_append]
        have : (pstep (as.foldl pstep []) x).length ≤ (as.foldl pstep []).length + 1 := by
          unfold pstep
          split
          · split <;> simp
          · simp
        show (pstep (as.foldl pstep []) x).length ≤ _
        simp only [List.length_cons, List.length_nil]
        lia
    cases x with
    | star =>
      refine IdxOK.strI (itN _) hps (itm_dropV (c := 42) hd) ⟨fun zu => ?_, fun h => absurd h (by decide)⟩
      have hps2 : pstep (as.foldl pstep []) .star = if (as.foldl pstep []).getLast? = some none then as.foldl pstep [] else as.foldl pstep [] ++ [none] := rfl
      rw [hps2] at hnext
      generalize as.foldl pstep [] = R at hnext hmem hrl hfl
      rcases List.eq_nil_or_concat R with hR | ⟨R', o, hR⟩
      · subst hR
        exact ⟨true, TruOK.lst hmem (by simp) ⟨fun zu => ⟨rfl, rfl⟩, fun h => absurd h (by simp)⟩, fun zu => PushOK.mk' hmem hrl (hnext _ _ _ _ _ _ _ _ rfl (by rw [memGet_set hmem]; rfl)), nofun⟩
      · rw [List.concat_eq_append] at hR
        have hl : R.map (pV a) = R'.map (pV a) ++ [pV a o] := by rw [hR]; simp
        have hRe : (R.map (pV a)).isEmpty = false := by rw [hl]; simp
        have hgl : R.getLast? = some o := by rw [hR]; simp
        rw [hgl] at hnext
        have hR'l : (R'.map (pV a)).length ≤ 1000000 := by have := congrArg List.length hl; rw [List.length_append] at this; simp only [List.length_map, List.length_cons, List.length_nil] at this ⊢; lia
        have hmem2 := hmem
        rw [hl] at hmem2
        cases o with
        | none => exact ⟨false, TruOK.lst hmem (by lia) ⟨fun h => absurd h (by rw [hRe]; decide), fun zu => IdxOK.end hmem2 hR'l (CmpOK.isNotObj ⟨rfl, rfl⟩)⟩, nofun, fun zu => hnext _ _ _ _ _ _ _ _ rfl hmem⟩
        | some t => exact ⟨true, TruOK.lst hmem (by lia) ⟨fun h => absurd h (by rw [hRe]; decide), fun zu => IdxOK.end hmem2 hR'l (CmpOK.isNotStr ⟨rfl, rfl⟩)⟩, fun zu => PushOK.mk' hmem hrl (hnext _ _ _ _ _ _ _ _ rfl (by rw [memGet_set hmem, if_neg (by simp), List.map_append]; rfl)), nofun⟩
    | any =>
      exact IdxOK.strI (itN _) hps (itm_dropV (c := 63) hd) ⟨fun h => absurd h (by decide), fun zu => ⟨fun zu => PushOK.mk' hmem hrl (hnext _ _ _ _ _ _ _ _ rfl (by rw [memGet_set hmem]; unfold pstep atP; rw [List.map_append]; rfl)), fun h => absurd h (by decide)⟩⟩
    | lit c =>
      obtain ⟨c1, c2, c3, c4⟩ := hok
      have hn : ∀ d, c ≠ d → decide ([c] = [d]) = true → False := fun d h e => h (List.singleton_inj.mp (of_decide_eq_true e))
      exact IdxOK.strI (itN _) hps (itm_dropV (c := c) hd) ⟨fun h => (hn _ c2 h).elim, fun zu => ⟨fun h => (hn _ c3 h).elim, fun zu => ⟨fun h => (hn _ c4 h).elim, fun zu => FunOK.is hT hP (escape_walk c c1) (by decide) (PushOK.mk' hmem hrl (hnext _ _ _ _ _ _ _ _ rfl (by rw [memGet_set hmem]; unfold pstep atP; rw [List.map_append]; rfl)))⟩⟩⟩
    | set neg dash x y =>
      obtain ⟨f, g, c0, e, t, s, h33, st, F⟩ := setF neg dash hok.1 hok.2 hd
      have h91 : ∃ u, p.drop i = 91 :: u := ⟨_, hd⟩
      clear hok
      generalize At.set neg dash x y = X at hab hd hdn hnext F
      have hal := F.hal
      rw [hal] at hnext
      clear hd hdn hab hat hal
      obtain ⟨q91, h91⟩ := h91
      obtain ⟨q0, hd0⟩ := F.hd0
      obtain ⟨q1, hd1⟩ := F.hd1
      have hend := F.hend
      have hf := F.hf
      have hc0 : decide (([c0] : List Nat) = [33]) = neg := by
        rcases F.bar with ⟨b1, b2, _, _⟩ | ⟨b1, b2, _, _⟩
        · rw [b1, b2]; rfl
        · rw [b1, b2]; exact decide_eq_false fun q => hf.2.2.1 (List.singleton_inj.mp q)
      have he1 : neg = true → e = 1 := fun h => F.bar.elim (fun b => b.2.2.1) fun b => by rw [b.1] at h; cases h
      have he0 : neg = false → e = 0 := fun h => F.bar.elim (fun b => by rw [b.1] at h; cases h) fun b => b.2.2.1
      have hl33 : h33.length ≤ 1 ∧ ∀ c ∈ h33, c = 33 := F.bar.elim (fun b => by rw [b.2.2.2]; simp) fun b => by rw [b.2.2.2]; simp
      have hnx : ∀ {txt : List Nat} {mem' : List (Addr × List V)}, memGet mem' resA = some ((as.foldl pstep []).map (pV a)) → ∀ {jj : Int} {v1 v2 v3 v4 v5 v6 : V}, jj = ((i + (e + t.length + 2) : Nat) : Int) → atP X = some txt → ∃ m, m < (X :: r).length ∧ TrInv p a resA at_ m ⟨[.str p, .obj a, .str [46], .mut resA, .app resA, .int jj, .int (p.length : Nat), v1, v2, v3, v4, v5, v6], memSet mem' resA ((as.foldl pstep []).map (pV a) ++ [.str txt]), []⟩ := fun {txt mem'} hm2 {jj v1 v2 v3 v4 v5 v6} hj e =>
        hnext _ _ _ _ _ _ _ _ hj (by rw [memGet_set hm2]; unfold pstep; rw [e]; simp [pV])
      clear hnext
      refine IdxOK.strI (itN _) hps (itm_dropV (c := 91) h91) ⟨fun h => absurd h (by decide), fun zu => ⟨fun h => absurd h (by decide), fun zu => ⟨fun zu => ?_, fun h => absurd h (by decide)⟩⟩⟩
      refine ⟨(· = ⟨[.str p, .obj a, .str [46], .mut resA, .app resA, .int ((i + 1 : Nat) : Int), .int (p.length : Nat), .str [91], .int ((i + 1 + e : Nat) : Int), u3, u4, u5, u6], mem, []⟩), ⟨neg, ⟨fun h => IdxOK.strI (itN _) hps (itm_dropV hd0) ⟨hc0, rfl⟩, fun h => absurd h (by simp; omega)⟩, fun h => by rw [he1 h]; rfl, fun h => by rw [he0 h]; rfl⟩, of_eq ?_⟩
      refine ⟨(· = ⟨[.str p, .obj a, .str [46], .mut resA, .app resA, .int ((i + 1 : Nat) : Int), .int (p.length : Nat), .str [91], .int ((i + 1 + e : Nat) : Int), u3, u4, u5, u6], mem, []⟩), ⟨false, ⟨fun h => IdxOK.strI (itN _) hps (itm_dropV hd1) ⟨decide_eq_false fun q => hf.2.2.2.1 (List.singleton_inj.mp q), rfl⟩, fun h => absurd h (by simp; omega)⟩, nofun, fun zu => rfl⟩, of_eq ?_⟩
      refine ⟨fun m σ => ∃ q, q ≤ t.length ∧ m = t.length - q ∧ σ = ⟨[.str p, .obj a, .str [46], .mut resA, .app resA, .int ((i + 1 : Nat) : Int), .int (p.length : Nat), .str [91], .int ((i + 1 + e + q : Nat) : Int), u3, u4, u5, u6], mem, []⟩, t.length, ⟨0, Nat.zero_le _, rfl, rfl⟩, ?_⟩
      rintro m σ ⟨q, hq, rfl, rfl⟩
      have hdq : p.drop (i + 1 + e + q) = t.drop q ++ 93 :: r.flatMap atT := by rw [← List.drop_drop, F.hd2, List.drop_append_of_le_length hq]
      refine ⟨decide (q < t.length), ⟨fun h => ?_, fun h => absurd h (by simp; omega)⟩, fun h => ?_, fun h => ?_⟩
      · rcases Nat.lt_or_ge q t.length with q1 | q1
        · rw [List.drop_eq_getElem_cons q1] at hdq
          exact IdxOK.strI (itN _) hps (itm_dropV hdq) ⟨by rw [decide_eq_true q1, decide_eq_false (fun z => F.ht93 _ (List.getElem_mem q1) (List.singleton_inj.mp z))]; rfl, rfl⟩
        · rw [List.drop_of_length_le q1] at hdq
          exact IdxOK.strI (itN _) hps (itm_dropV hdq) ⟨by rw [decide_eq_false (Nat.not_lt.mpr q1)]; rfl, rfl⟩
      · have q1 := of_decide_eq_true h
        exact ⟨t.length - (q + 1), by omega, q + 1, q1, rfl, rfl⟩
      have hqe : q = t.length := by have := of_decide_eq_false h; omega
      subst hqe
      clear hdq h hq
      have hseg := F.hseg
      have hyes := F.yes
      obtain ⟨J, hJ⟩ : ∃ J, i + 1 + e + t.length = J := ⟨_, rfl⟩
      rw [hJ] at hend hseg hyes ⊢
      have hJe : ((J : Int) + 1) = ((i + (e + t.length + 2) : Nat) : Int) := by omega
      refine ⟨fun h => absurd h (by simp; omega), fun zu => SlcOK.strE hps hseg ?_⟩
      refine ⟨fun σ => ∃ mem' iv w4 w5 w6, σ = ⟨[.str p, .obj a, .str [46], .mut resA, .app resA, iv, .int (p.length : Nat), .str [91], .int (J : Int), .str st, w4, w5, w6], mem', []⟩ ∧ memGet mem' resA = some ((as.foldl pstep []).map (pV a)), ?_, ?_⟩
      · by_cases hda : dash = true
        · obtain ⟨y1, y2, y3, y4, y5, y6, y7⟩ := hyes hda
          have hg := F.hg
          clear hyes hseg hd1 hd0 h91 hc0
          refine CmpOK.notinS ⟨fun h => absurd h (by rw [decide_eq_true y1]; decide), fun zu => LstOK.grow fun chA hchA => ⟨.int ((i + 1 + e + 1 : Nat) : Int), ?_, ?_⟩⟩
          · obtain ⟨q0, hd0⟩ := F.hd0
            refine IdxOK.strI (itN _) hps (itm_dropV hd0) ⟨fun h => ⟨?_, rfl⟩, fun h => ⟨?_, rfl⟩⟩
            · rcases F.bar with ⟨_, _, b, _⟩ | ⟨_, b, _, _⟩
              · rw [b]; rfl
              · exact absurd (b.symm.trans (List.singleton_inj.mp (of_decide_eq_true h))) hf.2.2.1
            · rcases F.bar with ⟨_, b, _, _⟩ | ⟨_, _, b, _⟩
              · exact absurd (congrArg (fun z => [z]) b) (of_decide_eq_false h)
              · rw [b]; rfl
          have hneA : resA ≠ chA := fun q => hchA (q ▸ List.mem_map.mpr ⟨_, memGet_mem hmem, rfl⟩)
          refine ⟨fun m σ => (m = 1 ∧ σ = ⟨[.str p, .obj a, .str [46], .mut resA, .app resA, .int ((i + 1 : Nat) : Int), .int (p.length : Nat), .str [91], .int (J : Int), .str s, .mut chA, .int ((i + 1 + e + 1 : Nat) : Int), u6], (chA, []) :: mem, []⟩) ∨
            (m = 0 ∧ σ = ⟨[.str p, .obj a, .str [46], .mut resA, .app resA, .int ((i + 1 + e + 1 + 1 : Nat) : Int), .int (p.length : Nat), .str [91], .int (J : Int), .str s, .mut chA, .int ((i + 1 + e + 1 + 3 : Nat) : Int), u6], (chA, [.str (h33 ++ [f])]) :: mem, []⟩), 1, .inl ⟨rfl, rfl⟩, ?_⟩
          rintro m σ (⟨rfl, rfl⟩ | ⟨rfl, rfl⟩)
          · refine ⟨fun zu => ⟨rfl, BltOK.find4 y5 (by omega) (by omega) ⟨fun h => absurd h (by simp; omega), fun zu => ⟨⟨rfl, _, memGet_one⟩, SlcOK.strE hps y3 (BltOK.append memGet_one (by decide) ⟨0, Nat.zero_lt_one, .inr ⟨rfl, ?_⟩⟩)⟩⟩⟩, nofun⟩
            rw [memSet_one]; rfl
          refine ⟨fun zu => ⟨rfl, BltOK.find4n (by omega) (by omega) ⟨fun zu => SlcOK.strE hps y4 ⟨Nat.le_of_ble_eq_true rfl, fun zu => ⟨⟨rfl, _, memGet_one⟩, BltOK.append memGet_one (Nat.le_of_ble_eq_true rfl) ?_⟩, nofun⟩, fun h => absurd h (by decide)⟩⟩, nofun⟩
          rw [memSet_one]
          refine BltOK.lenL lst_one (Nat.le_of_ble_eq_true rfl) (BltOK.range3 (a := 1) (ForOK.mk' (IterOK.range (n := 1) (.inr rfl) rfl (by decide) (by decide) (by decide)) (fun q vars mem' => (∃ k, vars = [.str p, .obj a, .str [46], .mut resA, .app resA, .int ((i + 1 + e + 1 + 1 : Nat) : Int), .int (p.length : Nat), .str [91], .int (J : Int), .str s, .mut chA, k, .str [g]]) ∧ ∃ xs, mem' = (chA, xs) :: mem ∧ (q = 0 → xs = [.str (h33 ++ [f]), .str [g]]) ∧ (q = 1 → xs = if g < f then [.str h33] else [.str (h33 ++ [f]), .str [g]])) ⟨⟨_, rfl⟩, _, rfl, fun zu => rfl, nofun⟩ ?_ ?_))
          · rintro q v vars mem' rw hv ⟨⟨k, rfl⟩, xs, rfl, hx0, _⟩
            have hq0 : q = 0 := by have := (List.getElem?_eq_some_iff.mp hv).1; simp at this; exact this
            subst hq0
            cases hv
            have hx0 := hx0 rfl
            subst hx0
            have hl2 : (h33 ++ [f]).length ≤ 2 := by rw [List.length_append]; exact Nat.succ_le_succ hl33.1
            refine IdxOK.lstI lst_one (by decide) (Nat.le_of_ble_eq_true rfl) rfl (IdxOK.strI (by decide) (Nat.le_trans hl2 (by decide)) (itm_last h33 f) (IdxOK.lstI lst_one (by decide) (Nat.le_of_ble_eq_true rfl) rfl (IdxOK.strI (by decide) (Nat.le_of_ble_eq_true rfl) rfl ⟨fun h => ?_, fun h => ?_⟩)))
            · refine IdxOK.lstI lst_one (by decide) (Nat.le_of_ble_eq_true rfl) rfl (SlcOK.strE (Nat.le_trans hl2 (by decide)) (slc_init _ _) (IdxOK.lstI lst_one (by decide) (Nat.le_of_ble_eq_true rfl) rfl (SlcOK.strE (Nat.le_of_ble_eq_true rfl) (r := []) rfl ?_)))
              refine ⟨Nat.le_trans hl33.1 (by decide), ⟨⟨chA, 0, _, rfl, rfl, memGet_one, by simp, Nat.le_of_ble_eq_true rfl, ⟨⟨chA, 1, _, rfl, rfl, memSet_one.symm ▸ memGet_one, by simp, Nat.le_of_ble_eq_true rfl, ⟨rfl, ⟨_, rfl⟩, [.str h33], ?_, nofun, fun zu => by rw [if_pos (lt1.mp (of_decide_eq_true h))]⟩⟩⟩⟩⟩⟩
              rw [memSet_one, memSet_one, List.append_nil]; rfl
            · exact ⟨rfl, ⟨_, rfl⟩, _, rfl, nofun, fun zu => by rw [if_neg fun q => of_decide_eq_false h (lt1.mpr q)]⟩
          rintro vars mem' ⟨⟨k, rfl⟩, xs, rfl, _, hx1⟩
          have hx1 := hx1 rfl
          refine ⟨⟨_, hcd, by rw [hT, hP]; exact cd112 _ _ _⟩, ?_⟩
          have hbad : ∀ y : List Nat, (∀ c ∈ y, c = 33 ∨ c = f ∨ c = g) → 92 ∉ y ∧ 45 ∉ y := fun y hy => ⟨fun q => by have := hy _ q; omega, fun q => by have := hy _ q; omega⟩
          have hfin : ∀ mem' iv w4 w5 w6 l, l = st → memGet mem' resA = some ((as.foldl pstep []).map (pV a)) → ∃ mem'' iv' w4' w5' w6', (⟨[.str p, .obj a, .str [46], .mut resA, .app resA, iv, .int (p.length : Nat), .str [91], .int (J : Int), .str l, w4, w5, w6], mem', []⟩ : Mine.St) = ⟨[.str p, .obj a, .str [46], .mut resA, .app resA, iv', .int (p.length : Nat), .str [91], .int (J : Int), .str st, w4', w5', w6'], mem'', []⟩ ∧ memGet mem'' resA = some ((as.foldl pstep []).map (pV a)) := fun mem' iv w4 w5 w6 l e1 e2 => ⟨mem', iv, w4, w5, w6, e1 ▸ rfl, e2⟩
          by_cases hfg : g < f
          · rw [if_pos hfg] at hx1
            subst hx1
            refine ⟨⟨[h33], lst_one, fun z hz => ?_, by have := hl33.1; simp <;> omega, Nat.le_of_ble_eq_true rfl, hfin _ _ _ _ _ _ (by rw [y6 hfg]; simp [joinN]) (by rw [memGet_cons_ne hneA]; exact hmem)⟩⟩
            rw [List.mem_singleton.mp hz]; exact hbad _ fun c hc => .inl (hl33.2 c hc)
          · rw [if_neg hfg] at hx1
            subst hx1
            refine ⟨⟨[h33 ++ [f], [g]], lst_one, fun z hz => ?_, by have := hl33.1; simp only [List.map_cons, List.map_nil, List.sum_cons, List.sum_nil, List.length_append, List.length_cons, List.length_nil]; omega, Nat.le_of_ble_eq_true rfl, hfin _ _ _ _ _ _ (by rw [y7 hfg]; simp [joinN]) (by rw [memGet_cons_ne hneA]; exact hmem)⟩⟩
            rcases List.mem_cons.mp hz with rfl | hz
            · refine hbad _ fun c hc => ?_
              rcases List.mem_append.mp hc with hc | hc
              · exact .inl (hl33.2 c hc)
              · exact .inr (.inl (List.mem_singleton.mp hc))
            · rw [List.mem_singleton.mp hz]; exact hbad _ fun c hc => .inr (.inr (List.mem_singleton.mp hc))
        · obtain ⟨n1, n2⟩ := F.no (Bool.eq_false_iff.mpr hda)
          refine CmpOK.notinS ⟨fun zu => ⟨rfl, BltOK.replace0 F.h92 ⟨mem, .int ((i + 1 : Nat) : Int), u4, u5, u6, by rw [n2], hmem⟩⟩, fun h => absurd h (by rw [decide_eq_false n1]; decide)⟩
      rintro σ ⟨mem', iv, w4, w5, w6, rfl, hm2⟩
      have hst := F.hst
      have hs16 : st.length ≤ 16777216 := Nat.le_trans hst (by decide)
      have hfi := F.fin
      refine ⟨⟨_, hcd, by rw [hT, hP]; exact cd112 _ _ _⟩, F.hno, hs16, ?_⟩
      clear F hyes hseg hd0 hd1 h91 hc0 he1 he0 hl33
      have hlen4 : ∀ u : List Nat, u.length ≤ 3 → ∀ c : Nat, ([] ++ [91] ++ (c :: u)).length + [93].length ≤ 16777216 := fun u h c => by simp; omega
      rcases hfi with ⟨e1, e2⟩ | ⟨e1, e2⟩ | ⟨u, e1, e2, e3, e4⟩ | ⟨u, e1, e2, e3, e4⟩
      · subst e1; exact ⟨Nat.le_of_ble_eq_true rfl, fun zu => PushOK.mk' hm2 hrl (hnx hm2 hJe e2), nofun⟩
      · subst e1; exact ⟨Nat.le_of_ble_eq_true rfl, nofun, fun zu => ⟨fun zu => PushOK.mk' hm2 hrl (hnx hm2 hJe e2), fun h => absurd h (by decide)⟩⟩
      · subst e1
        refine ⟨hs16, nofun, fun zu => ⟨fun h => absurd (List.cons.inj (of_decide_eq_true h)).2 e2, fun zu => ⟨(· = ⟨[.str p, .obj a, .str [46], .mut resA, .app resA, .int ((J : Int) + 1), .int (p.length : Nat), .str [91], .int (J : Int), .str ([94] ++ u), w4, w5, w6], mem', []⟩), ?_, of_eq ⟨by decide, Nat.le_trans (Nat.succ_le_succ e3) (by decide), Nat.le_trans (Nat.add_le_add_left (Nat.succ_le_succ e3) 1) (by decide), hlen4 u e3 94, PushOK.mk' hm2 hrl (hnx hm2 hJe e4)⟩⟩⟩⟩
        exact IdxOK.strI (c := 33) (by decide) hs16 rfl ⟨fun zu => SlcOK.strE hs16 (slc_frN _ 1) ⟨Nat.le_trans (Nat.add_le_add_left e3 1) (by decide), rfl⟩, fun h => absurd h (by decide)⟩
      · subst e1
        refine ⟨hs16, nofun, fun zu => ⟨fun h => absurd (List.cons.inj (of_decide_eq_true h)).2 e2, fun zu => ⟨(· = ⟨[.str p, .obj a, .str [46], .mut resA, .app resA, .int ((J : Int) + 1), .int (p.length : Nat), .str [91], .int (J : Int), .str (f :: u), w4, w5, w6], mem', []⟩), ?_, of_eq ⟨by decide, Nat.le_trans (Nat.succ_le_succ e3) (by decide), Nat.le_trans (Nat.add_le_add_left (Nat.succ_le_succ e3) 1) (by decide), hlen4 u e3 f, PushOK.mk' hm2 hrl (hnx hm2 hJe e4)⟩⟩⟩⟩
        exact IdxOK.strI (c := f) (by decide) hs16 rfl ⟨fun h => absurd (List.singleton_inj.mp (of_decide_eq_true h)) hf.2.2.1, fun zu => IdxOK.strI (c := f) (by decide) hs16 rfl (CmpOK.inT (ns := [[94], [91]]) ⟨fun h => absurd h (by simp [show f ≠ 94 by omega, show f ≠ 91 by omega]), fun zu => rfl⟩)⟩
  · have hil : p.length ≤ i := by have := of_decide_eq_false hc; lia
    have hbs : bs = [] := by
      rw [List.drop_of_length_le hil] at hd
      cases bs with
      | nil => rfl
      | cons x r =>
        have := congrArg List.length hd
        rw [List.flatMap_cons, List.length_append] at this
        have hx : 1 ≤ (atT x).length := by
          cases x with
          | set neg dash i j => simp [atT]
          | _ => simp [atT]
        rw [List.length_nil] at this
        lia
    subst hbs
    rw [List.append_nil] at hab
    subst hab
    have hi2 : i = p.length := by lia
    subst hi2
    exact ⟨beq_self_eq_true _, _, .mut hmem (.self _), rfl⟩
end
section
theorem translate_walk {w : World} {mg mb : Str → Option Value} (at_ : List At) (hat : ∀ x ∈ at_, AtOK x) (hal : at_.length ≤ 1000) (r0 : List (List Nat)) (rs : List (List (List Nat))) (hpr : at_.foldl pstep [] = parts r0 rs) (hrs : ∀ r ∈ rs, r ≠ []) (hPl : (parts r0 rs).length ≤ 100000) (hS : r0.flatten.length + (rs.map fun r => r.flatten.length + 7).sum ≤ 1000000) :
    FnOK (TT w mg mb) 108 13 94 [.str (at_.flatMap atT)] (fun r => r = .str ([40, 63, 115, 58] ++ (r0 ++ cont rs).flatten ++ [41, 92, 90])) := by
  refine' FnOK.sem (F := F94 w mg mb) (f := 94) (dds := []) (dvs := []) [Str.ofString "pat"] [Str.ofString "STAR", Str.ofString "parts"] [.str (at_.flatMap atT), .undef, .undef]
    (hK := by rfl) (by kernel_rfl) rfl (by kernel_rfl) (fun zu zu => .nil) (fun zu zu zu hv => binds1 hv fun zu => rfl) rfl rfl ?s ?b
  case s => exact (ders w mg mb).2.2.2.2.1.2
  intro C hT hP a
  refine FunOK.is hT hP (trans_walk a at_ hat hal) (by decide) ?_
  rw [hpr]
  exact FunOK.is hT hP (join_walk a r0 rs hrs hPl hS) (by decide) ⟨_, .self _, rfl⟩
end
section
noncomputable def al {α β : Type} (f : α → β → Bool) : List α → List β → Bool
  | [], _ => true
  | _ :: _, [] => false
  | a :: r, b :: t => f a b && al f r t
theorem al_eq {α β : Type} (f : α → β → Bool) (h : Nat → Bool) : ∀ (r : List α) (t : List β), (∀ i a b, r[i]? = some a → t[i]? = some b → h i = f a b) → (decide (r.length ≤ t.length) && (List.range r.length).all h) = al f r t := fun r => by
  induction r generalizing h with
  | nil => intro t _; simp [al]
  | cons a r ih =>
    intro t hh
    cases t with
    | nil => simp [al]
    | cons b t =>
      have h0 := hh 0 a b rfl rfl
      rw [show al f (a :: r) (b :: t) = (f a b && al f r t) from rfl, ← ih (fun i => h (i + 1)) t (fun i a' b' ha hb => hh (i + 1) a' b' ha hb), List.length_cons, List.range_succ_eq_map, List.all_cons, List.all_map, h0,
        show decide (r.length + 1 ≤ (b :: t).length) = decide (r.length ≤ t.length) from decide_eq_decide.mpr (by simp)]
      exact Bool.and_left_comm _ _ _
noncomputable abbrev Im := List Ge × It
noncomputable abbrev gsOf (r : List Im) : List Ge := r.flatMap Prod.fst
noncomputable abbrev itOf (r : List Im) : List It := r.map Prod.snd
noncomputable abbrev enc (os : List Nat) : List Nat := os.flatMap enc1
noncomputable abbrev rowOf (os : List Nat) : List Int := os.map fun (o : Nat) => (o : Int)
structure Good (q : Im) : Prop where
  ne : q.1 ≠ []
  yes : ∀ o, Oct o → fit1 q.2 o = true → q.1.length = (enc1 o).length ∧ ∀ G R, al gok (q.1 ++ G) (enc1 o ++ R) = al gok G R
  no : ∀ o, Oct o → fit1 q.2 o = false → ∀ G R, al gok (q.1 ++ G) (enc1 o ++ R) = false
  hex : ∀ d, d < 16 → ∀ G R, al gok (q.1 ++ G) (hx d :: R) = false
noncomputable abbrev Goods (r : List Im) : Prop := ∀ q ∈ r, Good q
noncomputable abbrev Octs (os : List Nat) : Prop := ∀ c ∈ os, Oct c
theorem al_enc : ∀ {r : List Im} {os : List Nat}, Goods r → Octs os → al gok (gsOf r) (enc os) = al fit1 (itOf r) (rowOf os) ∧ (al fit1 (itOf r) (rowOf os) = true → r.length ≤ os.length ∧ (gsOf r).length = (enc (os.take r.length)).length)
  | [], os, _, _ => ⟨rfl, fun zu => ⟨Nat.zero_le _, rfl⟩⟩
  | q :: r, [], hg, _ => by
    have := (hg q (.head _)).ne
    cases h : q.1 with
    | nil => exact absurd h this
    | cons g t => exact ⟨by show al gok ((q :: r).flatMap Prod.fst) [] = false; rw [List.flatMap_cons, h]; rfl, fun h => nomatch h⟩
  | q :: r, o :: t, hg, ho => by
    have hq := hg q (.head _)
    obtain ⟨h1, h2⟩ := al_enc (r := r) (os := t) (fun x hx => hg x (.tail _ hx)) (fun x hx => ho x (.tail _ hx))
    have e1 : al gok (gsOf (q :: r)) (enc (o :: t)) = al gok (q.1 ++ gsOf r) (enc1 o ++ enc t) := rfl
    have e2 : al fit1 (itOf (q :: r)) (rowOf (o :: t)) = (fit1 q.2 o && al fit1 (itOf r) (rowOf t)) := rfl
    rw [e1, e2]
    cases hf : fit1 q.2 o with
    | false => exact ⟨hq.no o (ho o (.head _)) hf _ _, fun h => nomatch h⟩
    | true =>
      obtain ⟨hl, hy⟩ := hq.yes o (ho o (.head _)) hf
      refine ⟨(hy _ _).trans h1, fun h => ?_⟩
      obtain ⟨a, b⟩ := h2 h
      refine ⟨Nat.succ_le_succ a, ?_⟩
      show (q.1 ++ gsOf r).length = (enc1 o ++ enc (t.take r.length)).length
      rw [List.length_append, List.length_append, hl, b]
noncomputable abbrev bd (os : List Nat) (k : Nat) : Nat := (enc (os.take k)).length
theorem enc1_pos (c : Nat) : 1 ≤ (enc1 c).length := by unfold enc1 hexq; split <;> simp
theorem bd_add (os : List Nat) (k n : Nat) : bd os (k + n) = bd os k + (enc ((os.drop k).take n)).length := by
  show (enc (os.take (k + n))).length = _
  rw [List.take_add, enc, List.flatMap_append, List.length_append]
theorem bd_drop (os : List Nat) (k : Nat) : (enc os).drop (bd os k) = enc (os.drop k) := by
  have : enc os = enc (os.take k) ++ enc (os.drop k) := by rw [enc, ← List.flatMap_append, List.take_append_drop]
  rw [this, List.drop_left]
theorem bd_full (os : List Nat) : bd os os.length = (enc os).length := by show (enc (os.take os.length)).length = _; rw [List.take_length]
theorem enc_ge : ∀ l : List Nat, l.length ≤ (enc l).length
  | [] => Nat.le_refl _
  | c :: l => by have := enc_ge l; have := enc1_pos c; show l.length + 1 ≤ (enc1 c ++ enc l).length; rw [List.length_append]; lia
theorem bd_lt {os : List Nat} {k j : Nat} (h : k < j) (hj : j ≤ os.length) : bd os k < bd os j := by
  have e := bd_add os k (j - k)
  have := enc_ge ((os.drop k).take (j - k))
  rw [List.length_take, List.length_drop] at this
  rw [show k + (j - k) = j by lia] at e
  lia
theorem bd_le {os : List Nat} {k j : Nat} (h : bd os k ≤ bd os j) (hk : k ≤ os.length) : k ≤ j := Nat.le_of_not_lt fun q => Nat.not_lt.mpr h (bd_lt q hk)
theorem bd_inj {os : List Nat} {k j : Nat} (h : bd os k = bd os j) (hk : k ≤ os.length) (hj : j ≤ os.length) : k = j := Nat.le_antisymm (bd_le (Nat.le_of_eq h) hk) (bd_le (Nat.le_of_eq h.symm) hj)
theorem gAt_al (run : List Ge) (name : List Nat) (a : Nat) (h : a ≤ name.length) : gAt run name a = al gok run (name.drop a) := by
  rw [← al_eq gok (gokAt run name a) run (name.drop a) (fun i a' b ha hb => by rw [List.getElem?_drop] at hb; unfold gokAt; rw [ha, hb]), gAt]
  exact congrArg (· && _) (decide_eq_decide.mpr (by rw [List.length_drop]; lia))
theorem fits_al (run : List It) (os : List Nat) (k : Nat) (h : k ≤ os.length) : fits run (rowOf os) k = al fit1 run (rowOf (os.drop k)) := by
  rw [← al_eq fit1 (fitAt run (rowOf os) k) run (rowOf (os.drop k)) (fun i a' b ha hb => by rw [show rowOf (os.drop k) = (rowOf os).drop k from List.map_drop, List.getElem?_drop] at hb; unfold fitAt; rw [show ((k : Int) + (i : Nat)).toNat = k + i by lia, ha, hb]), fits]
  refine congrArg (· && _) ?_
  rw [← Bool.decide_or, ← decide_not]
  exact decide_eq_decide.mpr (by simp only [List.length_map, List.length_drop]; lia)
theorem gAt_bd {r : List Im} {os : List Nat} (hg : Goods r) (ho : Octs os) {k : Nat} (hk : k ≤ os.length) : gAt (gsOf r) (enc os) (bd os k) = fits (itOf r) (rowOf os) k := by
  have hl : bd os k ≤ (enc os).length := by rw [← bd_full]; rcases Nat.lt_or_eq_of_le hk with q | q; exact Nat.le_of_lt (bd_lt q (Nat.le_refl _)); rw [q]; exact Nat.le_refl _
  rw [gAt_al _ _ _ hl, fits_al _ _ _ hk, bd_drop]
  exact (al_enc hg fun c hc => ho c (List.mem_of_mem_drop hc)).1
theorem fits_bd {r : List Im} {os : List Nat} (hg : Goods r) (ho : Octs os) {k : Nat} (hk : k ≤ os.length) (h : fits (itOf r) (rowOf os) k = true) : k + r.length ≤ os.length ∧ bd os k + (gsOf r).length = bd os (k + r.length) := by
  rw [fits_al _ _ _ hk] at h
  obtain ⟨a, b⟩ := (al_enc hg fun c hc => ho c (List.mem_of_mem_drop hc)).2 h
  rw [List.length_drop] at a
  exact ⟨by lia, by rw [bd_add, b]⟩
set_option tactic.hygienic true in
theorem enc_hex : ∀ d, d < 256 → ∀ o, o < (enc1 d).length → 0 < o → ∃ h, h < 16 ∧ (enc1 d)[o]? = some (hx h) := fun d hd o ho h0 => by
  unfold enc1 hexq at ho ⊢
  split at ho <;> rename_i hb
  · simp at ho; lia
  · rw [if_neg hb]
    simp only [List.length_cons, List.length_nil] at ho
    rcases (by lia : o = 1 ∨ o = 2) with rfl | rfl
    · exact ⟨d / 16, by lia, rfl⟩
    · exact ⟨d % 16, by lia, rfl⟩
theorem gAt_ex {r : List Im} {os : List Nat} (hg : Goods r) (ho : Octs os) (hr : r ≠ []) {p : Nat} (h : gAt (gsOf r) (enc os) p = true) : ∃ k, k ≤ os.length ∧ p = bd os k := by
  have hle := gAt_len h
  rcases Nat.lt_or_eq_of_le (show p ≤ (enc os).length by lia) with hp | hp
  · obtain ⟨A, d, B, o, rfl, hpo, hol⟩ := enc_pos os p hp
    rcases Nat.eq_zero_or_pos o with rfl | h0
    · exact ⟨A.length, by simp, by rw [hpo, bd, List.take_left]; rfl⟩
    · obtain ⟨x, hx1, hx2⟩ := enc_hex d (ho d (by simp)).1 o hol h0
      have := enc_get rfl hol (os := A ++ d :: B)
      rw [← hpo, hx2] at this
      rw [gAt_al _ _ _ (Nat.le_of_lt hp), List.drop_eq_getElem_cons hp] at h
      cases r with
      | nil => exact absurd rfl hr
      | cons q r =>
        rw [show (A ++ d :: B).flatMap enc1 = enc (A ++ d :: B) from rfl, List.getElem?_eq_getElem hp, Option.some.injEq] at this
        rw [this] at h
        have h2 : al gok (q.1 ++ gsOf r) _ = true := h
        rw [(hg q (.head _)).hex x hx1] at h2
        cases h2
  · exact ⟨os.length, Nat.le_refl _, by rw [bd_full]; exact hp⟩
end
section
noncomputable abbrev encI (l : List Int) : List Nat := enc (l.map Int.toNat)
theorem rowOf_toNat : ∀ l : List Nat, (rowOf l).map Int.toNat = l
  | [] => rfl
  | a :: l => congrArg (a :: ·) (rowOf_toNat l)
theorem seg_bd {os : List Nat} {k j : Nat} (h : k ≤ j) : seg (enc os) (bd os k) (bd os j) = encI (seg (rowOf os) k j) := by
  have e := bd_add os k (j - k)
  rw [show k + (j - k) = j by lia] at e
  unfold seg
  rw [bd_drop, e, Nat.add_sub_cancel_left, show (rowOf os).drop k = rowOf (os.drop k) from List.map_drop.symm, show (rowOf (os.drop k)).take (j - k) = rowOf ((os.drop k).take (j - k)) from List.map_take.symm, encI, rowOf_toNat]
  generalize os.drop k = l
  generalize j - k = n
  conv => lhs; arg 2; rw [← List.take_append_drop n l, enc, List.flatMap_append]
  exact List.take_left' rfl
theorem seekT_of {row : List Int} {run : List It} {a h : Nat} (e : seekT row run a = some h) : a ≤ h ∧ fits run row h = true ∧ ∀ j, a ≤ j → j < h → fits run row j = false := by
  unfold seekT at e
  rw [List.find?_range_eq_some] at e
  obtain ⟨e1, e2, e3⟩ := e
  simp only [Bool.and_eq_true, decide_eq_true_eq] at e1
  refine ⟨e1.1, e1.2, fun j h1 h2 => ?_⟩
  have := e3 j h2
  simpa [h1] using this
theorem seekT_none {row : List Int} {run : List It} {a : Nat} (e : seekT row run a = none) {j : Nat} (h1 : a ≤ j) (h2 : j < row.length) : fits run row j = false := by
  unfold seekT at e
  rw [List.find?_eq_none] at e
  have := e j (List.mem_range.mpr h2)
  simpa [h1] using this
theorem seek_bd {r : List Im} {os : List Nat} (hg : Goods r) (ho : Octs os) (hr : r ≠ []) {k : Nat} (hk : k ≤ os.length) : seek (gsOf r) (enc os) (bd os k) = (seekT (rowOf os) (itOf r) k).map (bd os) := by
  have back : ∀ p, bd os k ≤ p → gAt (gsOf r) (enc os) p = true → ∃ j, k ≤ j ∧ j < os.length ∧ p = bd os j ∧ fits (itOf r) (rowOf os) j = true := fun p hp h => by
    obtain ⟨j, hj, rfl⟩ := gAt_ex hg ho hr h
    rw [gAt_bd hg ho hj] at h
    have := (fits_bd hg ho hj h).1
    have := List.length_pos_iff.mpr hr
    exact ⟨j, bd_le hp hk, by lia, rfl, h⟩
  cases h : seekT (rowOf os) (itOf r) k with
  | some j =>
    obtain ⟨h1, h2, h3⟩ := seekT_of h
    have hj : j ≤ os.length := by have := (fits_bound h2).2; simp only [List.length_map] at this; lia
    have hkj : bd os k ≤ bd os j := by rcases Nat.lt_or_eq_of_le h1 with q | q; exact Nat.le_of_lt (bd_lt q hj); rw [q]; exact Nat.le_refl _
    refine seek_some hkj ((gAt_bd hg ho hj).trans h2) fun p hp hp2 => ?_
    cases hq : gAt (gsOf r) (enc os) p with
    | false => rfl
    | true =>
      obtain ⟨i, a, b, rfl, d⟩ := back p hp hq
      rw [h3 i a (Nat.lt_of_not_le fun q => ?_)] at d
      · cases d
      · rcases Nat.lt_or_eq_of_le q with q | q
        · exact Nat.lt_asymm hp2 (bd_lt q (Nat.le_of_lt b))
        · rw [q] at hp2; exact Nat.lt_irrefl _ hp2
  | none =>
    refine seek_none fun p hp => ?_
    cases hq : gAt (gsOf r) (enc os) p with
    | false => rfl
    | true =>
      obtain ⟨i, a, b, rfl, d⟩ := back p hp hq
      rw [seekT_none h a (by rw [List.length_map]; exact b)] at d
      cases d
noncomputable abbrev Mids (mid : List (List Im)) : Prop := ∀ r ∈ mid, Goods r ∧ r ≠ []
theorem shr_tel {os : List Nat} (ho : Octs os) : ∀ (mid : List (List Im)) (k : Nat) (acc : List (List Int)), Mids mid → k ≤ os.length →
    shr (enc os) (mid.map gsOf) (bd os k) (acc.map encI) = (tel (rowOf os) (mid.map itOf) k acc).map (fun p => (bd os p.1, p.2.map encI)) ∧ ∀ a l, tel (rowOf os) (mid.map itOf) k acc = some (a, l) → a ≤ os.length
  | [], k, acc, _, hk => ⟨rfl, fun a l h => by cases h; exact hk⟩
  | r :: mid, k, acc, hm, hk => by
    obtain ⟨hg, hr⟩ := hm r (.head _)
    show (match seek (gsOf r) (enc os) (bd os k) with | none => none | some h => shr (enc os) (mid.map gsOf) (h + (gsOf r).length) (acc.map encI ++ [seg (enc os) (bd os k) h])) =
      Option.map _ (match seekT (rowOf os) (itOf r) k with | none => none | some h => tel (rowOf os) (mid.map itOf) (h + (itOf r).length) (acc ++ [seg (rowOf os) k h])) ∧
      ∀ a l, (match seekT (rowOf os) (itOf r) k with | none => none | some h => tel (rowOf os) (mid.map itOf) (h + (itOf r).length) (acc ++ [seg (rowOf os) k h])) = some (a, l) → a ≤ os.length
    rw [seek_bd hg ho hr hk]
    cases h : seekT (rowOf os) (itOf r) k with
    | none => exact ⟨rfl, fun a l h => nomatch h⟩
    | some j =>
      obtain ⟨h1, h2, _⟩ := seekT_of h
      have hj : j ≤ os.length := by have := (fits_bound h2).2; simp only [List.length_map] at this; lia
      obtain ⟨f1, f2⟩ := fits_bd hg ho hj h2
      have ih := shr_tel ho mid (j + r.length) (acc ++ [seg (rowOf os) k j]) (fun x hx => hm x (.tail _ hx)) f1
      rw [List.map_append, List.map_cons, List.map_nil, ← seg_bd h1, ← f2] at ih
      dsimp only [Option.map_some]
      rw [show (itOf r).length = r.length from List.length_map _]
      exact ih
theorem tel_feas {row : List Int} : ∀ (mid : List (List It)) (k : Nat) (acc : List (List Int)) {a : Nat} {l : List (List Int)}, tel row mid k acc = some (a, l) → Feas row mid k a
  | [], k, acc, a, l, h => by cases h; exact Int.le_refl _
  | r :: mid, k, acc, a, l, h => by
    change (match seekT row r k with | none => none | some h => tel row mid (h + r.length) (acc ++ [seg row k h])) = some (a, l) at h
    cases e : seekT row r k with
    | none => rw [e] at h; cases h
    | some j =>
      rw [e] at h
      obtain ⟨h1, h2, _⟩ := seekT_of e
      exact ⟨j, by lia, h2, tel_feas mid _ _ h⟩
theorem feas_tel {row : List Int} : ∀ (mid : List (List It)) (k : Nat) (acc : List (List Int)) {e : Int}, (∀ r ∈ mid, r ≠ []) → Feas row mid k e → ∃ a l, tel row mid k acc = some (a, l) ∧ (a : Int) ≤ e
  | [], k, acc, e, _, h => ⟨k, acc, rfl, h⟩
  | r :: mid, k, acc, e, hm, ⟨k', h1, h2, h3⟩ => by
    have hb := fits_bound h2
    have hp := List.length_pos_iff.mpr (hm r (.head _))
    have hk : ((k'.toNat : Nat) : Int) = k' := Int.toNat_of_nonneg hb.1
    rw [← hk] at h2
    show ∃ a l, (match seekT row r k with | none => none | some h => tel row mid (h + r.length) (acc ++ [seg row k h])) = some (a, l) ∧ (a : Int) ≤ e
    cases hs : seekT row r k with
    | none => rw [seekT_none hs (j := k'.toNat) (by lia) (by lia)] at h2; cases h2
    | some j =>
      obtain ⟨_, _, q⟩ := seekT_of hs
      have hj : j ≤ k'.toNat := Nat.le_of_not_lt fun c => by rw [q _ (by lia) c] at h2; cases h2
      exact feas_tel mid (j + r.length) _ (fun x hx => hm x (.tail _ hx)) (h3.mono (by lia))
theorem shares_told1 {r0 : List Im} {os : List Nat} (hg : Goods r0) (ho : Octs os) : shares1 (gsOf r0) (enc os) = (told1 (itOf r0) (rowOf os)).map (·.map encI) := by
  unfold shares1 told1
  have h0 := gAt_bd hg ho (Nat.zero_le os.length)
  rw [show bd os 0 = 0 from rfl] at h0
  rw [h0]
  cases hf : fits (itOf r0) (rowOf os) (0 : Nat) with
  | false => rfl
  | true =>
    obtain ⟨a, b⟩ := fits_bd hg ho (Nat.zero_le _) hf
    rw [show bd os 0 = 0 from rfl, Nat.zero_add, Nat.zero_add] at b
    have : (gsOf r0).length = (enc os).length ↔ (itOf r0).length = (rowOf os).length := by
      rw [List.length_map, List.length_map, b, ← bd_full]
      exact ⟨fun h => bd_inj h (by lia) (Nat.le_refl _), fun h => by rw [h]⟩
    by_cases hc : (itOf r0).length = (rowOf os).length
    · rw [decide_eq_true (this.mpr hc), decide_eq_true hc]; rfl
    · rw [decide_eq_false (fun h => hc (this.mp h)), decide_eq_false hc]; rfl
theorem shares_told2 {r0 : List Im} {mid : List (List Im)} {rl : List Im} {os : List Nat} (hg : Goods r0) (hm : Mids mid) (hgl : Goods rl) (hl : rl ≠ []) (ho : Octs os) :
    shares2 (gsOf r0) (mid.map gsOf) (gsOf rl) (enc os) = (told2 (itOf r0) (mid.map itOf) (itOf rl) (rowOf os)).map (·.map encI) := by
  unfold shares2 told2
  have h0 := gAt_bd hg ho (Nat.zero_le os.length)
  rw [show bd os 0 = 0 from rfl] at h0
  rw [h0]
  cases hf : fits (itOf r0) (rowOf os) (0 : Nat) with
  | false => rfl
  | true =>
    rw [if_pos rfl, Bool.true_and]
    obtain ⟨a0, b0⟩ := fits_bd hg ho (Nat.zero_le _) hf
    rw [show bd os 0 = 0 from rfl, Nat.zero_add, Nat.zero_add] at b0
    rw [Nat.zero_add] at a0
    obtain ⟨t1, t2⟩ := shr_tel ho mid r0.length [] hm a0
    rw [b0, show ([] : List (List Nat)) = ([] : List (List Int)).map encI from rfl, t1]
    have hil : (itOf r0).length = r0.length := List.length_map _
    have hrl : (itOf rl).length = rl.length := List.length_map _
    have hro : (rowOf os).length = os.length := List.length_map _
    have hlp := List.length_pos_iff.mpr hl
    rw [hil, hrl, hro]
    have hlast : ∀ j, j ≤ os.length → gAt (gsOf rl) (enc os) (bd os j) = true → j + rl.length ≤ os.length ∧ bd os j + (gsOf rl).length = bd os (j + rl.length) := fun j hj h => fits_bd hgl ho hj ((gAt_bd hgl ho hj).symm.trans h)
    by_cases hfl : fits (itOf rl) (rowOf os) ((os.length : Int) - (rl.length : Nat)) = true
    · rw [hfl]
      have hle : rl.length ≤ os.length := by have := fits_bound hfl; lia
      rw [show ((os.length : Int) - (rl.length : Nat)) = ((os.length - rl.length : Nat) : Int) by lia] at hfl ⊢
      obtain ⟨_, e2⟩ := fits_bd hgl ho (Nat.sub_le _ _) hfl
      rw [Nat.sub_add_cancel hle, bd_full] at e2
      have hgl2 := (gAt_bd hgl ho (Nat.sub_le os.length rl.length)).trans hfl
      have e3 : (enc os).length - (gsOf rl).length = bd os (os.length - rl.length) := by lia
      rw [e3, hgl2]
      by_cases hfe : (r0.length : Int) ≤ (mid.map itOf).foldr (fun m e => lat1 (rowOf os) e m) ((os.length - rl.length : Nat) : Int)
      · rw [decide_eq_true hfe, Bool.true_and, if_pos rfl]
        obtain ⟨a, l, q1, q2⟩ := feas_tel (row := rowOf os) (mid.map itOf) r0.length [] (fun r hr => by obtain ⟨x, hx, rfl⟩ := List.mem_map.mp hr; intro e; exact (hm x hx).2 (List.map_eq_nil_iff.mp e)) (feas_late (by lia) hfe)
        rw [q1]
        have ha : a ≤ os.length - rl.length := by lia
        have hab : bd os a ≤ bd os (os.length - rl.length) := by rcases Nat.lt_or_eq_of_le ha with q | q; exact Nat.le_of_lt (bd_lt q (Nat.sub_le _ _)); rw [q]; exact Nat.le_refl _
        dsimp only [Option.map_some]
        rw [decide_eq_true (show bd os a + (gsOf rl).length ≤ (enc os).length by lia), Bool.true_and, if_pos rfl, seg_bd ha, List.map_append]
        rfl
      · rw [decide_eq_false hfe, Bool.and_false, if_neg (by decide)]
        cases ht : tel (rowOf os) (mid.map itOf) r0.length [] with
        | none => rfl
        | some p =>
          obtain ⟨a, l⟩ := p
          have ha : ¬ a ≤ os.length - rl.length := fun q => by
            have := late_feas (row := rowOf os) (e := ((os.length - rl.length : Nat) : Int)) ?_ (ms := mid.map itOf) (a := (r0.length : Int))
            · exact hfe this
            · have := tel_feas _ _ _ ht
              have mono : ∀ (ms : List (List It)) (k e e' : Int), e ≤ e' → Feas (rowOf os) ms k e → Feas (rowOf os) ms k e' := fun ms => by
                induction ms with
                | nil => exact fun k e e' h f => Int.le_trans f h
                | cons m r ih => exact fun k e e' h ⟨x, f1, f2, f3⟩ => ⟨x, f1, f2, ih _ _ _ h f3⟩
              exact mono _ _ _ _ (by lia) this
          have := bd_lt (Nat.lt_of_not_le ha) (t2 a l ht)
          dsimp only [Option.map_some]
          rw [decide_eq_false (show ¬ bd os a + (gsOf rl).length ≤ (enc os).length by lia), Bool.false_and, if_neg (by decide)]
          rfl
    · rw [Bool.not_eq_true] at hfl
      rw [hfl, Bool.false_and, if_neg (by decide)]
      cases ht : tel (rowOf os) (mid.map itOf) r0.length [] with
      | none => rfl
      | some p =>
        obtain ⟨a, l⟩ := p
        dsimp only [Option.map_some]
        rw [if_neg]
        · rfl
        · intro h
          simp only [Bool.and_eq_true, decide_eq_true_eq] at h
          obtain ⟨j, hj, e⟩ := gAt_ex hgl ho hl h.2
          rw [e] at h
          obtain ⟨l1, l2⟩ := hlast j hj h.2
          have : bd os (j + rl.length) = bd os os.length := by rw [← l2, ← e, bd_full]; lia
          have := bd_inj this l1 (Nat.le_refl _)
          have h2 := (gAt_bd hgl ho hj).symm.trans h.2
          rw [show (j : Int) = (os.length : Int) - (rl.length : Nat) by lia, hfl] at h2
          cases h2
end
section
theorem no10 {os : List Nat} (h : Octs os) : 10 ∉ enc os := fun hc => by
  obtain ⟨d, hd, hc⟩ := List.mem_flatMap.mp hc
  obtain ⟨h1, h2, h3⟩ := h d hd
  exact absurd (enc1_ok d h1 h2 h3 10 hc) (by decide)
theorem wri_one (z : List Nat) (q : List Nat × List Nat) (ls : List (List Nat × List Nat)) : joinN [10] ((q :: ls ++ [(z, [])]).map lnT) = lnT q ++ 10 :: joinN [10] ((ls ++ [(z, [])]).map lnT) := by
  show lnT q ++ ((ls ++ [(z, [])]).map lnT).flatMap (fun p => [10] ++ p) = _
  cases ls with
  | nil => rfl
  | cons a r => rfl
theorem wri_ind (z : List Nat) (hz : Octs z) : ∀ ls : List (List Nat × List Nat), (∀ q ∈ ls, q.2 = [61] ∧ q.1 ≠ [] ∧ Octs q.1) → (joinN [10] ((ls ++ [(z, [])]).map lnT)).length ≤ 5 * (ls.flatMap Prod.fst ++ z).length ∧
    ls.flatMap lnO ++ z = ls.flatMap Prod.fst ++ z ∧ rep2 (joinN [10] ((ls ++ [(z, [])]).map lnT)) = enc (ls.flatMap Prod.fst ++ z)
  | [], _ => by
    have e : joinN [10] (([] ++ [(z, [])]).map lnT) = enc z := by show (enc z ++ []) ++ [] = _; simp
    rw [e]
    exact ⟨Nat.le_trans (enc_len z) (by show _ ≤ 5 * z.length; lia), rfl, rep2_no (no10 hz)⟩
  | q :: ls, h => by
    obtain ⟨q1, q2, q3⟩ := h q (.head _)
    obtain ⟨i1, i2, i3⟩ := wri_ind z hz ls fun x hx => h x (.tail _ hx)
    have hl := List.length_pos_iff.mpr q2
    have el : lnT q = enc q.1 ++ [61] := by unfold lnT; rw [q1]
    have : (enc q.1).length ≤ 3 * q.1.length := enc_len q.1
    refine ⟨?_, ?_, ?_⟩
    · rw [wri_one, el, List.flatMap_cons]
      simp only [List.length_append, List.length_cons, List.length_nil] at i1 ⊢
      lia
    · rw [List.flatMap_cons, List.flatMap_cons, List.append_assoc, List.append_assoc, i2]
      unfold lnO; rw [q1]; simp
    · rw [wri_one, el, List.append_assoc]
      show rep2 (enc q.1 ++ 61 :: 10 :: _) = _
      rw [rep2_at _ (no10 q3), i3, List.flatMap_cons, List.append_assoc]
      exact List.flatMap_append.symm
theorem ln_end {z : List Nat} (hz : Octs z) (hd : ∃ y, z = y ++ [46]) (hl : z.length ≤ 10000) : Ln (z, []) := by
  obtain ⟨y, rfl⟩ := hd
  have e : lnT (y ++ [46], []) = enc y ++ [46] := by
    show enc (y ++ [46]) ++ [] = _
    rw [List.append_nil, enc, List.flatMap_append]; rfl
  refine ⟨hz, by simp, ⟨by rw [e]; simp, ?_⟩, .inr ⟨rfl, by rw [e]; simp⟩⟩
  have : (enc (y ++ [46])).length ≤ 3 * (y ++ [46]).length := enc_len _
  show (enc (y ++ [46]) ++ []).length ≤ _
  rw [List.append_nil]; lia
theorem wri {os z : List Nat} {ls : List (List Nat × List Nat)} (ho : Octs os) (hd : ∃ y, os = y ++ [46]) (hl : os.length ≤ 1000) (e1 : os = ls.flatMap Prod.fst ++ z) (e2 : z ≠ []) (e3 : ∀ q ∈ ls, q.2 = [61] ∧ q.1 ≠ []) :
    (∀ q ∈ ls, Ln q) ∧ Ln (z, []) ∧ (joinN [10] ((ls ++ [(z, [])]).map lnT)).length ≤ 100000 ∧ ((ls ++ [(z, [])]).flatMap lnO).length ≤ 100000 ∧ ls.flatMap lnO ++ z = os ∧ rep2 (joinN [10] ((ls ++ [(z, [])]).map lnT)) = enc os := by
  have hz : Octs z := fun c hc => ho c (by rw [e1]; exact List.mem_append_right _ hc)
  have hq : ∀ q ∈ ls, Octs q.1 := fun q hq c hc => ho c (by rw [e1]; exact List.mem_append_left _ (List.mem_flatMap.mpr ⟨q, hq, hc⟩))
  have hls : ∀ q ∈ ls, q.1.length ≤ 1000 := fun q hq => by
    have : q.1.length ≤ (ls.flatMap Prod.fst).length := by
      rw [List.length_flatMap]; exact le_sum (fun q : List Nat × List Nat => q.1.length) hq
    rw [e1, List.length_append] at hl; lia
  obtain ⟨i1, i2, i3⟩ := wri_ind z hz ls fun q h => ⟨(e3 q h).1, (e3 q h).2, hq q h⟩
  rw [← e1] at i1 i2 i3
  refine ⟨fun q h => ⟨hq q h, (e3 q h).2, ⟨?_, ?_⟩, .inl (e3 q h).1⟩, ln_end hz ?_ ?_, by lia, ?_, i2, i3⟩
  · unfold lnT; rw [(e3 q h).1]; simp
  · unfold lnT; rw [(e3 q h).1]
    have : (enc q.1).length ≤ 3 * q.1.length := enc_len q.1
    have := hls q h
    have e : (q.1.flatMap enc1 ++ [61]).length = (enc q.1).length + 1 := List.length_append
    rw [e]; lia
  · obtain ⟨y, hy⟩ := hd
    obtain ⟨t, c, rfl⟩ : ∃ t c, z = t ++ [c] := ⟨z.dropLast, z.getLast e2, (List.dropLast_concat_getLast e2).symm⟩
    rw [e1, ← List.append_assoc] at hy
    have := (List.append_inj' hy rfl).2
    exact ⟨t, by rw [this]⟩
  · rw [e1, List.length_append] at hl; lia
  · rw [List.flatMap_append, List.length_append]
    have := congrArg List.length i2
    rw [List.length_append] at this
    show _ + ([(z, ([] : List Nat))].flatMap lnO).length ≤ _
    rw [show [(z, ([] : List Nat))].flatMap lnO = (z ++ [10]) ++ [] from rfl]
    simp only [List.length_append, List.length_cons, List.length_nil]; lia
theorem dec_dot {p : List Nat} (ho : Octs p) (hl : p.length ≤ 1000) : Ln (p ++ [46], []) ∧ enc p ++ [46] = joinN [10] ([(p ++ [46], ([] : List Nat))].map lnT) := by
  refine ⟨ln_end (fun c hc => ?_) ⟨p, rfl⟩ (by rw [List.length_append]; simp only [List.length_cons, List.length_nil]; lia), ?_⟩
  · rcases List.mem_append.mp hc with hc | hc
    · exact ho c hc
    · rw [List.mem_singleton.mp hc]; exact ⟨by decide, by decide, by decide⟩
  · show _ = (enc (p ++ [46]) ++ []) ++ []
    rw [List.append_nil, List.append_nil]
    exact (List.flatMap_append (xs := p) (ys := [46]) (f := enc1)).symm
end
section
structure Pl (script : List Int) : Prop where
  p : ∃ (at_ : List At) (r0 : List (List Nat)) (rs : List (List (List Nat))) (GR : List (List Im)) (T : List Nat),
    (bfold (nums script)).pat ++ [46] = at_.flatMap atT ∧ (∀ x ∈ at_, AtOK x) ∧ at_.length ≤ 1000 ∧ at_.foldl pstep [] = parts r0 rs ∧ (∀ r ∈ rs, r ≠ []) ∧ (parts r0 rs).length ≤ 100000 ∧ r0.flatten.length + (rs.map fun r => r.flatten.length + 7).sum ≤ 1000000 ∧
    T = (r0 ++ cont rs).flatten ++ [41, 92, 90] ∧ T.length ≤ 100000 ∧ runsOf (bfold (nums script)).init (bfold (nums script)).last = GR.map itOf ∧ readF T = GR.map gsOf ∧ (∀ r ∈ GR, Goods r ∧ SRun (gsOf r) ∧ r.length ≤ 1000) ∧
    ((∃ r, GR = [r]) ∨ ∃ r0 mid rl, GR = r0 :: (mid ++ [rl]) ∧ Mids mid ∧ rl ≠ [] ∧ mid.length ≤ 1000)
  row : ∃ ro, (bfold (nums script)).row = rowOf ro ∧ Octs ro ∧ ro.length ≤ 100
theorem sharesOf {w : World} {mg mb : Str → Option Value} {GR : List (List Im)} (hg : ∀ r ∈ GR, Goods r ∧ SRun (gsOf r) ∧ r.length ≤ 1000) (hs : (∃ r, GR = [r]) ∨ ∃ r0 mid rl, GR = r0 :: (mid ++ [rl]) ∧ Mids mid ∧ rl ≠ [] ∧ mid.length ≤ 1000) {os : List Nat} (ho : Octs os) (hl : os.length ≤ 1000) :
    ∃ so : Option (List (List Int)), FnOK (TT w mg mb) 108 12 147 [.list ((GR.map gsOf).map vGr), .str (enc os)] (fun r => r = vOpt (so.map (·.map encI))) ∧ FnOK (TT w mg mb) 108 12 159 [.list ((GR.map itOf).map vRun), vRow (rowOf os)] (fun r => r = vTold so) ∧
      ∀ l, so = some l → l.length ≤ 2000 ∧ ∀ p ∈ l, p.length ≤ 1000 ∧ ∀ x ∈ p, x ∈ rowOf os := by
  have he : (enc os).length ≤ 100000 := Nat.le_trans (enc_len os) (by lia)
  have hr : (rowOf os).length ≤ 1000 := by rw [List.length_map]; exact hl
  rcases hs with ⟨r, rfl⟩ | ⟨r0, mid, rl, rfl, hm, hrl, hml⟩
  · obtain ⟨g1, g2, g3⟩ := hg r (.head _)
    refine ⟨told1 (itOf r) (rowOf os), ?_, told_walk1 (itOf r) (rowOf os) (by rw [List.length_map]; exact g3) hr, fun l h => ?_⟩
    · rw [← shares_told1 g1 ho]; exact shares_walk1 _ _ g2 he
    · unfold told1 at h
      split at h
      · cases h; exact ⟨Nat.zero_le _, nofun⟩
      · cases h
  · obtain ⟨a1, a2, a3⟩ := hg r0 (.head _)
    obtain ⟨l1, l2, l3⟩ := hg rl (.tail _ (List.mem_append_right _ (.head _)))
    have hmm : ∀ r ∈ mid, Goods r ∧ SRun (gsOf r) ∧ r.length ≤ 1000 := fun r h => hg r (.tail _ (List.mem_append_left _ h))
    have e1 : ∀ {β : Type} (f : List Im → β), (r0 :: (mid ++ [rl])).map f = f r0 :: (mid.map f ++ [f rl]) := fun f => by simp
    rw [e1, e1]
    refine ⟨told2 (itOf r0) (mid.map itOf) (itOf rl) (rowOf os), ?_, told_walk2 (itOf r0) (mid.map itOf) (itOf rl) (rowOf os) (by rw [List.length_map]; exact a3) (fun r h => ?_) (by rw [List.length_map]; exact hml) (by rw [List.length_map]; exact l3) hr, fun l h => ?_⟩
    · rw [← shares_told2 a1 hm l1 hrl ho]
      exact shares_walk2 _ _ _ _ a2 (fun r h => by obtain ⟨x, hx, rfl⟩ := List.mem_map.mp h; exact (hmm x hx).2.1) (by rw [List.length_map]; lia) l2 he
    · obtain ⟨x, hx, rfl⟩ := List.mem_map.mp h
      exact ⟨fun q => (hm x hx).2 (List.map_eq_nil_iff.mp q), by rw [List.length_map]; exact (hmm x hx).2.2⟩
    · have sg : ∀ a b, (seg (rowOf os) a b).length ≤ 1000 ∧ ∀ x ∈ seg (rowOf os) a b, x ∈ rowOf os := fun a b => ⟨by unfold seg; rw [List.length_take, List.length_drop]; lia, fun x hx => List.mem_of_mem_drop (List.mem_of_mem_take hx)⟩
      have tm : ∀ (ms : List (List It)) (k : Nat) (acc : List (List Int)) (a : Nat) (l : List (List Int)), (∀ p ∈ acc, p.length ≤ 1000 ∧ ∀ x ∈ p, x ∈ rowOf os) → tel (rowOf os) ms k acc = some (a, l) → l.length = acc.length + ms.length ∧ ∀ p ∈ l, p.length ≤ 1000 ∧ ∀ x ∈ p, x ∈ rowOf os := fun ms => by
        induction ms with
        | nil => exact fun k acc a l h e => by cases e; exact ⟨rfl, h⟩
        | cons m ms ih =>
          intro k acc a l h e
          change (match seekT (rowOf os) m k with | none => none | some h => tel (rowOf os) ms (h + m.length) (acc ++ [seg (rowOf os) k h])) = some (a, l) at e
          cases hs : seekT (rowOf os) m k with
          | none => rw [hs] at e; cases e
          | some j =>
            rw [hs] at e
            obtain ⟨q1, q2⟩ := ih _ _ _ _ (fun p hp => by
              rcases List.mem_append.mp hp with hp | hp
              · exact h p hp
              · rw [List.mem_singleton.mp hp]; exact sg _ _) e
            exact ⟨by rw [q1, List.length_append, List.length_cons, List.length_cons, List.length_nil]; lia, q2⟩
      unfold told2 at h
      split at h
      · cases ht : tel (rowOf os) (mid.map itOf) (itOf r0).length [] with
        | none => rw [ht] at h; cases h
        | some p =>
          rw [ht] at h
          cases h
          obtain ⟨q1, q2⟩ := tm _ _ _ _ _ (fun p hp => absurd hp List.not_mem_nil) ht
          refine ⟨by rw [List.length_append, q1, List.length_map]; simp only [List.length_cons, List.length_nil]; lia, fun p hp => ?_⟩
          rcases List.mem_append.mp hp with hp | hp
          · exact q2 p hp
          · rw [List.mem_singleton.mp hp]; exact sg _ _
      · cases h
theorem law_walk {w : World} {mg mb : Str → Option Value} (script : List Int) (hl : script.length ≤ 63) (hpl : Pl script) : FnOK (TT w mg mb) 108 15 164 [.list (script.map V.int)] (fun r => r = .bool true) := by
  refine' FnOK.sem (F := F164 w mg mb) (f := 164) (dds := []) (dvs := []) [Str.ofString "script"] [Str.ofString "pattern", Str.ofString "runs", Str.ofString "row", Str.ofString "width", Str.ofString "read", Str.ofString "one", Str.ofString "text", Str.ofString "written", Str.ofString "shares", Str.ofString "due"] [.list (script.map V.int), .undef, .undef, .undef, .undef, .undef, .undef, .undef, .undef, .undef, .undef]
    (hK := by rfl) (by kernel_rfl) rfl (by kernel_rfl) (fun zu zu => .nil) (fun zu zu zu hv => binds1 hv fun zu => rfl) rfl rfl ?s ?b
  case s => exact (ders w mg mb).2.2.2.2.2.2.2.2.2.2.2.2.2.2.2.2
  intro C hT hP
  obtain ⟨⟨at_, r0, rs, GR, T, h1, h2, h3, h4, h5, h6, h7, h8, h9, h10, h11, h12, h13⟩, ro, hro, hoc, hrl⟩ := hpl
  refine FunOK.is hT hP (built_walk script hl) (by decide) ?_
  rw [h1, h10, hro]
  have hsl : (slc script none (some 5)).length ≤ 5 := by
    unfold slc
    simp only [Option.elim, List.length_take]
    have := clipAt_cast script.length 5
    lia
  refine SlcOK.lstE rfl (by simp; lia) (slc_map V.int script none (some 5)) (BltOK.sum rfl ?_)
  obtain ⟨n, hn, hn4⟩ : ∃ n : Nat, 4 + (slc script none (some 5)).sum % 9 = (n : Int) ∧ 4 ≤ n ∧ n ≤ 12 := ⟨(4 + (slc script none (some 5)).sum % 9).toNat, by generalize (slc script none (some 5)).sum = z; omega, by generalize (slc script none (some 5)).sum = z; omega⟩
  have ht := translate_walk (w := w) (mg := mg) (mb := mb) at_ h2 h3 r0 rs h4 h5 h6 h7
  rw [List.append_assoc, ← h8] at ht
  have hre := read_walk (w := w) (mg := mg) (mb := mb) T h9 (by rw [h8, List.length_append]; exact Nat.le_add_left _ _) (by rw [h8, List.length_append, show [41, 92, 90].length = 3 from rfl, Nat.add_sub_cancel, List.drop_left])
  rw [h11] at hre
  have hgne : GR ≠ [] := by rcases h13 with ⟨r, rfl⟩ | ⟨_, _, _, rfl, _⟩ <;> simp
  refine ⟨by decide, FunOK.is hT hP ht (by decide) (FunOK.is hT hP hre (by decide) (LstOK.still (CmpOK.eqNil rfl rfl ⟨fun h => absurd h (by simp [hgne]), fun zu => ?_⟩)))⟩
  have hrV : (rowOf ro).map V.int ++ [V.int 46] = (rowOf (ro ++ [46])).map V.int := by simp
  have hrl2 : ((rowOf ro).map V.int).length = ro.length := by simp
  have hs1 : slc ((rowOf ro).map V.int) (some 1) none = (rowOf (ro.drop 1)).map V.int := (slc_frN _ 1).trans (by rw [← List.map_drop, ← List.map_drop])
  refine LstOK.still (BinOK.addL rfl rfl (by rw [hrl2]; simp; lia) (SlcOK.lst rfl (by lia) (LstOK.still (BinOK.addL rfl rfl ?_ (SlcOK.rev (by lia) (LstOK.still (BinOK.addL rfl rfl ?_ (LstOK.still ?_))))))))
  · rw [hs1]; simp only [List.length_cons, List.length_nil, List.length_map, List.length_drop]; lia
  · rw [List.length_reverse, hrl2]; simp only [List.length_cons, List.length_nil]; lia
  have hds : ∀ x ∈ [V.list ((rowOf ro).map V.int ++ [V.int 46]), V.list (slc ((rowOf ro).map V.int) (some 1) none ++ [V.int 46]), V.list (((rowOf ro).map V.int).reverse ++ [V.int 46])], ∃ os, x = vRow (rowOf os) ∧ Octs os ∧ (∃ y, os = y ++ [46]) ∧ os.length ≤ 101 := by
    have key : ∀ y : List Nat, (∀ c ∈ y, c ∈ ro) → y.length ≤ ro.length → ∃ os, V.list ((rowOf y).map V.int ++ [V.int 46]) = vRow (rowOf os) ∧ Octs os ∧ (∃ y, os = y ++ [46]) ∧ os.length ≤ 101 := fun y hy hl => by
      refine ⟨y ++ [46], by simp, fun c hc => ?_, ⟨y, rfl⟩, by rw [List.length_append]; simp only [List.length_cons, List.length_nil]; lia⟩
      rcases List.mem_append.mp hc with hc | hc
      · exact hoc c (hy c hc)
      · rw [List.mem_singleton.mp hc]; exact ⟨by decide, by decide, by decide⟩
    intro x hx
    rcases List.mem_cons.mp hx with rfl | hx
    · exact key ro (fun zu h => h) (Nat.le_refl _)
    rcases List.mem_cons.mp hx with rfl | hx
    · rw [hs1]; exact key (ro.drop 1) (fun zu h => List.mem_of_mem_drop h) (by simp)
    · rw [List.mem_singleton.mp hx, ← List.map_reverse, ← List.map_reverse]; exact key ro.reverse (fun zu h => List.mem_reverse.mp h) (by simp)
  generalize [V.list ((rowOf ro).map V.int ++ [V.int 46]), V.list (slc ((rowOf ro).map V.int) (some 1) none ++ [V.int 46]), V.list (((rowOf ro).map V.int).reverse ++ [V.int 46])] = ds at hds
  refine ForOK.mk' IterOK.list (fun i vars mem => mem = [] ∧ ∃ u1 u2 u3 u4 u5, vars = [.list (script.map V.int), .str (at_.flatMap atT), .list ((GR.map itOf).map vRun), .list ((rowOf ro).map V.int), .int (n : Nat), .list ((GR.map gsOf).map vGr), u1, u2, u3, u4, u5]) ⟨rfl, _, _, _, _, _, by rw [← hn]⟩ ?_ ?_
  · rintro i x vars mem rw hx ⟨rfl, u1, u2, u3, u4, u5, rfl⟩
    obtain ⟨os, rfl, hos, hdot, hosl⟩ := hds x (List.mem_of_getElem? hx)
    obtain ⟨so, hsh, hto, hso⟩ := sharesOf (w := w) (mg := mg) (mb := mb) h12 h13 hos (by lia)
    have eN : ∀ y : List Nat, (rowOf y).map V.int = y.map fun (o : Nat) => V.int (o : Int) := fun y => List.map_map
    have eS : ∀ y : List Nat, (y.map fun o => V.str [o]) = (y.map fun o => [o]).map V.str := fun y => List.map_map.symm
    have eJ : ∀ y : List Nat, joinN [] (y.map fun o => [o]) = y := fun y => by rw [joinN_nil]; induction y with | nil => rfl | cons a y ih => simp [ih]
    have eL : ∀ y : List Nat, ((y.map fun o => [o]).map (·.length)).sum + (y.map fun o => [o]).length * 0 = y.length := fun y => by rw [Nat.mul_zero, Nat.add_zero]; induction y with | nil => rfl | cons a y ih => rw [List.map_cons, List.map_cons, List.sum_cons, ih]; exact Nat.add_comm _ _
    refine ⟨rfl, CompK.map1 os (fun (o : Nat) => V.int (o : Int)) (fun o => V.str [o]) (eN os ▸ IterOK.list) (by lia) (fun Ci zu zu v hv J hJ a rw => ⟨fun zu => BltOK.chr ⟨by lia, by have := (hos v hv).1; lia⟩ (Stb.one hJ), nofun⟩) (BltOK.join (by rw [eS]; rfl) (by rw [show ([] : List Nat).length = 0 from rfl, eL]; lia) ?_)⟩
    rw [eJ]
    refine FunOK.of hT hP (encode_walk os n hos hdot (by lia) hn4) (by decide) fun r ⟨ls, z, e1, e2, e3, e4⟩ => ?_
    subst e4
    obtain ⟨w1, w2, w3, w4, w5, w6⟩ := wri hos hdot (by lia) e1 e2 e3
    have hde := decode_walk (w := w) (mg := mg) (mb := mb) _ ls (z, []) rfl w1 w2 rfl w3 w4
    rw [w5] at hde
    generalize joinN [10] ((ls ++ [(z, [])]).map lnT) = x at hde w3 w6
    clear e1 e2 e3 w1 w2 w4 w5
    refine FunOK.is hT hP hde (by decide) ⟨fun h => absurd h (by simp), fun zu => ⟨Nat.le_trans w3 (by decide), ?_⟩⟩
    rw [w6]
    refine FunOK.is hT hP hsh (by decide) (FunOK.is hT hP hto (by decide) ?_)
    cases so with
    | none =>
      refine CmpOK.isNone (fun h => absurd rfl h) fun zu => CmpOK.isNone (fun h => absurd rfl h) fun zu => ⟨fun h => absurd h (by decide), fun zu => ?_⟩
      exact ⟨false, CmpOK.isNotNone (fun h => absurd rfl h) (fun zu => ⟨fun h => absurd h (by decide), fun zu => ⟨rfl, rfl⟩⟩), nofun, fun zu => ⟨rfl, rfl, _, _, _, _, _, rfl⟩⟩
    | some l =>
      obtain ⟨hll, hlp⟩ := hso l rfl
      have hpp : ∀ p ∈ l, Octs (p.map Int.toNat) ∧ p = rowOf (p.map Int.toNat) ∧ (p.map Int.toNat).length ≤ 1000 := fun p hp => by
        obtain ⟨q1, q2⟩ := hlp p hp
        refine ⟨fun c hc => ?_, ?_, by rw [List.length_map]; exact q1⟩
        · obtain ⟨x, hx, rfl⟩ := List.mem_map.mp hc
          obtain ⟨o, ho, rfl⟩ := List.mem_map.mp (q2 x hx)
          exact hos o ho
        · rw [rowOf, List.map_map]
          conv => lhs; rw [← List.map_id p]
          refine List.map_congr_left fun x hx => ?_
          obtain ⟨o, ho, rfl⟩ := List.mem_map.mp (q2 x hx)
          rfl
      refine CmpOK.isNone (fun zu => CmpOK.isNone (fun zu => ⟨fun h => absurd h (by decide), fun zu => ?_⟩) nofun) nofun
      refine ⟨false, CmpOK.isNotNone (fun zu => ⟨fun zu => ?_, nofun⟩) nofun, nofun, fun zu => ⟨rfl, rfl, _, _, _, _, _, rfl⟩⟩
      have eE : (l.map encI).map V.str = l.map fun p => V.str (encI p) := List.map_map
      have eF : (l.map fun p => V.str (p.map Int.toNat ++ [46])) = (l.map fun p => p.map Int.toNat ++ [46]).map V.str := List.map_map.symm
      refine CompK.map1 l (fun p => V.str (encI p)) (fun p => V.str (p.map Int.toNat ++ [46])) (eE ▸ IterOK.list) (by lia) (fun Ci hT2 hP2 p hp J hJ a rw => ⟨fun zu => ?_, nofun⟩) (CompK.map1 l vRow (fun p => V.str (p.map Int.toNat ++ [46])) IterOK.list (by lia) (fun Ci hT2 hP2 p hp J hJ a rw => ⟨fun zu => ?_, nofun⟩) (CmpOK.neStrs (by rw [eF]; rfl) (by rw [eF]; rfl) ⟨rfl, rfl⟩))
      · obtain ⟨q1, q2, q3⟩ := hpp p hp
        obtain ⟨d1, d2⟩ := dec_dot q1 q3
        have hel : (encI p).length ≤ 3000 := Nat.le_trans (enc_len _) (by lia)
        have hd2 := decode_walk (w := w) (mg := mg) (mb := mb) (encI p ++ [46]) [] (p.map Int.toNat ++ [46], []) d2 (fun q hq => nomatch hq) d1 rfl (by rw [List.length_append]; simp only [List.length_cons, List.length_nil]; lia) (by
          show (((p.map Int.toNat ++ [46]) ++ [10]) ++ []).length ≤ _
          simp only [List.length_append, List.length_cons, List.length_nil]; lia)
        exact ⟨by show (encI p).length + 1 ≤ _; lia, FunOK.is (hT2.trans hT) (hP2.trans hP) hd2 (by decide) (Stb.one hJ)⟩
      · obtain ⟨q1, q2, q3⟩ := hpp p hp
        have ep : p.map V.int ++ [V.int 46] = (p.map Int.toNat ++ [46]).map fun (o : Nat) => V.int (o : Int) := by
          rw [List.map_append, ← eN, ← q2]; rfl
        have hml : (p.map V.int).length = (p.map Int.toNat).length := by rw [List.length_map, List.length_map]
        have hlo : (p.map Int.toNat ++ [46]).length ≤ 1001 := by rw [List.length_append]; simp only [List.length_cons, List.length_nil]; lia
        refine ⟨rfl, LstOK.still (BinOK.addL rfl rfl (by rw [hml]; show _ + 1 ≤ _; lia) (CompK.map1 (p.map Int.toNat ++ [46]) (fun (o : Nat) => V.int (o : Int)) (fun o => V.str [o]) (ep ▸ IterOK.list) (by lia) (fun Ci zu zu v hv J hJ a rw => ⟨fun zu => BltOK.chr ⟨by lia, ?_⟩ (Stb.one hJ), nofun⟩) (BltOK.join (by rw [eS]; rfl) (by rw [show ([] : List Nat).length = 0 from rfl, eL]; lia) ?_)))⟩
        · rcases List.mem_append.mp hv with hv | hv
          · have := (q1 v hv).1; lia
          · rw [List.mem_singleton.mp hv]; decide
        · rw [eJ]; exact Stb.one hJ
  · rintro vars mem ⟨rfl, u1, u2, u3, u4, u5, rfl⟩
    exact ⟨_, .self _, rfl⟩
end
section
noncomputable def Go (T : List Nat) (s s' : RS) : Prop := ∃ k, s.p + k ≤ s'.p ∧ ∀ n, rloop T (n + k) s = rloop T n s'
theorem Go.rfl {T : List Nat} {s : RS} : Go T s s := ⟨0, Nat.le_refl _, fun zu => Eq.refl _⟩
theorem Go.trans {T : List Nat} {s s1 s2 : RS} (h : Go T s s1) (h' : Go T s1 s2) : Go T s s2 := by
  obtain ⟨k, a, b⟩ := h
  obtain ⟨k', a', b'⟩ := h'
  exact ⟨k' + k, by lia, fun n => by rw [← Nat.add_assoc, b, b']⟩
theorem Go.one {T : List Nat} {s s' : RS} {c : Nat} {r : List Nat} (hd : T.drop s.p = c :: r) (hl : 3 ≤ r.length) (h : rstepD c r s = some s') (hp : s.p + 1 ≤ s'.p) : Go T s s' := ⟨1, hp, fun n => by
  have := congrArg List.length hd
  rw [List.length_drop, List.length_cons] at this
  show (if s.p + 3 < T.length then match rstep T s with | none => none | some s' => rloop T n s' else some s) = _
  rw [if_pos (by lia), rstep, hd]
  dsimp only
  rw [h]⟩
theorem Go.end {T : List Nat} {s s' : RS} (h : Go T s s') (hp : s'.p + 3 = T.length) : rloop T T.length s = some s' := by
  obtain ⟨k, a, b⟩ := h
  have e := b (T.length - k)
  rw [Nat.sub_add_cancel (by lia)] at e
  rw [e]
  cases T.length - k with
  | zero => exact Eq.refl _
  | succ n => show (if _ then _ else _) = _; rw [if_neg (by lia)]
structure Rd (t : List Nat) (g : Ge) : Prop where
  e : ∃ c u, t = c :: u ∧ c ≠ 42 ∧ ∀ (r : List Nat) (s : RS), r.head? ≠ some 42 → rstepD c (u ++ r) s = some ⟨s.held, s.init, s.last ++ [g], s.p + t.length⟩
noncomputable abbrev Tg := List (List Nat × Ge)
noncomputable abbrev txt (r : Tg) : List Nat := (r.map Prod.fst).flatten
noncomputable abbrev Rds (r : Tg) : Prop := ∀ a ∈ r, Rd a.1 a.2
theorem head_txt {r : Tg} (h : Rds r) {rest : List Nat} (hr : rest.head? ≠ some 42) : (txt r ++ rest).head? ≠ some 42 := by
  cases r with
  | nil => exact hr
  | cons a r =>
    obtain ⟨c, u, e, hc, _⟩ := (h a (.head _)).e
    show ((a.1 ++ txt r) ++ rest).head? ≠ _
    rw [e]
    exact fun q => hc (Option.some.inj q)
theorem rl_run {T : List Nat} : ∀ (r : Tg) (rest : List Nat) (s : RS), Rds r → T.drop s.p = txt r ++ rest → rest.head? ≠ some 42 → 3 ≤ rest.length → Go T s ⟨s.held, s.init, s.last ++ r.map Prod.snd, s.p + (txt r).length⟩ ∧ T.drop (s.p + (txt r).length) = rest
  | [], rest, s, _, hd, _, _ => ⟨by rw [List.map_nil, List.append_nil]; exact .rfl, hd⟩
  | a :: r, rest, s, h, hd, hh, hl => by
    obtain ⟨c, u, e, hc, hs⟩ := (h a (.head _)).e
    have hr : Rds r := fun x hx => h x (.tail _ hx)
    have e1 : txt (a :: r) = a.1 ++ txt r := List.flatten_cons
    have hd1 : T.drop s.p = c :: (u ++ (txt r ++ rest)) := by rw [hd, e1, e]; simp
    have st := hs (txt r ++ rest) s (head_txt hr hh)
    have g1 : Go T s ⟨s.held, s.init, s.last ++ [a.2], s.p + a.1.length⟩ := .one hd1 (by simp only [List.length_append]; lia) st (by show s.p + 1 ≤ s.p + a.1.length; rw [e]; simp)
    have hd2 : T.drop (s.p + a.1.length) = txt r ++ rest := by rw [← List.drop_drop, hd, e1, List.append_assoc, List.drop_left]
    obtain ⟨g2, d2⟩ := rl_run r rest ⟨s.held, s.init, s.last ++ [a.2], s.p + a.1.length⟩ hr hd2 hh hl
    dsimp only at g2 d2
    rw [e1, List.length_append, ← Nat.add_assoc, List.map_cons]
    rw [List.append_assoc] at g2
    exact ⟨g1.trans g2, d2⟩
theorem cont_head (z : List Nat) (r : Tg) : ∀ t : List Tg, ∃ y, (cont ((r :: t).map (·.map Prod.fst))).flatten ++ z = 46 :: 42 :: y ∨ (cont ((r :: t).map (·.map Prod.fst))).flatten ++ z = 40 :: 63 :: 62 :: y
  | [] => ⟨_, .inl (Eq.refl _)⟩
  | _ :: _ => ⟨_, .inr (Eq.refl _)⟩
theorem rl_cont {T : List Nat} : ∀ (rs : List Tg) (init : List (List Ge)) (last : List Ge) (p : Nat), (∀ r ∈ rs, Rds r) → p ≤ T.length → T.drop p = (cont (rs.map (·.map Prod.fst))).flatten ++ [41, 92, 90] →
    ∃ s', Go T ⟨false, init, last, p⟩ s' ∧ s'.held = false ∧ s'.p + 3 = T.length ∧ s'.init ++ [s'.last] = init ++ [last] ++ rs.map (·.map Prod.snd)
  | [], init, last, p, _, hp, hd => ⟨_, .rfl, Eq.refl _, by have := congrArg List.length hd; rw [List.length_drop] at this; simp [cont] at this; show p + 3 = _; lia, by simp⟩
  | [r], init, last, p, hr, hp, hd => by
    have e : (cont ([r].map (·.map Prod.fst))).flatten ++ [41, 92, 90] = 46 :: 42 :: (txt r ++ [41, 92, 90]) := by show ([46, 42] ++ (txt r ++ [])) ++ [41, 92, 90] = _; simp
    rw [e] at hd
    have g1 : Go T ⟨false, init, last, p⟩ ⟨false, init ++ [last], [], p + 2⟩ := .one hd (by simp) (Eq.refl _) (by show p + 1 ≤ p + 2; lia)
    obtain ⟨g2, d2⟩ := rl_run (T := T) r [41, 92, 90] ⟨false, init ++ [last], [], p + 2⟩ (hr r (.head _)) (by show T.drop (p + 2) = _; rw [← List.drop_drop, hd]; rfl) (by decide) (by decide)
    refine ⟨_, g1.trans g2, Eq.refl _, ?_, by simp⟩
    have := congrArg List.length d2
    rw [List.length_drop] at this
    simp only [List.length_cons, List.length_nil] at this
    show p + 2 + (txt r).length + 3 = _
    lia
  | r :: r' :: t, init, last, p, hr, hp, hd => by
    obtain ⟨Z, hZ⟩ : ∃ Z, Z = (cont ((r' :: t).map (·.map Prod.fst))).flatten ++ [41, 92, 90] := ⟨_, Eq.refl _⟩
    have e : (cont ((r :: r' :: t).map (·.map Prod.fst))).flatten ++ [41, 92, 90] = 40 :: 63 :: 62 :: 46 :: 42 :: 63 :: (txt r ++ 41 :: Z) := by
      rw [hZ]
      show (([40, 63, 62, 46, 42, 63] ++ txt r ++ [41]) ++ (cont ((r' :: t).map (·.map Prod.fst))).flatten) ++ [41, 92, 90] = _
      simp
    rw [e] at hd
    have hZl : 3 ≤ Z.length := by rw [hZ, List.length_append]; simp
    have g1 : Go T ⟨false, init, last, p⟩ ⟨true, init ++ [last], [], p + 6⟩ := .one hd (by simp) (Eq.refl _) (by show p + 1 ≤ p + 6; lia)
    obtain ⟨g2, d2⟩ := rl_run (T := T) r (41 :: Z) ⟨true, init ++ [last], [], p + 6⟩ (hr r (.head _)) (by show T.drop (p + 6) = _; rw [← List.drop_drop, hd]; rfl) (fun q => by cases q) (by simp only [List.length_cons]; lia)
    dsimp only at g2 d2
    have g3 : Go T ⟨true, init ++ [last], [] ++ r.map Prod.snd, p + 6 + (txt r).length⟩ ⟨false, init ++ [last], r.map Prod.snd, p + 6 + (txt r).length + 1⟩ := by
      refine .one d2 hZl ?_ (Nat.le_refl _)
      obtain ⟨y, h | h⟩ := cont_head [41, 92, 90] r' t
      · rw [hZ, h]; exact Eq.refl _
      · rw [hZ, h]; exact Eq.refl _
    have d3 : T.drop (p + 6 + (txt r).length + 1) = Z := by rw [← List.drop_drop, d2]; rfl
    obtain ⟨s', g4, a, b, c⟩ := rl_cont (r' :: t) (init ++ [last]) (r.map Prod.snd) (p + 6 + (txt r).length + 1) (fun x hx => hr x (.tail _ hx)) (by have := congrArg List.length d3; rw [List.length_drop] at this; lia) (d3.trans hZ)
    exact ⟨s', ((g1.trans g2).trans g3).trans g4, a, b, c.trans (by simp)⟩
theorem read_back {r0 : Tg} {rs : List Tg} (h0 : Rds r0) (hr : ∀ r ∈ rs, Rds r) {T : List Nat} (hT : T = (r0.map Prod.fst ++ cont (rs.map fun (r : Tg) => r.map Prod.fst)).flatten ++ [41, 92, 90]) : readF T = (r0 :: rs).map fun (r : Tg) => r.map Prod.snd := by
  have e : T.drop 0 = txt r0 ++ ((cont (rs.map (fun (r : Tg) => r.map Prod.fst))).flatten ++ [41, 92, 90]) := by rw [hT]; simp
  have hh : ((cont (rs.map (fun (r : Tg) => r.map Prod.fst))).flatten ++ [41, 92, 90]).head? ≠ some 42 := by
    cases rs with
    | nil => decide
    | cons r t =>
      obtain ⟨y, h | h⟩ := cont_head [41, 92, 90] r t <;> rw [h] <;> exact fun q => by cases q
  obtain ⟨g1, d1⟩ := rl_run (T := T) r0 _ ⟨false, [], [], 0⟩ h0 e hh (by rw [List.length_append]; simp)
  dsimp only at g1 d1
  rw [Nat.zero_add] at g1 d1
  have hp : (txt r0).length ≤ T.length := by have := congrArg List.length e; rw [List.length_drop, List.length_append] at this; lia
  obtain ⟨s', g2, a, b, c⟩ := rl_cont rs [] ([] ++ r0.map Prod.snd) (txt r0).length hr hp d1
  have := (g1.trans g2).end b
  unfold readF
  rw [this]
  dsimp only
  rw [if_neg (by rw [a]; decide), c]
  rfl
end
section
noncomputable def geOf : At → Ge
  | .star => (true, [])
  | .any => (true, [])
  | .lit c => lit1 c
  | .set neg dash i j => if dash = true ∧ hx j < hx i then (if neg then (true, []) else (false, [])) else (neg, if dash then [([hx i], [hx j])] else [([hx i], [hx i]), ([hx j], [hx j])])
noncomputable def atx (x : At) : List Nat := (atP x).getD []
noncomputable def LitOK (c : Nat) : Prop := c ∈ [103, 32, 46, 45, 95, 126, 9, 90, 61] ∨ ∃ d, d < 16 ∧ c = hx d
noncomputable def AtGo : At → Prop
  | .star => False
  | .any => True
  | .lit c => LitOK c
  | .set _ _ i j => i < 16 ∧ j < 16
theorem AtGo.ok {x : At} (h : AtGo x) : AtOK x ∧ atP x = some (atx x) := by
  cases x with
  | star => exact h.elim
  | any => exact ⟨trivial, rfl⟩
  | set neg dash i j => exact ⟨h, rfl⟩
  | lit c =>
    refine ⟨?_, rfl⟩
    rcases h with h | ⟨d, hd, rfl⟩
    · have key : ∀ c ∈ [103, 32, 46, 45, 95, 126, 9, 90, 61], c < 128 ∧ c ≠ 42 ∧ c ≠ 63 ∧ c ≠ 91 := by decide
      exact key c h
    · have := hx_rng hd
      exact ⟨by lia, by lia, by lia, by lia⟩
theorem step_lit {c : Nat} (h1 : c ≠ 40) (h2 : c ≠ 41) (h3 : c ≠ 46) (h4 : c ≠ 91) (h5 : c ≠ 92) (h6 : c ∉ special) (r : List Nat) (s : RS) : rstepD c r s = some ⟨s.held, s.init, s.last ++ [lit1 c], s.p + 1⟩ := by
  unfold rstepD
  rw [if_neg (fun q => h1 (List.cons.inj q.1).1), if_neg (fun q => by rcases q.2 with q | q <;> exact h2 (List.cons.inj q).1), if_neg (fun q => h3 (List.cons.inj q.1).1), if_neg (fun q : (c :: r).take 4 = [40, 63, 33, 41] => h1 (List.cons.inj q).1), if_neg h3, if_neg (fun q => h4 q.1), if_neg h5, if_neg h6]
theorem rd_lit_sg : ∀ c ∈ [103, 32, 46, 45, 95, 126, 9, 90, 61], ∃ k u, esc c = k :: u ∧ k ≠ 42 ∧ ∀ (r : List Nat) (s : RS), rstepD k (u ++ r) s = some ⟨s.held, s.init, s.last ++ [lit1 c], s.p + (esc c).length⟩ := by
  have bare : ∀ c, esc c = [c] → c ≠ 42 → (∀ (r : List Nat) (s : RS), rstepD c r s = some ⟨s.held, s.init, s.last ++ [lit1 c], s.p + 1⟩) → ∃ k u, esc c = k :: u ∧ k ≠ 42 ∧ ∀ (r : List Nat) (s : RS), rstepD k (u ++ r) s = some ⟨s.held, s.init, s.last ++ [lit1 c], s.p + (esc c).length⟩ := fun c e h1 h2 => ⟨c, [], e, h1, fun r s => by rw [e]; exact h2 r s⟩
  have slash : ∀ c, esc c = [92, c] → ∃ k u, esc c = k :: u ∧ k ≠ 42 ∧ ∀ (r : List Nat) (s : RS), rstepD k (u ++ r) s = some ⟨s.held, s.init, s.last ++ [lit1 c], s.p + (esc c).length⟩ := fun c e => ⟨92, [c], e, by decide, fun r s => by
    rw [e]
    show rstepD 92 (c :: r) s = _
    unfold rstepD
    rw [if_neg (fun q => by cases q.1), if_neg (fun q => by rcases q.2 with q | q <;> cases q), if_neg (fun q => by cases q.1), if_neg (fun q : (92 :: c :: r).take 4 = [40, 63, 33, 41] => by cases q), if_neg (by decide), if_neg (fun q => by cases q.1), if_pos rfl]
    rfl⟩
  intro c hc
  simp only [List.mem_cons, List.not_mem_nil, or_false] at hc
  rcases hc with rfl | rfl | rfl | rfl | rfl | rfl | rfl | rfl | rfl <;>
    first
      | exact slash _ (by decide)
      | exact bare _ (by decide) (by decide) (step_lit (by decide) (by decide) (by decide) (by decide) (by decide) (by decide))
theorem rd_lit {c : Nat} (h : LitOK c) : Rd (esc c) (lit1 c) := by
  rcases h with h | ⟨d, hd, rfl⟩
  · obtain ⟨k, u, e, h1, h2⟩ := rd_lit_sg c h
    exact ⟨k, u, e, h1, fun r s zu => h2 r s⟩
  · have hr := hx_rng hd
    have h7 : ∀ d, d < 16 → hx d ∉ special ∧ esc (hx d) = [hx d] := by decide
    obtain ⟨h6, e⟩ := h7 d hd
    refine ⟨hx d, [], e, by lia, fun r s zu => ?_⟩
    rw [e]
    exact step_lit (by lia) (by lia) (by lia) (by lia) (by lia) h6 r s
theorem rd_any : Rd [46] (true, []) := ⟨46, [], rfl, by decide, fun r s hr => by
  show rstepD 46 r s = _
  unfold rstepD
  rw [if_neg (fun q => by cases q.1), if_neg (fun q => by rcases q.2 with q | q <;> cases q), if_neg ?_, if_neg (fun q : (46 :: r).take 4 = [40, 63, 33, 41] => by cases q), if_pos rfl]
  · rfl
  · intro q
    cases r with
    | nil => cases q.1
    | cons a r => exact hr (by have := (List.cons.inj (List.cons.inj q.1).2).1; rw [this]; rfl)⟩
theorem rd_never : Rd [40, 63, 33, 41] (false, []) := ⟨40, [63, 33, 41], rfl, by decide, fun r s zu => by
  show rstepD 40 (63 :: 33 :: 41 :: r) s = _
  unfold rstepD
  rw [if_neg (fun q => by cases q.1), if_neg (fun q => by rcases q.2 with q | q <;> cases q), if_neg (fun q => by cases q.1), if_pos (show (40 :: 63 :: 33 :: 41 :: r).take 4 = [40, 63, 33, 41] from rfl)]
  rfl⟩
theorem rd_set (neg dash : Bool) {i j : Nat} (hi : i < 16) (hj : j < 16) : Rd (atx (.set neg dash i j)) (geOf (.set neg dash i j)) := by
  have ri := hx_rng hi
  have rj := hx_rng hj
  show Rd (if dash = true ∧ hx j < hx i then (if neg then [46] else [40, 63, 33, 41]) else [91] ++ ((if neg then [94] else []) ++ [hx i] ++ (if dash then [45] else []) ++ [hx j]) ++ [93])
    (if dash = true ∧ hx j < hx i then (if neg then (true, []) else (false, [])) else (neg, if dash then [([hx i], [hx j])] else [([hx i], [hx i]), ([hx j], [hx j])]))
  generalize hx i = f at ri
  generalize hx j = g at rj
  by_cases hc : dash = true ∧ g < f
  · rw [if_pos hc, if_pos hc]
    cases neg
    · exact rd_never
    · exact rd_any
  · rw [if_neg hc, if_neg hc]
    obtain ⟨w, hw⟩ : ∃ w, w = (if neg then [94] else []) ++ [f] ++ (if dash then [45] else []) ++ [g] := ⟨_, rfl⟩
    rw [← hw]
    have h93 : 93 ∉ w := by rw [hw]; cases neg <;> cases dash <;> simp <;> lia
    have hb : brk w = some (neg, if dash then [([f], [g])] else [([f], [f]), ([g], [g])]) := by
      rw [hw]
      unfold brk
      have e94 : f ≠ 94 := by lia
      have e45 : g ≠ 45 := by lia
      have lt : ∀ a b : Nat, ([a] : List Nat) < [b] → a < b := fun a b h => lt1.mp h
      cases neg <;> cases dash
      · simp [e94, e45]
      · have : ¬ ([g] : List Nat) < [f] := fun q => hc ⟨rfl, lt _ _ q⟩
        simp [e94, this]
      · simp [e45]
      · have : ¬ ([g] : List Nat) < [f] := fun q => hc ⟨rfl, lt _ _ q⟩
        simp [this]
    refine ⟨91, w ++ [93], rfl, by decide, fun r s zu => ?_⟩
    have hix : (91 :: (w ++ [93] ++ r)).idxOf 93 = w.length + 1 := by
      rw [List.idxOf_cons, show ((91 : Nat) == 93) = false from rfl, cond_false, List.append_assoc, List.idxOf_append, if_neg h93]
      simp
    unfold rstepD
    rw [if_neg (fun q => by cases q.1), if_neg (fun q => by rcases q.2 with q | q <;> cases q), if_neg (fun q => by cases q.1), if_neg (fun q : (91 :: (w ++ [93] ++ r)).take 4 = [40, 63, 33, 41] => by cases q), if_neg (by decide), if_pos ⟨rfl, by simp⟩, hix,
      show (91 :: (w ++ [93] ++ r)).take (w.length + 1) = 91 :: w by rw [List.take_succ_cons, List.append_assoc, List.take_left], show (91 :: w).drop 1 = w from rfl, hb]
    simp; lia
theorem rd_at {x : At} (h : AtGo x) : Rd (atx x) (geOf x) := by
  cases x with
  | star => exact h.elim
  | any => exact rd_any
  | lit c => exact rd_lit h
  | set neg dash i j => exact rd_set neg dash h.1 h.2
end
section
theorem hx_le : ∀ a, a < 16 → ∀ b, b < 16 → (hx a ≤ hx b ↔ a ≤ b) := by decide
theorem hx_inj {a b : Nat} (ha : a < 16) (hb : b < 16) (h : hx a = hx b) : a = b := Nat.le_antisymm ((hx_le a ha b hb).mp (Nat.le_of_eq h)) ((hx_le b hb a ha).mp (Nat.le_of_eq h.symm))
theorem inP_one (c a b : Nat) : inP c ([a], [b]) = (decide (a ≤ c) && decide (c ≤ b)) := by
  have e : ∀ x y : Nat, (!decide (([x] : List Nat) < [y])) = decide (y ≤ x) := fun x y => by
    rw [← decide_not]; exact decide_eq_decide.mpr ((not_congr lt1).trans Nat.not_lt)
  unfold inP; rw [e, e]
theorem inP_same (c a : Nat) : inP c ([a], [a]) = decide (c = a) := by
  rw [inP_one, ← Bool.decide_and]; exact decide_eq_decide.mpr (by lia)
theorem gok_lit (c d : Nat) : gok (lit1 c) d = decide (d = c) := by
  show ((inP d ([c], [c]) || false) != false) = _
  rw [inP_same, Bool.or_false, Bool.bne_false]
noncomputable def hAt (n : Int) : At := if n % 6 = 0 then .any else if n % 6 = 1 then .lit (hx (n / 6 % 16).toNat) else .set (decide (n % 6 % 2 = 1)) (decide (n % 6 < 4)) (n / 6 % 16).toNat (n / 96 % 16).toNat
theorem half_at (n : Int) : (half n).1 = atT (hAt n) := by
  unfold half hAt
  split
  · rfl
  split
  · rfl
  show (if n % 6 % 2 = 0 then _ else _ : List Nat × List Int).1 = [91] ++ ((if decide (n % 6 % 2 = 1) = true then [33] else []) ++ [hx (n / 6 % 16).toNat] ++ (if decide (n % 6 < 4) = true then [45] else []) ++ [hx (n / 96 % 16).toNat]) ++ [93]
  split
  · rw [decide_eq_false (show ¬ n % 6 % 2 = 1 by lia)]; simp
  · rw [decide_eq_true (show n % 6 % 2 = 1 by lia)]; simp
theorem half_go (n : Int) : AtGo (hAt n) := by
  unfold hAt
  split
  · trivial
  split
  · exact .inr ⟨_, by lia, rfl⟩
  · exact ⟨by lia, by lia⟩
theorem mem_r16 : ∀ d : Nat, d < 16 → (d : Int) ∈ r16 := by decide
theorem half_in (n : Int) {d : Nat} (hd : d < 16) : gok (geOf (hAt n)) (hx d) = decide ((d : Int) ∈ (half n).2) := by
  have hx1 : (((n / 6 % 16).toNat : Nat) : Int) = n / 6 % 16 := Int.toNat_of_nonneg (by lia)
  have hy1 : (((n / 96 % 16).toNat : Nat) : Int) = n / 96 % 16 := Int.toNat_of_nonneg (by lia)
  have hxl : (n / 6 % 16).toNat < 16 := by lia
  have hyl : (n / 96 % 16).toNat < 16 := by lia
  unfold half hAt
  by_cases h0 : n % 6 = 0
  · rw [if_pos h0, if_pos h0]; exact (decide_eq_true (mem_r16 d hd)).symm
  rw [if_neg h0, if_neg h0]
  by_cases h1 : n % 6 = 1
  · rw [if_pos h1, if_pos h1, ← hx1]
    show gok (lit1 _) _ = decide ((d : Int) ∈ [_])
    rw [gok_lit, Int.toNat_natCast]
    exact decide_eq_decide.mpr ⟨fun q => by rw [hx_inj hd hxl q]; exact .head _, fun q => by rw [Int.ofNat_inj.mp (List.mem_singleton.mp q)]⟩
  rw [if_neg h1, if_neg h1, ← hx1, ← hy1]
  rw [Int.toNat_natCast, Int.toNat_natCast]
  generalize (n / 6 % 16).toNat = x at hxl
  generalize (n / 96 % 16).toNat = y at hyl
  have ge : gok (geOf (.set (decide (n % 6 % 2 = 1)) (decide (n % 6 < 4)) x y)) (hx d) = ((if n % 6 < 4 then decide ((x : Int) ≤ (d : Int)) && decide ((d : Int) ≤ (y : Int)) else (d : Int) == (x : Int) || (d : Int) == (y : Int)) != decide (n % 6 % 2 = 1)) := by
    show gok (if decide (n % 6 < 4) = true ∧ hx y < hx x then (if decide (n % 6 % 2 = 1) = true then (true, []) else (false, [])) else (decide (n % 6 % 2 = 1), if decide (n % 6 < 4) = true then [([hx x], [hx y])] else [([hx x], [hx x]), ([hx y], [hx y])])) (hx d) = _
    have l1 := hx_le x hxl d hd
    have l2 := hx_le d hd y hyl
    have l3 := hx_le x hxl y hyl
    generalize decide (n % 6 % 2 = 1) = neg
    by_cases h4 : n % 6 < 4
    · rw [decide_eq_true h4, if_pos h4]
      by_cases hf : hx y < hx x
      · rw [if_pos ⟨rfl, hf⟩]
        have : (decide ((x : Int) ≤ (d : Int)) && decide ((d : Int) ≤ (y : Int))) = false := by
          rw [← Bool.decide_and]; exact decide_eq_false (by lia)
        rw [this]
        cases neg <;> rfl
      · rw [if_neg (fun q => hf q.2), if_pos rfl]
        show ((inP (hx d) ([hx x], [hx y]) || false) != neg) = _
        rw [Bool.or_false, inP_one, decide_eq_decide.mpr (l1.trans Int.ofNat_le.symm), decide_eq_decide.mpr (l2.trans Int.ofNat_le.symm)]
    · rw [decide_eq_false h4, if_neg h4, if_neg (fun q => nomatch q.1), if_neg (by decide)]
      show ((inP (hx d) ([hx x], [hx x]) || (inP (hx d) ([hx y], [hx y]) || false)) != neg) = _
      rw [Bool.or_false, inP_same, inP_same]
      have e : ∀ z, z < 16 → decide (hx d = hx z) = ((d : Int) == (z : Int)) := fun z hz => by
        rw [Bool.beq_eq_decide_eq]
        exact decide_eq_decide.mpr ⟨fun q => by rw [hx_inj hd hz q], fun q => by rw [Int.ofNat_inj.mp q]⟩
      rw [e x hxl, e y hyl]
  rw [ge]
  dsimp only
  generalize hp : (fun (v : Int) => if n % 6 < 4 then decide ((x : Int) ≤ v) && decide (v ≤ (y : Int)) else v == (x : Int) || v == (y : Int)) = p
  rw [show (if n % 6 < 4 then decide ((x : Int) ≤ (d : Int)) && decide ((d : Int) ≤ (y : Int)) else (d : Int) == (x : Int) || (d : Int) == (y : Int)) = p d by rw [← hp]]
  by_cases h2 : n % 6 % 2 = 0
  · rw [if_pos h2, decide_eq_false (show ¬ n % 6 % 2 = 1 by lia), Bool.bne_false]
    cases hpd : p d with
    | true => exact (decide_eq_true (List.mem_filter.mpr ⟨mem_r16 d hd, hpd⟩)).symm
    | false => exact (decide_eq_false fun q => by rw [(List.mem_filter.mp q).2] at hpd; cases hpd).symm
  · rw [if_neg h2, decide_eq_true (show n % 6 % 2 = 1 by lia), Bool.bne_true]
    cases hpd : p d with
    | true => exact (decide_eq_false fun q => by
        have := (List.mem_filter.mp q).2
        rw [decide_eq_true (List.mem_filter.mpr ⟨mem_r16 d hd, hpd⟩)] at this; cases this).symm
    | false =>
      have hn : ¬ (d : Int) ∈ r16.filter p := fun q => by rw [(List.mem_filter.mp q).2] at hpd; cases hpd
      have hm : (d : Int) ∈ r16.filter fun v => !decide (v ∈ r16.filter p) := List.mem_filter.mpr ⟨mem_r16 d hd, by show (!decide ((d : Int) ∈ r16.filter p)) = true; rw [decide_eq_false hn]; rfl⟩
      exact (decide_eq_true hm).symm
theorem plain_bare : ∀ o : Nat, o < 256 → o ≠ 10 → o ≠ 13 → ((o : Int) == 9 || ((decide (32 ≤ (o : Int)) && decide ((o : Int) ≤ 126)) && (o : Int) != 61)) = bare o := by decide +kernel
theorem fit_sg : ∀ c ∈ [103, 32, 46, 45, 95, 126, 9, 90], ∀ o : Nat, o < 256 → fit1 (false, [(c : Nat) / 16], [(c : Nat) % 16]) o = decide (o = c) := by decide +kernel
theorem sg_facts : ∀ c ∈ [103, 32, 46, 45, 95, 126, 9, 90], enc1 c = [c] ∧ c ≠ 61 ∧ ∀ d, d < 16 → hx d ≠ c := by decide
theorem good_sg {c : Nat} (h : c ∈ [103, 32, 46, 45, 95, 126, 9, 90]) : Good ([lit1 c], (false, [(c : Int) / 16], [(c : Int) % 16])) := by
  obtain ⟨h1, h2, h3⟩ := sg_facts c h
  have hal : ∀ (G : List Ge) (d : Nat) (R : List Nat), al gok ([lit1 c] ++ G) (d :: R) = (decide (d = c) && al gok G R) := fun G d R => by
    show (gok (lit1 c) d && al gok G R) = _
    rw [gok_lit]
  refine ⟨by simp, fun o ho hf => ?_, fun o ho hf G R => ?_, fun d hd G R => by rw [hal, decide_eq_false (h3 d hd)]; rfl⟩
  · rw [fit_sg c h o ho.1] at hf
    have := of_decide_eq_true hf
    subst this
    exact ⟨by rw [h1]; rfl, fun G R => by rw [h1]; show al gok ([lit1 o] ++ G) (o :: R) = _; rw [hal, decide_eq_true rfl]; rfl⟩
  · rw [fit_sg c h o ho.1] at hf
    have hoc := of_decide_eq_false hf
    unfold enc1 hexq
    split
    · show al gok ([lit1 c] ++ G) (o :: R) = false
      rw [hal, decide_eq_false hoc]; rfl
    · show al gok ([lit1 c] ++ G) (61 :: _) = false
      rw [hal, decide_eq_false (Ne.symm h2)]; rfl
theorem hx61 : ∀ d, d < 16 → hx d ≠ 61 := by decide
set_option tactic.hygienic true in
theorem good_esc {a b : At} {i j : List Int} (ha : ∀ d, d < 16 → gok (geOf a) (hx d) = decide ((d : Int) ∈ i)) (hb : ∀ d, d < 16 → gok (geOf b) (hx d) = decide ((d : Int) ∈ j)) : Good ([lit1 61, geOf a, geOf b], (true, i, j)) := by
  have hfit : ∀ o : Nat, Oct o → fit1 (true, i, j) (o : Int) = (!bare o && (decide (((o / 16 : Nat) : Int) ∈ i) && decide (((o % 16 : Nat) : Int) ∈ j))) := fun o ho => by
    unfold fit1
    dsimp only
    rw [plain_bare o ho.1 ho.2.1 ho.2.2, show (o : Int) / 16 = ((o / 16 : Nat) : Int) from rfl, show (o : Int) % 16 = ((o % 16 : Nat) : Int) from rfl]
    cases bare o <;> simp
  have hal : ∀ (G : List Ge) (d : Nat) (R : List Nat), al gok ([lit1 61, geOf a, geOf b] ++ G) (d :: R) = (decide (d = 61) && al gok ([geOf a, geOf b] ++ G) R) := fun G d R => by
    show (gok (lit1 61) d && _) = _
    rw [gok_lit]; rfl
  have hen : ∀ o, Oct o → ∀ (G : List Ge) (R : List Nat), al gok ([lit1 61, geOf a, geOf b] ++ G) (enc1 o ++ R) = (fit1 (true, i, j) (o : Int) && al gok G R) := fun o ho G R => by
    rw [hfit o ho]
    unfold enc1 hexq
    split
    · rename_i hbr
      show al gok ([lit1 61, geOf a, geOf b] ++ G) (o :: R) = _
      rw [hal, hbr, decide_eq_false (fun e => by rw [e] at hbr; revert hbr; decide)]; rfl
    · rename_i hbr
      show al gok ([lit1 61, geOf a, geOf b] ++ G) (61 :: hx (o / 16) :: hx (o % 16) :: R) = _
      rw [hal, Bool.eq_false_iff.mpr hbr]
      show (true && (gok (geOf a) (hx (o / 16)) && (gok (geOf b) (hx (o % 16)) && al gok G R))) = _
      have h1 := ho.1
      rw [ha (o / 16) (by lia), hb (o % 16) (by lia), Bool.and_assoc]; simp [Bool.and_assoc]
  refine ⟨by simp, fun o ho hf => ⟨?_, fun G R => by rw [hen o ho, hf]; rfl⟩, fun o ho hf G R => by rw [hen o ho, hf]; rfl, fun d hd G R => by rw [hal, decide_eq_false (hx61 d hd)]; rfl⟩
  rw [hfit o ho] at hf
  unfold enc1
  split
  · rename_i hb; rw [hb] at hf; cases hf
  · rfl
end
section
noncomputable abbrev Ai := List At × It
noncomputable abbrev toIm (q : Ai) : Im := (q.1.map geOf, q.2)
structure AiOK (q : Ai) : Prop where
  ne : q.1 ≠ []
  len : q.1.length ≤ 3
  go : ∀ a ∈ q.1, AtGo a
  good : Good (toIm q)
noncomputable abbrev ats (r : List Ai) : List At := r.flatMap Prod.fst
noncomputable abbrev tx (r : List Ai) : List (Option (List Nat)) := (ats r).map atP
noncomputable def Rq : List (List Ai) → List (Option (List Nat))
  | [] => []
  | i0 :: mid => tx i0 ++ none :: (mid.filter fun r => !r.isEmpty).flatMap fun r => tx r ++ [none]
theorem pstep_items : ∀ (l : List At) (R : List (Option (List Nat))), (∀ a ∈ l, AtGo a) → l.foldl pstep R = R ++ l.map atP
  | [], R, _ => (List.append_nil R).symm
  | a :: l, R, h => by
    rw [List.foldl_cons, pstep_items l _ fun x hx => h x (.tail _ hx)]
    unfold pstep
    rw [(h a (.head _)).ok.2, List.map_cons, (h a (.head _)).ok.2, List.append_assoc]; rfl
theorem Rq_last (i0 : List Ai) (mid : List (List Ai)) : (Rq (i0 :: mid)).getLast? = some none := by
  show (tx i0 ++ none :: (mid.filter fun (r : List Ai) => !r.isEmpty).flatMap fun (r : List Ai) => tx r ++ [none]).getLast? = _
  rcases List.eq_nil_or_concat (mid.filter fun r => !r.isEmpty) with e | ⟨l, r, e⟩
  · rw [e]; simp
  · rw [e, List.concat_eq_append, List.flatMap_append]
    generalize (l.flatMap fun (r : List Ai) => tx r ++ [none]) = L
    have : tx i0 ++ none :: (L ++ [r].flatMap fun (r : List Ai) => tx r ++ [none]) = (tx i0 ++ none :: (L ++ tx r)) ++ [none] := by
      show tx i0 ++ none :: (L ++ ((tx r ++ [none]) ++ [])) = _
      generalize tx r = t
      generalize tx i0 = t0
      simp
    rw [this, List.getLast?_concat]
theorem Rq_snoc (i0 : List Ai) (mid : List (List Ai)) (last : List Ai) : Rq (i0 :: mid ++ [last]) = if last = [] then Rq (i0 :: mid) else Rq (i0 :: mid) ++ tx last ++ [none] := by
  show tx i0 ++ none :: ((mid ++ [last]).filter fun r => !r.isEmpty).flatMap (fun r => tx r ++ [none]) = _
  rw [List.filter_append, List.flatMap_append]
  cases last with
  | nil => rw [if_pos rfl]; unfold Rq; simp
  | cons q r => rw [if_neg (by simp)]; unfold Rq; simp
theorem tx_last {last : List Ai} (h : ∀ q ∈ last, AiOK q) (hne : last ≠ []) (R : List (Option (List Nat))) : (R ++ tx last).getLast? ≠ some none := by
  obtain ⟨l, q, rfl⟩ : ∃ l q, last = l ++ [q] := ⟨last.dropLast, last.getLast hne, (List.dropLast_concat_getLast hne).symm⟩
  have hq := h q (by simp)
  obtain ⟨u, a, hu⟩ : ∃ u a, q.1 = u ++ [a] := ⟨q.1.dropLast, q.1.getLast hq.ne, (List.dropLast_concat_getLast hq.ne).symm⟩
  have ha := (hq.go a (by rw [hu]; simp)).ok.2
  have e : tx (l ++ [q]) = (tx l ++ u.map atP) ++ [atP a] := by
    show (List.flatMap Prod.fst (l ++ [q])).map atP = _
    rw [List.flatMap_append, List.map_append, show [q].flatMap Prod.fst = q.1 ++ [] from rfl, List.append_nil, hu, List.map_append, List.append_assoc]; rfl
  rw [e, ← List.append_assoc, List.getLast?_concat, ha]
  exact fun q => by cases q
theorem star_one {init : List (List Ai)} {last : List Ai} (h : ∀ q ∈ last, AiOK q) : pstep (Rq init ++ tx last) .star = Rq (init ++ [last]) ++ tx [] := by
  show (if (Rq init ++ tx last).getLast? = some none then Rq init ++ tx last else Rq init ++ tx last ++ [none]) = _
  by_cases hl : last = []
  · subst hl
    cases init with
    | nil => rfl
    | cons i0 mid => rw [if_pos (by rw [show tx [] = [] from rfl, List.append_nil]; exact Rq_last i0 mid), Rq_snoc, if_pos rfl]
  · rw [if_neg (tx_last h hl _)]
    cases init with
    | nil => show ([] ++ tx last) ++ [none] = (tx last ++ none :: []) ++ []; simp
    | cons i0 mid => rw [Rq_snoc, if_neg hl]; exact (List.append_nil _).symm
theorem star_two (init : List (List Ai)) (last : List Ai) : pstep (Rq (init ++ [last]) ++ tx []) .star = Rq (init ++ [last]) ++ tx [] := by
  show (if (Rq (init ++ [last]) ++ tx []).getLast? = some none then _ else _) = _
  rw [if_pos]
  rw [show tx [] = [] from rfl, List.append_nil]
  cases init with
  | nil => exact Rq_last _ _
  | cons i0 mid => exact Rq_last i0 (mid ++ [last])
noncomputable def OctI (o : Int) : Prop := 0 ≤ o ∧ Oct o.toNat
set_option tactic.hygienic true in
theorem fixo_ok {o : Int} (h : 0 ≤ o ∧ o < 256) : OctI (fixo o) := by
  unfold fixo OctI Oct
  split
  · rename_i q
    rcases List.mem_cons.mp q with rfl | q
    · decide
    · rw [List.mem_singleton.mp q]; decide
  · rename_i q
    have h1 : o ≠ 10 := fun e => q (e ▸ .head _)
    have h2 : o ≠ 13 := fun e => q (e ▸ .tail _ (.head _))
    lia
theorem sgn_ok {i : Int} (h : 0 ≤ i ∧ i < 8) : (sgn i).toNat ∈ [103, 32, 46, 45, 95, 126, 9, 90] ∧ sgn i = ((sgn i).toNat : Int) ∧ OctI (sgn i) := by
  have key : ∀ k : Fin 8, (sgn (k.val : Int)).toNat ∈ [103, 32, 46, 45, 95, 126, 9, 90] ∧ sgn (k.val : Int) = ((sgn (k.val : Int)).toNat : Int) ∧ 0 ≤ sgn (k.val : Int) ∧ ((sgn (k.val : Int)).toNat < 256 ∧ (sgn (k.val : Int)).toNat ≠ 10 ∧ (sgn (k.val : Int)).toNat ≠ 13) := by decide
  have := key ⟨i.toNat, by lia⟩
  rw [show (((⟨i.toNat, by lia⟩ : Fin 8).val : Nat) : Int) = i from Int.toNat_of_nonneg h.1] at this
  exact this
noncomputable def octA (x : Int) : Int := if x % 8 = 2 then sgn (x / 8 % 8) else if x % 8 = 3 then fixo (x / 32 % 256) else
  fixo (if (half (x / 8 * 37 % 1536)).2 ≠ [] ∧ (half ((x / 12288 + x * 53) % 1536)).2 ≠ [] then 16 * pick (half (x / 8 * 37 % 1536)).2 (x / 9) + pick (half ((x / 12288 + x * 53) % 1536)).2 (x / 11) else fixo (x / 32 % 256))
noncomputable def itA (x : Int) : Ai := if x % 8 = 2 then ([.lit (sgn (x / 8 % 8)).toNat], (false, [sgn (x / 8 % 8) / 16], [sgn (x / 8 % 8) % 16]))
  else if x % 8 = 3 then ([.lit 61, .lit (hx ((fixo (x / 32 % 256)).toNat / 16)), .lit (hx ((fixo (x / 32 % 256)).toNat % 16))], (true, [fixo (x / 32 % 256) / 16], [fixo (x / 32 % 256) % 16]))
  else ([.lit 61, hAt (x / 8 * 37 % 1536), hAt ((x / 12288 + x * 53) % 1536)], (true, (half (x / 8 * 37 % 1536)).2, (half ((x / 12288 + x * 53) % 1536)).2))
theorem pick_mem {l : List Int} (n : Int) (h : l ≠ []) : pick l n ∈ l := by
  have hl : (0 : Int) < l.length := by have := List.length_pos_iff.mpr h; lia
  have h1 := Int.emod_nonneg n (show (l.length : Int) ≠ 0 by lia)
  have h2 := Int.emod_lt_of_pos n hl
  unfold pick
  rw [List.getD_eq_getElem?_getD, List.getElem?_eq_getElem (by lia)]
  exact List.getElem_mem _
set_option tactic.hygienic true in
theorem octA_ok (x : Int) : OctI (octA x) := by
  unfold octA
  split
  · exact (sgn_ok ⟨by lia, by lia⟩).2.2
  split
  · exact fixo_ok ⟨by lia, by lia⟩
  · refine fixo_ok ?_
    split
    · rename_i q
      have h1 := half_mem _ _ (pick_mem (x / 9) q.1)
      have h2 := half_mem _ _ (pick_mem (x / 11) q.2)
      lia
    · obtain ⟨a, b, _⟩ := fixo_ok (o := x / 32 % 256) ⟨by lia, by lia⟩
      lia
theorem itA_ok {x : Int} (h : 2 ≤ x % 8) : AiOK (itA x) := by
  have g61 : AtGo (.lit 61) := .inl (by decide)
  unfold itA
  split
  · obtain ⟨a, b, c⟩ := sgn_ok (i := x / 8 % 8) ⟨by lia, by lia⟩
    refine ⟨by simp, by simp, fun q hq => ?_, ?_⟩
    · rw [List.mem_singleton.mp hq]
      exact .inl (List.mem_append_left [61] a)
    · have := good_sg a
      rw [← b] at this
      exact this
  split
  · obtain ⟨a, b⟩ := fixo_ok (o := x / 32 % 256) ⟨by lia, by lia⟩
    have hb := b.1
    have hone : ∀ v : Nat, v < 16 → ∀ d, d < 16 → gok (geOf (.lit (hx v))) (hx d) = decide ((d : Int) ∈ [(v : Int)]) := fun v hv d hd => by
      show gok (lit1 (hx v)) (hx d) = _
      rw [gok_lit]
      exact decide_eq_decide.mpr ⟨fun q => by rw [hx_inj hd hv q]; exact .head _, fun q => by rw [Int.ofNat_inj.mp (List.mem_singleton.mp q)]⟩
    refine ⟨by simp, by simp, fun q hq => ?_, ?_⟩
    · simp only [List.mem_cons, List.not_mem_nil, or_false] at hq
      rcases hq with rfl | rfl | rfl
      · exact g61
      · exact .inr ⟨_, by lia, rfl⟩
      · exact .inr ⟨_, by lia, rfl⟩
    · have := good_esc (hone ((fixo (x / 32 % 256)).toNat / 16) (by lia)) (hone ((fixo (x / 32 % 256)).toNat % 16) (by lia))
      rw [show (((fixo (x / 32 % 256)).toNat / 16 : Nat) : Int) = fixo (x / 32 % 256) / 16 by lia, show (((fixo (x / 32 % 256)).toNat % 16 : Nat) : Int) = fixo (x / 32 % 256) % 16 by lia] at this
      exact this
  · refine ⟨by simp, by simp, fun q hq => ?_, good_esc (fun d hd => half_in _ hd) (fun d hd => half_in _ hd)⟩
    simp only [List.mem_cons, List.not_mem_nil, or_false] at hq
    rcases hq with rfl | rfl | rfl
    · exact g61
    · exact half_go _
    · exact half_go _
theorem bstep_item {x : Int} (h : 2 ≤ x % 8) (b : BS) : bstep b x = ⟨b.pat ++ (itA x).1.flatMap atT, b.init, b.last ++ [(itA x).2], b.row ++ [octA x]⟩ := by
  unfold bstep itA octA
  rw [if_neg (by lia)]
  split
  · rfl
  split
  · rfl
  · rw [half_at, half_at]; simp [atT]
theorem bstep_star {x : Int} (h : 0 ≤ x) (h2 : x % 8 < 2) (b : BS) : ∃ k row, (k = 1 ∨ k = 2) ∧ bstep b x = ⟨b.pat ++ (List.replicate k At.star).flatMap atT, b.init ++ [b.last], [], b.row ++ row⟩ ∧ row.length ≤ 3 ∧ ∀ o ∈ row, OctI o := by
  unfold bstep
  rw [if_pos h2]
  refine ⟨(1 + x % 8).toNat, slc [fixo (x / 32 % 256), 61, 32] none (some (x / 8 % 4)), by lia, ?_, ?_, ?_⟩
  · congr 2
    generalize (1 + x % 8).toNat = n
    induction n with
    | zero => rfl
    | succ n ih => rw [List.replicate_succ, List.replicate_succ, List.flatMap_cons, ← ih]; rfl
  · unfold slc; simp [List.length_take, List.length_drop]; lia
  · intro o ho
    have : o ∈ [fixo (x / 32 % 256), 61, 32] := by
      unfold slc at ho
      exact List.mem_of_mem_drop (List.mem_of_mem_take ho)
    simp only [List.mem_cons, List.not_mem_nil, or_false] at this
    rcases this with rfl | rfl | rfl
    · exact fixo_ok ⟨by lia, by lia⟩
    · exact ⟨by decide, by decide, by decide, by decide⟩
    · exact ⟨by decide, by decide, by decide, by decide⟩
structure Wn (b : BS) (at_ : List At) (init : List (List Ai)) (last : List Ai) (m : Nat) : Prop where
  pat : b.pat = at_.flatMap atT
  ini : b.init = init.map (·.map Prod.snd)
  las : b.last = last.map Prod.snd
  ok : (∀ r ∈ init, ∀ q ∈ r, AiOK q) ∧ ∀ q ∈ last, AiOK q
  aok : ∀ x ∈ at_, AtOK x
  al : at_.length ≤ 3 * m
  rp : at_.foldl pstep [] = Rq init ++ tx last
  il : init.length ≤ m ∧ (∀ r ∈ init, r.length ≤ m) ∧ last.length ≤ m
  row : (∀ o ∈ b.row, OctI o) ∧ b.row.length ≤ 3 * m
theorem Wn.step {b : BS} {at_ : List At} {init : List (List Ai)} {last : List Ai} {m : Nat} (h : Wn b at_ init last m) {x : Int} (hx : 0 ≤ x) : ∃ at' init' last', Wn (bstep b x) at' init' last' (m + 1) := by
  by_cases h2 : x % 8 < 2
  · obtain ⟨k, row, hk, e, hr, ho⟩ := bstep_star hx h2 b
    rw [e]
    refine ⟨at_ ++ List.replicate k At.star, init ++ [last], [], ?_⟩
    refine ⟨by rw [h.pat, List.flatMap_append], by rw [h.ini, h.las]; simp, rfl, ⟨fun r hr => ?_, nofun⟩, fun y hy => ?_, ?_, ?_, ⟨?_, fun r hr => ?_, Nat.zero_le _⟩, fun o hy => ?_, ?_⟩
    · rcases List.mem_append.mp hr with hr | hr
      · exact h.ok.1 r hr
      · rw [List.mem_singleton.mp hr]; exact h.ok.2
    · rcases List.mem_append.mp hy with hy | hy
      · exact h.aok y hy
      · rw [(List.mem_replicate.mp hy).2]; trivial
    · have := h.al
      rw [List.length_append, List.length_replicate]; lia
    · rw [List.foldl_append, h.rp]
      rcases hk with rfl | rfl
      · exact star_one h.ok.2
      · show pstep (pstep (Rq init ++ tx last) .star) .star = _
        rw [star_one h.ok.2, star_two]
    · have := h.il.1
      rw [List.length_append]; simp only [List.length_cons, List.length_nil]; lia
    · rcases List.mem_append.mp hr with hr | hr
      · exact Nat.le_succ_of_le (h.il.2.1 r hr)
      · rw [List.mem_singleton.mp hr]; exact Nat.le_succ_of_le h.il.2.2
    · rcases List.mem_append.mp hy with hy | hy
      · exact h.row.1 o hy
      · exact ho o hy
    · have := h.row.2
      show (b.row ++ row).length ≤ _
      rw [List.length_append]; lia
  · have h3 : 2 ≤ x % 8 := by lia
    have hi := itA_ok h3
    rw [bstep_item h3]
    refine ⟨at_ ++ (itA x).1, init, last ++ [itA x], ?_⟩
    refine ⟨by rw [h.pat, List.flatMap_append], h.ini, by rw [h.las]; simp, ⟨h.ok.1, fun q hq => ?_⟩, fun y hy => ?_, ?_, ?_, ⟨Nat.le_succ_of_le h.il.1, fun r hr => Nat.le_succ_of_le (h.il.2.1 r hr), ?_⟩, fun o hy => ?_, ?_⟩
    · rcases List.mem_append.mp hq with hq | hq
      · exact h.ok.2 q hq
      · rw [List.mem_singleton.mp hq]; exact hi
    · rcases List.mem_append.mp hy with hy | hy
      · exact h.aok y hy
      · exact (hi.go y hy).ok.1
    · have := h.al
      have := hi.len
      rw [List.length_append]; lia
    · rw [List.foldl_append, h.rp, pstep_items _ _ hi.go, List.append_assoc]
      show _ = _ ++ (List.flatMap Prod.fst (last ++ [itA x])).map atP
      rw [List.flatMap_append, List.map_append]; simp
    · have := h.il.2.2
      rw [List.length_append]; simp only [List.length_cons, List.length_nil]; lia
    · rcases List.mem_append.mp hy with hy | hy
      · exact h.row.1 o hy
      · rw [List.mem_singleton.mp hy]; exact octA_ok x
    · have := h.row.2
      show (b.row ++ [octA x]).length ≤ _
      rw [List.length_append]; simp only [List.length_cons, List.length_nil]; lia
theorem Wn.fold : ∀ (l : List Int) {b : BS} {at_ : List At} {init : List (List Ai)} {last : List Ai} {m : Nat}, Wn b at_ init last m → (∀ x ∈ l, 0 ≤ x) → ∃ at' init' last', Wn (l.foldl bstep b) at' init' last' (m + l.length)
  | [], _, at_, init, last, _, h, _ => ⟨at_, init, last, h⟩
  | x :: l, b, _, _, _, m, h, hp => by
    obtain ⟨a, i, s, h'⟩ := h.step (hp x (.head _))
    obtain ⟨a', i', s', h''⟩ := Wn.fold l h' fun y hy => hp y (.tail _ hy)
    exact ⟨a', i', s', by rw [List.length_cons, Nat.add_comm l.length, ← Nat.add_assoc]; exact h''⟩
end
section
noncomputable abbrev txN (r : List Ai) : List (List Nat) := (ats r).map atx
theorem tx_some {r : List Ai} (h : ∀ q ∈ r, AiOK q) : tx r = (txN r).map some := by
  rw [List.map_map]
  exact List.map_congr_left fun a ha => by
    obtain ⟨q, hq, ha⟩ := List.mem_flatMap.mp ha
    exact ((h q hq).go a ha).ok.2
theorem shift {α : Type} (f : α → List (Option (List Nat))) (z : α) : ∀ l : List α, none :: (l.flatMap (fun r => f r ++ [none]) ++ f z) = (l ++ [z]).flatMap fun r => none :: f r
  | [] => by simp
  | a :: l => by
    have := shift f z l
    rw [List.cons_append, List.flatMap_cons, List.flatMap_cons, ← this]; simp
noncomputable def Lr (init : List (List Ai)) (last : List Ai) : List Ai × List (List Ai) := match init with
  | [] => (last, [])
  | i0 :: mid => (i0, (mid.filter fun r => !r.isEmpty) ++ [last])
theorem Lr_parts {init : List (List Ai)} {last : List Ai} (h : (∀ r ∈ init, ∀ q ∈ r, AiOK q) ∧ ∀ q ∈ last, AiOK q) : Rq init ++ tx last = parts (txN (Lr init last).1) ((Lr init last).2.map txN) := by
  cases init with
  | nil => show [] ++ tx last = (txN last).map some ++ []; rw [tx_some h.2, List.append_nil]; rfl
  | cons i0 mid =>
    show (tx i0 ++ none :: (mid.filter fun r => !r.isEmpty).flatMap fun r => tx r ++ [none]) ++ tx last = (txN i0).map some ++ (((mid.filter fun r => !r.isEmpty) ++ [last]).map txN).flatMap fun r => none :: r.map some
    rw [tx_some (h.1 i0 (.head _)), List.append_assoc, List.cons_append, shift, List.flatMap_map]
    refine congrArg _ ?_
    rw [List.flatMap_def, List.flatMap_def]
    refine congrArg _ (List.map_congr_left fun r hr => ?_)
    rcases List.mem_append.mp hr with hr | hr
    · rw [tx_some (h.1 r (.tail _ (List.mem_filter.mp hr).1))]
    · rw [List.mem_singleton.mp hr, tx_some h.2]
theorem Lr_mem {init : List (List Ai)} {last : List Ai} {P : List Ai → Prop} (h : (∀ r ∈ init, P r) ∧ P last) : ∀ r ∈ (Lr init last).1 :: (Lr init last).2, P r := by
  intro r hr
  cases init with
  | nil => rw [List.mem_singleton.mp hr]; exact h.2
  | cons i0 mid =>
    rcases List.mem_cons.mp hr with rfl | hr
    · exact h.1 _ (.head _)
    · rcases List.mem_append.mp hr with hr | hr
      · exact h.1 r (.tail _ (List.mem_filter.mp hr).1)
      · rw [List.mem_singleton.mp hr]; exact h.2
theorem Lr_ne {init : List (List Ai)} {last : List Ai} (h : last ≠ []) : ∀ r ∈ (Lr init last).2, r ≠ [] := by
  intro r hr
  cases init with
  | nil => cases hr
  | cons i0 mid =>
    rcases List.mem_append.mp hr with hr | hr
    · have := (List.mem_filter.mp hr).2
      intro e; rw [e] at this; cases this
    · rw [List.mem_singleton.mp hr]; exact h
theorem Lr_runs (init : List (List Ai)) (last : List Ai) (d : Ai) (hd : d.2 = (false, [2], [14])) : runsOf (init.map (·.map Prod.snd)) (last.map Prod.snd) = (((Lr init (last ++ [d])).1 :: (Lr init (last ++ [d])).2).map (·.map toIm)).map itOf := by
  have e : ∀ r : List Ai, itOf (r.map toIm) = r.map Prod.snd := fun r => by rw [itOf, List.map_map]; rfl
  have e2 : last.map Prod.snd ++ [(false, [2], [14])] = itOf ((last ++ [d]).map toIm) := by rw [e, List.map_append, ← hd]; rfl
  rw [List.map_map, show (itOf ∘ fun (r : List Ai) => r.map toIm) = fun (r : List Ai) => r.map Prod.snd from funext e]
  rw [e] at e2
  cases init with
  | nil => show [last.map Prod.snd ++ [(false, [2], [14])]] = [(last ++ [d]).map Prod.snd]; rw [e2]
  | cons i0 mid =>
    show [i0.map Prod.snd] ++ (mid.map (·.map Prod.snd)).filter (fun r => !r.isEmpty) ++ [last.map Prod.snd ++ [(false, [2], [14])]] = (i0 :: ((mid.filter fun r => !r.isEmpty) ++ [last ++ [d]])).map fun r => r.map Prod.snd
    rw [e2, List.filter_map, List.map_cons, List.map_append]
    have : ((fun (r : List It) => !r.isEmpty) ∘ fun (r : List Ai) => r.map Prod.snd) = fun (r : List Ai) => !r.isEmpty := by funext r; simp
    rw [this]; simp
theorem atx_len {x : At} (h : AtGo x) : (atx x).length ≤ 6 := by
  cases x with
  | star => exact h.elim
  | any => decide
  | lit c => show (esc c).length ≤ 6; unfold esc; split <;> simp
  | set neg dash i j =>
    show (if dash = true ∧ hx j < hx i then (if neg then [46] else [40, 63, 33, 41]) else [91] ++ ((if neg then [94] else []) ++ [hx i] ++ (if dash then [45] else []) ++ [hx j]) ++ [93]).length ≤ 6
    split
    · split <;> simp
    · cases neg <;> cases dash <;> simp
theorem flat_len {r : List Ai} (h : ∀ q ∈ r, AiOK q) : (txN r).flatten.length ≤ 6 * (txN r).length := by
  have : ∀ l : List At, (∀ a ∈ l, AtGo a) → (l.map atx).flatten.length ≤ 6 * (l.map atx).length := fun l => by
    induction l with
    | nil => simp
    | cons a l ih =>
      intro hl
      have h1 := atx_len (hl a (.head _))
      have h2 := ih fun x hx => hl x (.tail _ hx)
      rw [List.map_cons, List.flatten_cons, List.length_append, List.length_cons]; lia
  exact this _ fun a ha => by
    obtain ⟨q, hq, ha⟩ := List.mem_flatMap.mp ha
    exact (h q hq).go a ha
theorem plain (script : List Int) : Pl script := by
  have hnn : ∀ x ∈ nums script, 0 ≤ x := fun x hx => by
    have : ∀ x ∈ (slc script none (some 5)).map (· % 100000000), 0 ≤ x := fun x hx => by
      obtain ⟨y, _, rfl⟩ := List.mem_map.mp hx
      exact Int.emod_nonneg _ (by decide)
    unfold nums at hx
    split at hx
    · rcases List.mem_append.mp hx with hx | hx
      · exact this x hx
      · simp only [List.mem_cons, List.not_mem_nil, or_false] at hx; lia
    · exact this x hx
  have hnl := nums_len script
  obtain ⟨at_, init, last, W⟩ := Wn.fold (nums script) (b := bs0) (at_ := []) (init := []) (last := []) (m := 0) ⟨rfl, rfl, rfl, ⟨nofun, nofun⟩, nofun, Nat.le_refl _, rfl, ⟨Nat.le_refl _, nofun, Nat.le_refl _⟩, nofun, Nat.le_refl _⟩ hnn
  change Wn (bfold (nums script)) _ _ _ _ at W
  rw [Nat.zero_add] at W
  generalize (nums script).length = m at hnl W
  have pl : ∀ x : At, (pstep [] x).length ≤ 1 := fun x => by unfold pstep; split <;> simp
  have fl : ∀ (l : List At) (R : List (Option (List Nat))), (l.foldl pstep R).length ≤ R.length + l.length := fun l => by
    induction l with
    | nil => exact fun R => Nat.le_refl _
    | cons a l ih =>
      intro R
      have h1 := ih (pstep R a)
      have h2 : (pstep R a).length ≤ R.length + 1 := by
        unfold pstep
        split
        · split <;> simp
        · simp
      rw [List.foldl_cons, List.length_cons]; lia
  obtain ⟨d, hdd⟩ : ∃ d : Ai, d = ([.lit 46], (false, [2], [14])) := ⟨_, rfl⟩
  have g46 : AtGo (.lit 46) := .inl (by decide)
  have hd : AiOK d := by
    rw [hdd]
    exact ⟨by simp, by simp, fun a ha => by rw [List.mem_singleton.mp ha]; exact g46, good_sg (c := 46) (by decide)⟩
  have hok : (∀ r ∈ init, ∀ q ∈ r, AiOK q) ∧ ∀ q ∈ last ++ [d], AiOK q := ⟨W.ok.1, fun q hq => by
    rcases List.mem_append.mp hq with hq | hq
    · exact W.ok.2 q hq
    · rw [List.mem_singleton.mp hq]; exact hd⟩
  have hsz : (∀ r ∈ init, r.length ≤ 9) ∧ (last ++ [d]).length ≤ 9 := ⟨fun r hr => Nat.le_trans (W.il.2.1 r hr) (by lia), by have := W.il.2.2; rw [List.length_append]; simp only [List.length_cons, List.length_nil]; lia⟩
  have hfold : (at_ ++ [At.lit 46]).foldl pstep [] = Rq init ++ tx (last ++ [d]) := by
    rw [List.foldl_append, W.rp, pstep_items [.lit 46] _ (fun a ha => by rw [List.mem_singleton.mp ha]; exact g46), List.append_assoc]
    show _ = _ ++ ((last ++ [d]).flatMap Prod.fst).map atP
    rw [List.flatMap_append, List.map_append, hdd]; rfl
  have hpar := hfold.trans (Lr_parts hok)
  have hpl : (parts (txN (Lr init (last ++ [d])).1) ((Lr init (last ++ [d])).2.map txN)).length ≤ 40 := by
    rw [← hpar]
    refine Nat.le_trans (fl _ _) ?_
    have := W.al
    rw [List.length_append]; simp only [List.length_cons, List.length_nil]; lia
  have hruns := Lr_runs init last d (by rw [hdd])
  have hmem := Lr_mem (P := fun r => (∀ q ∈ r, AiOK q) ∧ r.length ≤ 9) ⟨fun r hr => ⟨hok.1 r hr, hsz.1 r hr⟩, hok.2, hsz.2⟩
  have hne := Lr_ne (init := init) (last := last ++ [d]) (by simp)
  have hshape : (∃ r, (Lr init (last ++ [d])).1 :: (Lr init (last ++ [d])).2 = [r]) ∨ ∃ r0 mid rl, (Lr init (last ++ [d])).1 :: (Lr init (last ++ [d])).2 = r0 :: (mid ++ [rl]) ∧ mid.length ≤ 1000 := by
    cases init with
    | nil => exact .inl ⟨_, rfl⟩
    | cons i0 mid =>
      refine .inr ⟨i0, mid.filter fun r => !r.isEmpty, last ++ [d], rfl, ?_⟩
      have h1 := W.il.1
      have h2 := List.length_filter_le (fun r : List Ai => !r.isEmpty) mid
      rw [List.length_cons] at h1; lia
  rw [← W.ini, ← W.las] at hruns
  generalize Lr init (last ++ [d]) = L at hpar hpl hruns hmem hne hshape
  obtain ⟨L1, L2⟩ := L
  dsimp only at hpar hpl hruns hmem hne hshape
  have hfl : (txN L1).flatten.length + (L2.map txN |>.map fun r => r.flatten.length + 7).sum ≤ 7 * (parts (txN L1) (L2.map txN)).length := by
    have h1 := flat_len (hmem L1 (.head _)).1
    have : ∀ l : List (List Ai), (∀ r ∈ l, ∀ q ∈ r, AiOK q) → ((l.map txN).map fun r => r.flatten.length + 7).sum ≤ 7 * ((l.map txN).flatMap fun r => none :: r.map some).length := fun l => by
      induction l with
      | nil => simp
      | cons r l ih =>
        intro h
        have h1 := flat_len (h r (.head _))
        have h2 := ih fun x hx => h x (.tail _ hx)
        rw [List.map_cons, List.map_cons, List.sum_cons, List.flatMap_cons, List.length_append, List.length_cons, List.length_map]; lia
    have h2 := this L2 fun r hr => (hmem r (.tail _ hr)).1
    unfold parts
    rw [List.length_append, List.length_map]; lia
  have tg1 : ∀ r : List Ai, ((ats r).map fun a => (atx a, geOf a)).map Prod.fst = txN r := fun r => List.map_map
  have tg2 : ∀ r : List Ai, ((ats r).map fun a => (atx a, geOf a)).map Prod.snd = gsOf (r.map toIm) := fun r => by
    rw [List.map_map, gsOf, List.flatMap_map, ats, List.map_flatMap]; rfl
  have hgo : ∀ r ∈ L1 :: L2, ∀ a ∈ ats r, AtGo a := fun r hr a ha => by
    obtain ⟨q, hq, ha⟩ := List.mem_flatMap.mp ha
    exact ((hmem r hr).1 q hq).go a ha
  have hrd : ∀ r ∈ L1 :: L2, Rds ((ats r).map fun a => (atx a, geOf a)) := fun r hr x hx => by
    obtain ⟨a, ha, rfl⟩ := List.mem_map.mp hx
    exact rd_at (hgo r hr a ha)
  have hread := read_back (r0 := (ats L1).map fun a => (atx a, geOf a)) (rs := L2.map fun r => (ats r).map fun a => (atx a, geOf a)) (hrd L1 (.head _)) (fun r hr => by obtain ⟨y, hy, rfl⟩ := List.mem_map.mp hr; exact hrd y (.tail _ hy)) rfl
  rw [tg1, List.map_map, show ((fun (r : Tg) => r.map Prod.fst) ∘ fun (r : List Ai) => (ats r).map fun a => (atx a, geOf a)) = txN from funext tg1, List.map_cons, tg2, List.map_map,
    show ((fun (r : Tg) => r.map Prod.snd) ∘ fun (r : List Ai) => (ats r).map fun a => (atx a, geOf a)) = fun (r : List Ai) => gsOf (r.map toIm) from funext tg2] at hread
  have hge : ∀ a, AtGo a → (geOf a).2.length ≤ 100000 := fun a ha => by
    cases a with
    | star => exact ha.elim
    | any => exact Nat.zero_le _
    | lit c => exact Nat.le_of_ble_eq_true rfl
    | set neg dash i j =>
      show (if dash = true ∧ hx j < hx i then (if neg then (true, []) else (false, [])) else (neg, if dash then [([hx i], [hx j])] else [([hx i], [hx i]), ([hx j], [hx j])]) : Ge).2.length ≤ _
      split
      · split <;> simp
      · cases dash <;> simp
  refine ⟨⟨at_ ++ [.lit 46], txN L1, L2.map txN, (L1 :: L2).map (·.map toIm), _, ?_, ?_, ?_, hpar, ?_, Nat.le_trans hpl (by decide), by lia, rfl, ?_, hruns, ?_, ?_, ?_⟩, (bfold (nums script)).row.map Int.toNat, ?_, ?_, ?_⟩
  · rw [W.pat, List.flatMap_append]; rfl
  · intro x hx
    rcases List.mem_append.mp hx with hx | hx
    · exact W.aok x hx
    · rw [List.mem_singleton.mp hx]; exact g46.ok.1
  · have := W.al
    rw [List.length_append]; simp only [List.length_cons, List.length_nil]; lia
  · intro r hr e
    obtain ⟨y, hy, rfl⟩ := List.mem_map.mp hr
    cases y with
    | nil => exact hne _ hy rfl
    | cons q y =>
      have := ((hmem _ (.tail _ hy)).1 q (.head _)).ne
      have e2 := List.map_eq_nil_iff.mp e
      rw [ats, List.flatMap_cons] at e2
      exact this (List.append_eq_nil_iff.mp e2).1
  · have h1 : ((cont (L2.map txN)).map List.length).sum ≤ ((L2.map txN).map fun r => r.flatten.length + 7).sum := cont_sum _
    rw [List.length_append, List.flatten_append, List.length_append, List.length_flatten (L := cont _)]
    simp only [List.length_cons, List.length_nil]; lia
  · rw [hread, List.map_map]; rfl
  · intro r hr
    obtain ⟨y, hy, rfl⟩ := List.mem_map.mp hr
    obtain ⟨h1, h2⟩ := hmem y hy
    refine ⟨fun q hq => ?_, ⟨?_, fun g hg => ?_⟩, by rw [List.length_map]; lia⟩
    · obtain ⟨z, hz, rfl⟩ := List.mem_map.mp hq
      exact (h1 z hz).good
    · rw [← tg2, List.length_map, List.length_map]
      have : ∀ l : List Ai, (∀ q ∈ l, AiOK q) → (ats l).length ≤ 3 * l.length := fun l => by
        induction l with
        | nil => simp
        | cons q l ih =>
          intro h
          have h1 := (h q (.head _)).len
          have h2 := ih fun x hx => h x (.tail _ hx)
          show (q.1 ++ ats l).length ≤ _
          rw [List.length_append, List.length_cons]; lia
      have := this y h1
      lia
    · rw [← tg2] at hg
      obtain ⟨x, hx, rfl⟩ := List.mem_map.mp hg
      obtain ⟨a, ha, rfl⟩ := List.mem_map.mp hx
      exact hge a (hgo y hy a ha)
  · rcases hshape with ⟨r, e⟩ | ⟨r0, mid, rl, e, hml⟩
    · exact .inl ⟨r.map toIm, by rw [e]; rfl⟩
    · obtain ⟨rfl, rfl⟩ := List.cons.inj e
      refine .inr ⟨L1.map toIm, mid.map (·.map toIm), rl.map toIm, by simp, fun r hr => ?_, ?_, by rw [List.length_map]; exact hml⟩
      · obtain ⟨y, hy, rfl⟩ := List.mem_map.mp hr
        have hy2 : y ∈ mid ++ [rl] := List.mem_append_left _ hy
        refine ⟨fun q hq => ?_, fun e => hne y hy2 (List.map_eq_nil_iff.mp e)⟩
        obtain ⟨z, hz, rfl⟩ := List.mem_map.mp hq
        exact ((hmem y (.tail _ hy2)).1 z hz).good
      · exact fun e => hne rl (by simp) (List.map_eq_nil_iff.mp e)
  · rw [rowOf, List.map_map]
    conv => lhs; rw [← List.map_id (bfold (nums script)).row]
    exact List.map_congr_left fun o ho => (Int.toNat_of_nonneg (W.row.1 o ho).1).symm
  · intro c hc
    obtain ⟨o, ho, rfl⟩ := List.mem_map.mp hc
    exact (W.row.1 o ho).2
  · have := W.row.2
    rw [List.length_map]; lia
end
end Mine
namespace Mine
theorem ints_reps {z : FH} : ∀ {vs : List Value} {xs : List Int}, IntsAre vs xs → Reps z (xs.map V.int) vs
  | _, _, .nil => .nil
  | _, _, .cons n t r => .cons (.int n t) (ints_reps r)
theorem tab_asItWas {h h' : Heap} {P : Addr} (t : h.get? P = some (tabObj #[])) (hc : isCodeTable h P) (t' : Tab h' P) (k : ∀ a o, a ≠ P → h.get? a = some o → h'.get? a = some o) : OldK h h' := by
  constructor
  · intro b o e
    by_cases hb : b = P
    · subst hb
      rw [t] at e
      cases e
      obtain ⟨ps, e', _⟩ := t'
      exact .inr (.inl ⟨hc, rfl, #[], ps, rfl, by rw [e', Array.empty_append]⟩)
    · exact .inl (k b o hb e)
  · intro b o e
    by_cases hb : b = P
    · subst hb
      obtain ⟨ps, e', _⟩ := t'
      exact ⟨_, e'⟩
    · exact ⟨o, k b o hb e⟩
theorem well_all {P : Params} {h : Heap} : ∀ {vs : List Value} {xs : List Int}, WellAll P h vs (ofPys (xs.map .int)) → IntsAre vs xs
  | _, [], .nil => .nil
  | _, n :: xs, .cons a r => by
    cases a with
    | int _ t => exact .cons n t (well_all r)
theorem well_ints {P : Params} {h : Heap} {la : Addr} {xs : List Int} (w : Well P h (.ref la) (ofPy (.list (xs.map .int)))) : ∃ ws : List Value, h.get? la = some (lstO ws.toArray 0) ∧ IntsAre ws xs := by
  cases w with
  | list e a => exact ⟨_, e, well_all a⟩
theorem law_fn (w : World) (mg mb : Str → Option Value) (script : List Int) (hl : script.length ≤ 63) : FnOK (TT w mg mb) 108 15 164 [.list (script.map V.int)] (fun r => r = .bool true) := law_walk script hl (plain script)
theorem noP (p : Params) : (hK p).lookup 108 = none := by kernel_rfl
theorem f_law (p : Params) : nsIn (hK p) mainGlobals (Str.ofString "law") = some (some (.ref 164)) := by kernel_rfl
set_option maxHeartbeats 4000000 in
set_option tactic.hygienic true in
theorem cw_holds : PySem.Challenge.rw_ij0049_01.Holds := by
  refine head ?_
  intro w s₀ s₁ mg mb G Y fa o pm cd doc dV kV ho hd hcd hD hmg hg args vals as hpre hlay hrd hwl hlo
  have K := km_in_of Y
  have T8 : s₁.heap.get? 108 = some (tabObj #[]) := km_tabs_of Y 108 (.head _)
  have T := G.T
  clear ho hd hcd hD Y G
  wrow_args hpre hlay hrd hwl hlo
  rename_i xs _ _ _ _ _ _ _ la vs _ hL _ hwl2 _ hI _ hc _
  have hlen : xs.length ≤ 63 := by lia
  have hfa : fa = 164 := by
    have := mg_of K T.g (f_law w.params)
    change mg (Str.ofString "law") = some (.ref fa) at hmg
    rw [hmg] at this
    cases this; rfl
  subst hfa
  obtain ⟨ws, l1, hws⟩ : ∃ ws : List Value, s₁.heap.get? la = some (lstO ws.toArray 0) ∧ IntsAre ws xs := well_ints hwl2
  have hP0 := noP w.params
  have hct : isCodeTable s₁.heap 108 := by
    obtain ⟨o, vs, _, _, _, _, _, _, _, e1, e2, e3, e4, _⟩ := codeHd_of_K (K := (TT w mg mb).K) K (cd112 w mg mb)
    exact ⟨112, o, vs, e1, e2, e3, e4⟩
  have keepG : ∀ h : Heap, (∀ a o, a ≠ 108 → s₁.heap.get? a = some o → h.get? a = some o) → GdH (TT w mg mb) h := fun h k => by
    refine ⟨fun a o e => k a o (fun q => by rw [q] at e; rw [show (TT w mg mb).K.lookup 108 = none from hP0] at e; cases e) (K a o e), ?_, ?_, ?_, T.builtins, ?_⟩
    · obtain ⟨o, es, ep, h1, h2⟩ := T.g; exact ⟨o, es, ep, k _ _ (by decide) h1, h2⟩
    · obtain ⟨o, es, ep, h1, h2⟩ := T.b; exact ⟨o, es, ep, k _ _ (by decide) h1, h2⟩
    · exact T.nolimit.at fun o e => k _ _ (by decide) e
    · obtain ⟨bm, ob, h1, h2, h3, h4⟩ := T.bmain
      refine ⟨bm, ob, h1, h2, k _ _ (fun q => ?_) h3, h4⟩
      rw [q, T8] at h3
      cases h3
      exact absurd h4.1 (by decide)
  let z : FH := fun a => if a = 108 then none else s₁.heap.get? a
  have hz : ∀ a o, z a = some o → s₁.heap.get? a = some o := fun a o e => by
    simp only [z] at e
    split at e
    · cases e
    · exact e
  have hzi : ∀ a o, a ≠ 108 → s₁.heap.get? a = some o → z a = some o := fun a o ha e => by simp only [z]; rw [if_neg ha]; exact e
  have hP : Pre (TT w mg mb) 108 z s₁ := by
    refine ⟨keepG, fun a o e => hzi a o (fun q => by rw [q] at e; rw [show (TT w mg mb).K.lookup 108 = none from hP0] at e; cases e) (K a o e), hz, by simp [z], ⟨_, T8, trivial⟩, .of_eq hg⟩
  have hla : la ≠ 108 := fun q => by rw [q, T8] at l1; cases l1
  have hv : Reps z [.list (xs.map V.int)] [.ref la] := .cons (.list (hzi la _ hla l1) (ints_reps hws)) .nil
  have hcall := law_fn w mg mb xs hlen callerA z s₁ _ ⟨rfl, by decide +kernel, by decide +kernel⟩ hP hv
  refine wpAny_call (codeAny_mono hcall fun r s' p => ?_)
  obtain ⟨v, z', d, rfl, ha, hr, rfl⟩ := p
  cases hr
  refine ⟨.inl ⟨_, .bool true, [], rfl, ?_, .bool true, ?_, ?_⟩, tab_asItWas T8 hct ha.tab ha.keep, ha.os, ha.bare⟩
  · exact fun zu => rfl
  · exact postW_of rfl rfl (by w_fin)
  · exact fun zu => ⟨.nil, nofun⟩
end Mine
theorem PySem.Challenge.cw_ij0049_01_holds : PySem.Challenge.rw_ij0049_01.Holds :=
  Mine.cw_holds
