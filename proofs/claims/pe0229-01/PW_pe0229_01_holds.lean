import PyProof.Rows.All
import Wide.All
import OpenK.AllK
import Wide.FinOn
import PySem.Challenge.RW_pe0229_01
set_option Elab.async false

section -- Top1
open PySem PySem.W PyProof.Rows
namespace Mine
set_option maxRecDepth 100000
set_option maxHeartbeats 8000000
open_top hd for PySem.Challenge.rw_pe0229_01
end Mine
end

section -- Fw
open PySem PySem.W PyProof.Rows PySem.Calls
namespace Mine
set_option maxRecDepth 100000
set_option linter.unusedVariables false
variable {p : Bool}

noncomputable abbrev prg : Program := PySem.Challenge.rw_pe0229_01.row.prog
noncomputable abbrev KK (w : World) : Frag := hd.heap_39 w.params

/-! values -/
inductive Sc where
  | int (i : Int)
  | flt (x : UInt64)
  | bool (b : Bool)
  | str (x : Str)
inductive V where
  | sc (a : Sc)
  | tup (l : List Sc)
  | lst (l : List Sc)
  | fn (a : Addr)
  | raw (v : Value)

noncomputable def Sc.Is : Sc → Value → Prop
  | .int i, v => ∃ t, v = .int i t
  | .flt x, v => ∃ t, v = .float x t
  | .bool b, v => v = .bool b
  | .str x, v => ∃ t, v = .str x t

noncomputable def ScsAre : List Sc → List Value → Prop
  | [], [] => True
  | a :: l, v :: vs => a.Is v ∧ ScsAre l vs
  | _, _ => False

noncomputable def IsV (h : Heap) : V → Value → Prop
  | .sc a, v => a.Is v
  | .tup l, v => ∃ a vs, v = .ref a ∧ h.IsTuple a vs.toArray ∧ ScsAre l vs
  | .lst l, v => ∃ a vs, v = .ref a ∧ h.IsList a vs.toArray ∧ ScsAre l vs
  | .fn a, v => v = .ref a ∧ ∃ o fd, h.get? a = some o ∧ o.data = .func fd
  | .raw u, v => v = u

noncomputable def VsAre (h : Heap) : List V → List Value → Prop
  | [], [] => True
  | a :: l, v :: vs => IsV h a v ∧ VsAre h l vs
  | _, _ => False

/-! heaps -/
noncomputable def Keep (p : Bool) (h h' : Heap) : Prop := ∀ b o, (p = true ∨ (b ≠ 54 ∧ b ≠ 47)) → h.get? b = some o → h'.get? b = some o

noncomputable def TabIs (qual : Str) (line col : Nat) (h : Heap) (P : Addr) : Prop :=
  h.get? P = some (tabObj #[]) ∨ ∃ c', h.get? P = some (tabObj #[rawInt line, rawInt col, .ref c']) ∧ h.CodeRec (.ref c') qual

structure Good (hB h : Heap) : Prop where
  stays : ∀ b o, hB.get? b = some o → h.get? b = some o
  td : TabIs "_digits2int.<locals>.inner" 48 4 h 54
  ti : TabIs "_int2digits.<locals>.inner" 33 4 h 47

structure Bs (w : World) (hB : Heap) (mg mb : Str → Option Value) : Prop where
  X : (KK w).In hB
  T : ∃ loose mean, Top topProg loose mean mg mb hB
  c1 : CodeHd hB 58 54
  c2 : CodeHd hB 51 47
  n1 : hB.get? 54 = none
  n2 : hB.get? 47 = none

theorem Keep.refl (h : Heap) : Keep p h h := fun _ _ _ e => e
theorem Keep.trans {a b c : Heap} (x : Keep p a b) (y : Keep p b c) : Keep p a c := fun b o h1 e => y b o h1 (x b o h1 e)
theorem Keep.of_all {a b : Heap} (x : ∀ q o, a.get? q = some o → b.get? q = some o) : Keep p a b := fun q o _ e => x q o e

theorem tab_get {q : Str} {l c : Nat} {h : Heap} {P : Addr} (x : TabIs q l c h P) : ∃ ps, h.get? P = some (tabObj ps) := by
  rcases x with e | ⟨c', e, _⟩ <;> exact ⟨_, e⟩

theorem Good.ne {hB h : Heap} (g : Good hB h) {a : Addr} {o : Obj} (e : h.get? a = some o) (hn : ∀ ps, o ≠ tabObj ps) : a ≠ 54 ∧ a ≠ 47 := by
  constructor
  · rintro rfl
    obtain ⟨ps, e2⟩ := tab_get g.td
    rw [e] at e2; exact hn ps (Option.some.inj e2)
  · rintro rfl
    obtain ⟨ps, e2⟩ := tab_get g.ti
    rw [e] at e2; exact hn ps (Option.some.inj e2)
theorem Good.ns_ne {hB h : Heap} (g : Good hB h) {L : Addr} {m : Str → Option Value} (n : h.Ns L m) : L ≠ 54 ∧ L ≠ 47 := by
  obtain ⟨o, es, ep, e, hd, _⟩ := n
  exact g.ne e fun ps q => by rw [q] at hd; cases hd
theorem Good.ns {hB h h' : Heap} (g : Good hB h) {L : Addr} {m : Str → Option Value} (n : h.Ns L m) (k : Keep p h h') : h'.Ns L m := by
  have hne := g.ns_ne n
  obtain ⟨o, es, ep, e, r⟩ := n
  exact ⟨o, es, ep, k _ _ (.inr hne) e, r⟩

theorem coderec_ne {h : Heap} {c : Addr} {q : Str} (x : h.CodeRec (.ref c) q) {ps : Array Value} {P : Addr} (e : h.get? P = some (tabObj ps)) (hp : ∀ s t, ps[1]? ≠ some (.str s t)) : c ≠ P := by
  rintro rfl
  obtain ⟨c', o, vs, t, h1, h2, h3, h4⟩ := x
  cases h1
  rw [e] at h2; cases h2
  cases h3
  exact hp _ _ h4

theorem coderec_keeps {h h' : Heap} {c : Addr} {q : Str} (x : h.CodeRec (.ref c) q) (k : ∀ o, h.get? c = some o → h'.get? c = some o) : h'.CodeRec (.ref c) q := by
  obtain ⟨c', o, vs, t, h1, h2, h3, h4⟩ := x
  cases h1
  exact ⟨_, o, vs, t, rfl, k _ h2, h3, h4⟩

theorem tab_one {q : Str} {l c : Nat} {h : Heap} {P : Addr} (x : TabIs q l c h P) : ∃ ps, h.get? P = some (tabObj ps) ∧ ∀ s t, ps[1]? ≠ some (.str s t) := by
  rcases x with e | ⟨c', e, _⟩
  · exact ⟨_, e, by simp⟩
  · exact ⟨_, e, by simp [rawInt]⟩

/-- the tables as they were, the rest kept -/
theorem Good.keep_all {hB h h' : Heap} (g : Good hB h) (k : ∀ b o, h.get? b = some o → h'.get? b = some o) : Good hB h' := by
  refine ⟨fun b o e => k b o (g.stays b o e), ?_, ?_⟩
  · rcases g.td with e | ⟨c', e, r⟩
    · exact .inl (k _ _ e)
    · exact .inr ⟨c', k _ _ e, coderec_keeps r fun o => k _ o⟩
  · rcases g.ti with e | ⟨c', e, r⟩
    · exact .inl (k _ _ e)
    · exact .inr ⟨c', k _ _ e, coderec_keeps r fun o => k _ o⟩
theorem Good.keep_but {hB h h' : Heap} (g : Good hB h) {L : Addr} (k : ∀ b o, b ≠ L → h.get? b = some o → h'.get? b = some o) (h1 : L ≠ 54) (h2 : L ≠ 47) (hB0 : hB.get? L = none)
    (hc : ∀ o vs, h.get? L = some o → o.data = .fields vs → ∀ q t, vs[1]? ≠ some (.str q t)) : Good hB h' := by
  have hr : ∀ c q, h.CodeRec (.ref c) q → h'.CodeRec (.ref c) q := fun c q r => coderec_keeps r fun o e => k _ o (by
    rintro rfl
    obtain ⟨c', o', vs, t, a1, a2, a3, a4⟩ := r
    cases a1
    exact hc _ _ a2 a3 _ _ a4) e
  refine ⟨fun b o e => k b o (fun q => by rw [q, hB0] at e; cases e) (g.stays b o e), ?_, ?_⟩
  · rcases g.td with e | ⟨c', e, r⟩
    · exact .inl (k _ _ (Ne.symm h1) e)
    · exact .inr ⟨c', k _ _ (Ne.symm h1) e, hr _ _ r⟩
  · rcases g.ti with e | ⟨c', e, r⟩
    · exact .inl (k _ _ (Ne.symm h2) e)
    · exact .inr ⟨c', k _ _ (Ne.symm h2) e, hr _ _ r⟩

theorem isTuple_keep {hB h h' : Heap} (g : Good hB h) {a : Addr} {its : Array Value} (x : h.IsTuple a its) (k : Keep p h h') : h'.IsTuple a its := by
  obtain ⟨o, e, c, n, d⟩ := x
  have := g.ne e fun ps q => by rw [q] at c; cases c
  exact ⟨o, k _ _ (.inr this) e, c, n, d⟩
theorem isList_keep {hB h h' : Heap} (g : Good hB h) {a : Addr} {its : Array Value} (x : h.IsList a its) (k : Keep p h h') : h'.IsList a its := by
  obtain ⟨o, e, c, n, d⟩ := x
  have := g.ne e fun ps q => by rw [q] at c; cases c
  exact ⟨o, k _ _ (.inr this) e, c, n, d⟩
theorem IsV.keep {hB h h' : Heap} (g : Good hB h) (k : Keep p h h') : ∀ {d : V} {v : Value}, IsV h d v → IsV h' d v
  | .sc _, _, x => x
  | .raw _, _, x => x
  | .tup _, _, ⟨a, vs, e, t, r⟩ => ⟨a, vs, e, isTuple_keep g t k, r⟩
  | .lst _, _, ⟨a, vs, e, t, r⟩ => ⟨a, vs, e, isList_keep g t k, r⟩
  | .fn _, _, ⟨e, o, fd, e1, e2⟩ => ⟨e, o, fd, k _ _ (.inr (g.ne e1 fun ps q => by rw [q] at e2; cases e2)) e1, e2⟩
theorem VsAre.keep {hB h h' : Heap} (g : Good hB h) (k : Keep p h h') : ∀ {ds : List V} {vs : List Value}, VsAre h ds vs → VsAre h' ds vs
  | [], [], _ => trivial
  | _ :: _, _ :: _, ⟨x, y⟩ => ⟨x.keep g k, y.keep g k⟩
  | [], _ :: _, x => x.elim
  | _ :: _, [], x => x.elim
/-! locals -/
noncomputable abbrev Rho := List (Str × V)
noncomputable def okName (env : Env) (x : Str) : Bool := env.kindOf x == some .local && !(x == ("__debug__" : Str))
noncomputable def okCell (env : Env) (x : Str) : Bool := (env.kindOf x == some .cell || env.kindOf x == some .free) && (!(x == ("__debug__" : Str)) && !(x == ("__classdict__" : Str)))
noncomputable def okStore (env : Env) (x : Str) : Bool := okName env x || (env.kindOf x == some .cell && okCell env x && (env.cells.lookup x).isSome)
noncomputable def Held (env : Env) (h : Heap) (m : Str → Option Value) (x : Str) (v : Value) : Prop :=
  (okName env x = true ∧ m x = some v) ∨ (okCell env x = true ∧ ∃ c, env.cells.lookup x = some c ∧ h.IsCell c (some v))
noncomputable def Loc (env : Env) (h : Heap) (m : Str → Option Value) (ρ : Rho) : Prop :=
  ∀ x d, ρ.lookup x = some d → ∃ v, Held env h m x v ∧ IsV h d v
/-- the frame's own places -/
noncomputable def Own (env : Env) (b : Addr) : Prop := b = env.locals ∨ ∃ x, env.kindOf x = some .cell ∧ env.cells.lookup x = some b
noncomputable def KeepF (p : Bool) (env : Env) (h h' : Heap) : Prop := ∀ b o, ¬ Own env b → (p = true ∨ (b ≠ 54 ∧ b ≠ 47)) → h.get? b = some o → h'.get? b = some o
theorem Keep.toF {a b : Heap} (env : Env) (x : Keep p a b) : KeepF p env a b := fun b o _ h1 e => x b o h1 e
theorem KeepF.trans {env : Env} {a b c : Heap} (x : KeepF p env a b) (y : KeepF p env b c) : KeepF p env a c := fun b o h0 h1 e => y b o h0 h1 (x b o h0 h1 e)
theorem KeepF.refl (env : Env) (h : Heap) : KeepF p env h h := fun _ _ _ _ e => e

theorem isCell_keep {hB h h' : Heap} (g : Good hB h) {c : Addr} {v : Option Value} (x : h.IsCell c v) (k : Keep p h h') : h'.IsCell c v := by
  obtain ⟨o, e, d⟩ := x
  have := g.ne e fun ps q => by rw [q] at d; cases d
  exact ⟨o, k _ _ (.inr this) e, d⟩
theorem Loc.keep {hB h h' : Heap} {env : Env} {m : Str → Option Value} {ρ : Rho} (x : Loc env h m ρ) (g : Good hB h) (k : Keep p h h') : Loc env h' m ρ := fun y d e => by
  obtain ⟨v, a, c⟩ := x y d e
  refine ⟨v, ?_, c.keep g k⟩
  rcases a with a | ⟨a, c, b1, b2⟩
  · exact .inl a
  · exact .inr ⟨a, c, b1, isCell_keep g b2 k⟩

structure Fm (env : Env) (h : Heap) (ρ : Rho) : Prop where
  m : ∃ m, h.Ns env.locals m ∧ Loc env h m ρ
  cells : ∀ x c, env.kindOf x = some .cell → env.cells.lookup x = some c → ∃ v, h.IsCell c v
theorem Fm.keep {hB h h' : Heap} {env : Env} {ρ : Rho} (x : Fm env h ρ) (g : Good hB h) (k : Keep p h h') : Fm env h' ρ := by
  obtain ⟨m, n, l⟩ := x.m
  exact ⟨⟨m, g.ns n k, l.keep g k⟩, fun y c h1 h2 => let ⟨v, e⟩ := x.cells y c h1 h2; ⟨v, isCell_keep g e k⟩⟩
theorem Fm.not_own {env : Env} {h : Heap} {ρ : Rho} (x : Fm env h ρ) {a : Addr} {o : Obj} (e : h.get? a = some o) (h1 : ∀ es n, o.data ≠ .dict es n) (h2 : ∀ v, o.data ≠ .cell v) : ¬ Own env a := by
  rintro (rfl | ⟨y, a1, a2⟩)
  · obtain ⟨m, ⟨o', es, ep, e', d, _⟩, _⟩ := x.m
    rw [e] at e'; cases e'; exact h1 _ _ d
  · obtain ⟨v, o', e', d⟩ := x.cells y a a1 a2
    rw [e] at e'; cases e'; exact h2 _ d
theorem IsV.keepF {hB h h' : Heap} {env : Env} {ρ : Rho} (g : Good hB h) (n : Fm env h ρ) (k : KeepF p env h h') : ∀ {d : V} {v : Value}, IsV h d v → IsV h' d v := by
  intro d v x
  cases d with
  | sc _ => exact x
  | raw _ => exact x
  | tup l =>
    obtain ⟨a, vs, e, ⟨o, e1, c, n', dd⟩, r⟩ := x
    have := g.ne e1 fun ps q => by rw [q] at c; cases c
    exact ⟨a, vs, e, ⟨o, k _ _ (n.not_own e1 (fun _ _ q => by rw [dd] at q; cases q) fun _ q => by rw [dd] at q; cases q) (.inr this) e1, c, n', dd⟩, r⟩
  | lst l =>
    obtain ⟨a, vs, e, ⟨o, e1, c, n', dd⟩, r⟩ := x
    have := g.ne e1 fun ps q => by rw [q] at c; cases c
    exact ⟨a, vs, e, ⟨o, k _ _ (n.not_own e1 (fun _ _ q => by rw [dd] at q; cases q) fun _ q => by rw [dd] at q; cases q) (.inr this) e1, c, n', dd⟩, r⟩
  | fn a =>
    obtain ⟨e, o, fd, e1, e2⟩ := x
    have := g.ne e1 fun ps q => by rw [q] at e2; cases e2
    exact ⟨e, o, fd, k _ _ (n.not_own e1 (fun _ _ q => by rw [e2] at q; cases q) fun _ q => by rw [e2] at q; cases q) (.inr this) e1, e2⟩

theorem Fm.sub {env : Env} {h : Heap} {ρ ρ' : Rho} (fm : Fm env h ρ) (hs : ∀ x d, ρ'.lookup x = some d → ρ.lookup x = some d) : Fm env h ρ' := by
  obtain ⟨m, n, l⟩ := fm.m
  exact ⟨⟨m, n, fun x d e => l x d (hs x d e)⟩, fm.cells⟩
theorem Fm.retype {env : Env} {h : Heap} {ρ : Rho} {x : Str} {v : Value} {d : V} (fm : Fm env h ρ) (hx : ρ.lookup x = some (.raw v)) (hd : IsV h d v) : Fm env h ((x, d) :: ρ) := by
  obtain ⟨m, n, l⟩ := fm.m
  refine ⟨⟨m, n, fun y e he => ?_⟩, fm.cells⟩
  rw [List.lookup_cons] at he
  by_cases hy : y = x
  · subst hy
    simp only [beq_self_eq_true] at he
    cases he
    obtain ⟨v', hh, hi⟩ := l _ _ hx
    cases hi
    exact ⟨_, hh, hd⟩
  · rw [beq_false_of_ne hy] at he
    exact l y e he
/-- a datum forgotten, its address kept -/
theorem Fm.toRaw {env : Env} {h : Heap} {ρ : Rho} {x : Str} {d : V} (fm : Fm env h ρ) (hx : ρ.lookup x = some d) : ∃ v, IsV h d v ∧ Fm env h ((x, .raw v) :: ρ) := by
  obtain ⟨m, n, l⟩ := fm.m
  obtain ⟨v, hh, hi⟩ := l x d hx
  refine ⟨v, hi, ⟨m, n, fun y e he => ?_⟩, fm.cells⟩
  rw [List.lookup_cons] at he
  by_cases hy : y = x
  · subst hy
    simp only [beq_self_eq_true] at he
    cases he
    exact ⟨v, hh, rfl⟩
  · rw [beq_false_of_ne hy] at he
    exact l y e he

noncomputable def Room (k : Nat) (A : Around) : Prop := A.handled = none ∧ A.depth + k < recursionLimit ∧ A.units + 10 * k + 100 < cLine
theorem Room.le {k j : Nat} {A : Around} (r : Room k A) (h : j ≤ k) : Room j A := ⟨r.1, by have := r.2.1; lia, by have := r.2.2; lia⟩

/-! specifications -/
section
variable (w : World) (hB : Heap) (p : Bool) (mg mb : Str → Option Value)

noncomputable def TreeSpec (k : Nat) (t : Sem Value) (s : Shared) (Q : V → Prop) : Prop :=
  ∀ A, Room k A → ∀ (E R : Value → Shared → Prop),
    (∀ v d h' tk, Keep p s.heap h' → Good hB h' → IsV h' d v → Q d → R v { s with heap := h', toks := tk }) →
    wpAny (model prg w) A t R E s

noncomputable def CallSpec (k : Nat) (fv : Value) (ds : List V) (Q : V → Prop) : Prop :=
  ∀ (s : Shared) (vals : List Value), Good hB s.heap → VsAre s.heap ds vals → TreeSpec w hB p k (call fv vals) s Q

noncomputable def EvalSpec (k : Nat) (env : Env) (e : Expr) (ρ : Rho) (Q : V → Prop) : Prop :=
  ∀ (s : Shared), Good hB s.heap → Fm env s.heap ρ → TreeSpec w hB p k (eval e env) s Q

noncomputable def TestSpec (k : Nat) (env : Env) (e : Expr) (ρ : Rho) (Q : Bool → Prop) : Prop :=
  ∀ (s : Shared), Good hB s.heap → Fm env s.heap ρ →
  ∀ A, Room k A → ∀ (E : Value → Shared → Prop) (R : Bool → Shared → Prop),
    (∀ b h' tk, Keep p s.heap h' → Good hB h' → Q b → R b { s with heap := h', toks := tk }) →
    wpAny (model prg w) A (isTrue e env (eval e env)) R E s

inductive Out where
  | nxt (ρ : Rho)
  | ret (d : V)
  | brk (ρ : Rho)
  | cnt (ρ : Rho)

noncomputable def OutOk (env : Env) (h : Heap) (fl : Flow) : Out → Prop
  | .nxt ρ => fl = .next ∧ Fm env h ρ
  | .ret d => ∃ v, fl = .ret v ∧ IsV h d v
  | .brk ρ => fl = .brk ∧ Fm env h ρ
  | .cnt ρ => fl = .cont ∧ Fm env h ρ

noncomputable def ExecSpec (k : Nat) (env : Env) (t : Sem Flow) (ρ : Rho) (Q : Out → Prop) : Prop :=
  ∀ (s : Shared), Good hB s.heap → Fm env s.heap ρ →
  ∀ A, Room k A → ∀ (E : Value → Shared → Prop) (R : Flow → Shared → Prop),
    (∀ fl o h' tk, KeepF p env s.heap h' → Good hB h' → OutOk env h' fl o → Q o → R fl { s with heap := h', toks := tk }) →
    wpAny (model prg w) A t R E s

/-- what a global name holds, and that it can be called -/
noncomputable def Callee (hB : Heap) (fv : Value) : Prop := (∃ id, fv = .builtin id) ∨ (∃ T, fv = .type T) ∨ ∃ a o fd, fv = .ref a ∧ hB.get? a = some o ∧ o.data = .func fd
noncomputable def GlobalIs (env : Env) (f : Str) (fv : Value) : Prop := (env.kindOf f == some .globalImplicit && !(f == ("__debug__" : Str))) = true ∧ (mg f = some fv ∨ (mg f = none ∧ mb f = some fv)) ∧ Callee hB fv
noncomputable def CallG (k : Nat) (env : Env) (f : Str) (ds : List V) (Q : V → Prop) : Prop := ∃ fv, GlobalIs hB mg mb env f fv ∧ CallSpec w hB p k fv ds Q
end

theorem TreeSpec.mono {w : World} {hB : Heap} {k j : Nat} {t : Sem Value} {s : Shared} {Q Q' : V → Prop} (x : TreeSpec w hB p k t s Q) (h : k ≤ j) (hQ : ∀ d, Q d → Q' d) : TreeSpec w hB p j t s Q' :=
  fun A r E R hR => x A (r.le h) E R fun v d h' tk a b c e => hR v d h' tk a b c (hQ d e)
theorem CallSpec.mono {w : World} {hB : Heap} {k j : Nat} {fv : Value} {ds : List V} {Q Q' : V → Prop} (x : CallSpec w hB p k fv ds Q) (h : k ≤ j) (hQ : ∀ d, Q d → Q' d) : CallSpec w hB p j fv ds Q' :=
  fun s vals g y => (x s vals g y).mono h hQ
end Mine
end

section -- Fw2
open PySem PySem.W PyProof.Rows PySem.Calls
namespace Mine
set_option maxRecDepth 100000
set_option linter.unusedVariables false
variable {p : Bool}

noncomputable def guardF (b : Bool) (P : Prop) : Prop := if b = true then False else P
theorem guardF_out {b : Bool} {P : Prop} (h : guardF b P) : ¬ b = true ∧ P := by unfold guardF at h; split at h; exact h.elim; exact ⟨by assumption, h⟩
theorem guardF_in {b : Bool} {P : Prop} (hb : b = false) (h : P) : guardF b P := by subst hb; exact h

noncomputable def divII (a b : Int) : UInt64 := Float64.ofFrac (decide (a < 0) != decide (b < 0)) a.natAbs b.natAbs

noncomputable def binSpec : Operator → Sc → Sc → (V → Prop) → Prop
  | .Add, .int a, .int b, Q => Q (.sc (.int (a + b)))
  | .Sub, .int a, .int b, Q => Q (.sc (.int (a - b)))
  | .Mult, .int a, .int b, Q => IntMulOk a b ∧ Q (.sc (.int (a * b)))
  | .FloorDiv, .int a, .int b, Q => (b ≠ 0 ∧ b.natAbs < 1073741824) ∧ Q (.sc (.int (a.fdiv b)))
  | .Mod, .int a, .int b, Q => b ≠ 0 ∧ Q (.sc (.int (a.fmod b)))
  | .Pow, .int a, .int n, Q => (0 ≤ n ∧ n ≤ 1000000 ∧ a.natAbs < 2 ^ 64) ∧ Q (.sc (.int (a ^ n.toNat)))
  | .LShift, .int a, .int n, Q => (0 ≤ n ∧ (Builtin.Int.intBits a : Int) + n ≤ 2 ^ 27) ∧ Q (.sc (.int (a * 2 ^ n.toNat)))
  | .RShift, .int a, .int n, Q => 0 ≤ n ∧ Q (.sc (.int (a.fdiv (2 ^ n.toNat))))
  | .BitAnd, .int a, .int b, Q => Q (.sc (.int (Builtin.bitAnd a b)))
  | .BitXor, .int a, .int b, Q => Q (.sc (.int (Builtin.bitXor a b)))
  | .BitOr, .int a, .int b, Q => Q (.sc (.int (Builtin.bitOr a b)))
  | .Div, .int a, .int b, Q => (b ≠ 0 ∧ Float64.isInf (divII a b) = false) ∧ Q (.sc (.flt (divII a b)))
  | .Add, .flt a, .flt b, Q => Q (.sc (.flt (Float64.add a b)))
  | .Sub, .flt a, .flt b, Q => Q (.sc (.flt (Float64.sub a b)))
  | .Mult, .flt a, .flt b, Q => Q (.sc (.flt (Float64.mul a b)))
  | .Div, .flt a, .flt b, Q => guardF (Float64.isZero b) (Q (.sc (.flt (Float64.div a b))))
  | .Mod, .flt a, .flt b, Q => guardF (Float64.isZero b) (Q (.sc (.flt (Float64.divmod a b).2)))
  | .Sub, .flt a, .int n, Q => n.natAbs < 2 ^ 1023 ∧ Q (.sc (.flt (Float64.sub a (Float64.ofInt n))))
  | .Sub, .int n, .flt a, Q => n.natAbs < 2 ^ 1023 ∧ Q (.sc (.flt (Float64.sub (Float64.ofInt n) a)))
  | .Mult, .flt a, .int n, Q => n.natAbs < 2 ^ 1023 ∧ Q (.sc (.flt (Float64.mul a (Float64.ofInt n))))
  | .Add, .str a, .str b, Q => a.length + b.length ≤ 1048576 ∧ Q (.sc (.str (a ++ b)))
  | .Mult, .str a, .int n, Q => MulOk a n ∧ Q (.sc (.str (Txt.mul a n)))
  | _, _, _, _ => False

theorem keep_toks {hB : Heap} {s : Shared} {R : Value → Shared → Prop} {Q : V → Prop} (g : Good hB s.heap)
    (hR : ∀ v d h' tk, Keep p s.heap h' → Good hB h' → IsV h' d v → Q d → R v { s with heap := h', toks := tk }) {v : Value} {d : V} {tk : Nat} (i : IsV s.heap d v) (q : Q d) : R v { s with toks := tk } :=
  hR v d s.heap tk (.refl _) g i q

theorem bin_sound {w : World} {hB : Heap} {op : Operator} {a b : Sc} {va vb : Value} {Q : V → Prop} {s : Shared} (g : Good hB s.heap) (h : binSpec op a b Q) (ha : a.Is va) (hb : b.Is vb) :
    TreeSpec w hB p 0 (binaryOp op va vb) s Q := by
  intro A r E R hR
  cases a <;> cases b <;> (try obtain ⟨ta, rfl⟩ := ha) <;> (try obtain ⟨tb, rfl⟩ := hb) <;> cases op <;> (try exact h.elim)
  · exact PyProof.Rows.add_int (keep_toks g hR (d := .sc (.int _)) ⟨_, rfl⟩ h)
  · exact PyProof.Rows.sub_int (keep_toks g hR (d := .sc (.int _)) ⟨_, rfl⟩ h)
  · exact PyProof.Rows.mul_int (keep_toks g hR (d := .sc (.int _)) ⟨_, rfl⟩ h.2) h.1
  · have := h.1
    exact AutoIntOps.truediv_2 (by simpa using h.1.1) (by have := h.1.2; unfold divII at this; rw [this]; decide) (keep_toks g hR (d := .sc (.flt _)) ⟨_, rfl⟩ h.2)
  · exact PyProof.Rows.mod_int' h.1 (keep_toks g hR (d := .sc (.int _)) ⟨_, rfl⟩ h.2)
  · exact PyProof.Rows.pow_int_small h.1.1 h.1.2.1 h.1.2.2 (keep_toks g hR (d := .sc (.int _)) ⟨_, rfl⟩ h.2)
  · exact PyProof.Rows.lshift_int h.1.1 h.1.2 (keep_toks g hR (d := .sc (.int _)) ⟨_, rfl⟩ h.2)
  · exact PyProof.Rows.rshift_int h.1 (keep_toks g hR (d := .sc (.int _)) ⟨_, rfl⟩ h.2)
  · exact PyProof.Rows.or_int (keep_toks g hR (d := .sc (.int _)) ⟨_, rfl⟩ h)
  · exact PyProof.Rows.xor_int (keep_toks g hR (d := .sc (.int _)) ⟨_, rfl⟩ h)
  · exact PyProof.Rows.and_int (keep_toks g hR (d := .sc (.int _)) ⟨_, rfl⟩ h)
  · exact PyProof.Rows.floordiv_int h.1.1 (keep_toks g hR (d := .sc (.int _)) ⟨_, rfl⟩ h.2) (.inl (PyProof.noPylong_small h.1.2))
  · exact PyProof.Rows.sub_if_fits h.1 (keep_toks g hR (d := .sc (.flt _)) ⟨_, rfl⟩ h.2)
  · exact PyProof.Rows.sub_fi_fits h.1 (keep_toks g hR (d := .sc (.flt _)) ⟨_, rfl⟩ h.2)
  · exact PyProof.Rows.mul_fi_fits h.1 (keep_toks g hR (d := .sc (.flt _)) ⟨_, rfl⟩ h.2)
  · exact PyProof.Rows.add_float (keep_toks g hR (d := .sc (.flt _)) ⟨_, rfl⟩ h)
  · exact PyProof.Rows.sub_float (keep_toks g hR (d := .sc (.flt _)) ⟨_, rfl⟩ h)
  · exact PyProof.Rows.mul_float (keep_toks g hR (d := .sc (.flt _)) ⟨_, rfl⟩ h)
  · exact AutoFloatOps.truediv_1 (guardF_out h).1 (keep_toks g hR (d := .sc (.flt _)) ⟨_, rfl⟩ (guardF_out h).2)
  · exact AutoFloatOps.mod_1 (guardF_out h).1 (keep_toks g hR (d := .sc (.flt _)) ⟨_, rfl⟩ (guardF_out h).2)
  · exact SB.mul h.1 (fun t tk => keep_toks g hR (d := .sc (.str _)) ⟨_, rfl⟩ h.2)
  · exact PyProof.Rows.add_str (fun t tk => keep_toks g hR (d := .sc (.str _)) ⟨_, rfl⟩ h.2) (Nat.le_trans h.1 (by decide))

noncomputable def unSpec : UnaryOp → Sc → (V → Prop) → Prop
  | .USub, .int a, Q => Q (.sc (.int (-a)))
  | .Invert, .int a, Q => Q (.sc (.int (Builtin.bitNot a)))
  | .USub, .flt a, Q => Q (.sc (.flt (Float64.neg a)))
  | _, _, _ => False
theorem un_sound {w : World} {hB : Heap} {op : UnaryOp} {a : Sc} {va : Value} {Q : V → Prop} {s : Shared} (g : Good hB s.heap) (h : unSpec op a Q) (ha : a.Is va) :
    TreeSpec w hB p 0 (unaryOp op va) s Q := by
  intro A r E R hR
  cases a <;> (try obtain ⟨ta, rfl⟩ := ha) <;> cases op <;> (try exact h.elim)
  · exact PyProof.Rows.invert_int (keep_toks g hR (d := .sc (.int _)) ⟨_, rfl⟩ h)
  · exact PyProof.Rows.neg_int (keep_toks g hR (d := .sc (.int _)) ⟨_, rfl⟩ h)
  · exact PyProof.Rows.neg_float (keep_toks g hR (d := .sc (.flt _)) ⟨_, rfl⟩ h)

noncomputable def cmpSpec : CmpOp → Sc → Sc → (Bool → Prop) → Prop
  | .Eq, .int a, .int b, Q => Q (a == b)
  | .NotEq, .int a, .int b, Q => Q (a != b)
  | .Lt, .int a, .int b, Q => Q (decide (a < b))
  | .Gt, .int a, .int b, Q => Q (decide (b < a))
  | .LtE, .int a, .int b, Q => Q (decide (a ≤ b))
  | .GtE, .int a, .int b, Q => Q (decide (b ≤ a))
  | .Eq, .flt a, .flt b, Q => Q (Float64.cmp a b == some Ordering.eq)
  | .Lt, .flt a, .flt b, Q => Q (Float64.cmp a b == some Ordering.lt)
  | .Gt, .flt a, .flt b, Q => Q (Float64.cmp a b == some Ordering.gt)
  | .LtE, .flt a, .flt b, Q => Q (Float64.cmp a b == some Ordering.lt || Float64.cmp a b == some Ordering.eq)
  | .NotEq, .str a, .str b, Q => Q (a != b)
  | _, _, _, _ => False
theorem cmp_sound {w : World} {op : CmpOp} {a b : Sc} {va vb : Value} {Q : Bool → Prop} {s : Shared} (h : cmpSpec op a b Q) (ha : a.Is va) (hb : b.Is vb)
    {A : Around} {E R : Value → Shared → Prop} (hR : ∀ c, Q c → R (.bool c) s) : wpAny (model prg w) A (compareOp op va vb) R E s := by
  cases a <;> cases b <;> (try obtain ⟨ta, rfl⟩ := ha) <;> (try obtain ⟨tb, rfl⟩ := hb) <;> cases op <;> (try exact h.elim)
  · exact PyProof.Rows.eq_int (hR _ h)
  · exact PyProof.Rows.ne_int (hR _ h)
  · exact PyProof.Rows.lt_int (hR _ h)
  · exact PyProof.Rows.le_int (hR _ h)
  · exact PyProof.Rows.gt_int (hR _ h)
  · exact PyProof.Rows.ge_int (hR _ h)
  · exact AutoFloatOps.eq_0 (hR _ h)
  · exact AutoFloatOps.lt_0 (hR _ h)
  · exact AutoFloatOps.le_0 (hR _ h)
  · exact AutoFloatOps.gt_0 (hR _ h)
  · exact PyProof.Rows.ne_str (hR _ h)
end Mine
end

section -- Bi
open PySem PySem.W PyProof.Rows PySem.Calls
namespace Mine
set_option maxRecDepth 100000
set_option linter.unusedVariables false
variable {p : Bool}
set_option linter.unusedSimpArgs false

noncomputable def flt (x y : UInt64) : Bool := Float64.cmp x y == some .lt
noncomputable def fgt (x y : UInt64) : Bool := Float64.cmp x y == some .gt
noncomputable def fle (x y : UInt64) : Bool := Float64.cmp x y == some .lt || Float64.cmp x y == some .eq
noncomputable def feq (x y : UInt64) : Bool := Float64.cmp x y == some .eq
noncomputable def fmax3 (a b c : UInt64) : UInt64 := if fgt b a = true then (if fgt c b = true then c else b) else (if fgt c a = true then c else a)
noncomputable def fmin3 (a b c : UInt64) : UInt64 := if flt b a = true then (if flt c b = true then c else b) else (if flt c a = true then c else a)

noncomputable def imax3 (a b c : Int) : Int := if b > a then (if c > b then c else b) else (if c > a then c else a)
noncomputable def imin3 (a b c : Int) : Int := if b < a then (if c < b then c else b) else (if c < a then c else a)

noncomputable def bits3 (a b c : UInt64) : Nat → UInt64
  | 0 => a
  | 1 => b
  | _ => c

theorem items3 {a b c : UInt64} {t u x : Tok} {i : Nat} {v : Value} (h : (#[Value.float a t, .float b u, .float c x] : Array Value)[i]? = some v) : ∃ tk, v = .float (bits3 a b c i) tk := by
  match i with
  | 0 => simp at h; exact ⟨_, h.symm⟩
  | 1 => simp at h; exact ⟨_, h.symm⟩
  | 2 => simp at h; exact ⟨_, h.symm⟩
  | n + 3 => simp at h

theorem ScsAre.length : ∀ {l : List Sc} {vs : List Value}, ScsAre l vs → vs.length = l.length
  | [], [], _ => rfl
  | _ :: _, _ :: _, ⟨_, r⟩ => by simp [r.length]
  | [], _ :: _, x => x.elim
  | _ :: _, [], x => x.elim

theorem vsC {h : Heap} {d : V} {ds : List V} : ∀ {vals : List Value}, VsAre h (d :: ds) vals → ∃ v vs, vals = v :: vs ∧ IsV h d v ∧ VsAre h ds vs
  | v :: vs, x => ⟨v, vs, rfl, x⟩
  | [], x => x.elim
theorem vsN {h : Heap} : ∀ {vals : List Value}, VsAre h [] vals → vals = []
  | [], _ => rfl
  | _ :: _, x => x.elim
theorem vs1 {h : Heap} {d : V} : ∀ {vals : List Value}, VsAre h [d] vals → ∃ v, vals = [v] ∧ IsV h d v
  | [v], x => ⟨v, rfl, x.1⟩
  | [], x => x.elim
  | _ :: _ :: _, x => x.2.elim
theorem scC {a : Sc} {l : List Sc} : ∀ {vs : List Value}, ScsAre (a :: l) vs → ∃ v us, vs = v :: us ∧ a.Is v ∧ ScsAre l us
  | v :: us, x => ⟨v, us, rfl, x⟩
  | [], x => x.elim
theorem scN : ∀ {vs : List Value}, ScsAre [] vs → vs = []
  | [], _ => rfl
  | _ :: _, x => x.elim
theorem lenC {α : Type} {n : Nat} : ∀ {l : List α}, l.length = n + 1 → ∃ a t, l = a :: t ∧ t.length = n
  | a :: t, h => ⟨a, t, rfl, by simpa using h⟩
  | [], h => by cases h
theorem lenN {α : Type} : ∀ {l : List α}, l.length = 0 → l = []
  | [], _ => rfl
  | _ :: _, h => by cases h
theorem ss3 {a b c : Sc} : ∀ {vs : List Value}, ScsAre [a, b, c] vs → ∃ x y z, vs = [x, y, z] ∧ a.Is x ∧ b.Is y ∧ c.Is z
  | _, h => by
    obtain ⟨x, l1, rfl, h1, k1⟩ := scC h
    obtain ⟨y, l2, rfl, h2, k2⟩ := scC k1
    obtain ⟨z, l3, rfl, h3, k3⟩ := scC k2
    cases scN k3
    exact ⟨x, y, z, rfl, h1, h2, h3⟩

section
variable {w : World} {hB : Heap}
theorem max3f {a b c : UInt64} {Q : V → Prop} (h : Q (.sc (.flt (fmax3 a b c)))) : CallSpec w hB p 0 (.builtin "max") [.sc (.flt a), .sc (.flt b), .sc (.flt c)] Q := by
  intro s vals g hv A r E R hR
  obtain ⟨va, l1, rfl, ⟨t, rfl⟩, hv1⟩ := vsC hv
  obtain ⟨vb, l2, rfl, ⟨u, rfl⟩, hv2⟩ := vsC hv1
  obtain ⟨vc, l3, rfl, ⟨x, rfl⟩, hv3⟩ := vsC hv2
  cases vsN hv3
  have hT : (s.heap.push { cls := .type "tuple", data := .seq #[.float a t, .float b u, .float c x] }).IsTuple s.heap.objs.size #[.float a t, .float b u, .float c x] := ⟨_, Heap.get?_push_size _ rfl, rfl, 0, rfl⟩
  refine call_max_three (wpAny_pyIter_tuple hT ?_)
  have hsz : (s.heap.push { cls := .type "tuple", data := .seq #[.float a t, .float b u, .float c x] }).objs.size = s.heap.objs.size + 1 := Heap.size_push ..
  refine ⟨_, [_, s.heap.objs.size], [_], _, _, _, fun i j => fgt (bits3 a b c i) (bits3 a b c j), rfl, Walks.tuple (A := A.in1) r.1 _ s.heap.objs.size (by rw [hsz]; exact Nat.ne_of_lt (Nat.lt_succ_self _)) #[.float a t, .float b u, .float c x],
    ⟨⟨_, Heap.get?_push_size _ rfl, rfl, rfl⟩, hT.push _⟩, fun d hd => ?_, by simp, fun i j vi vj s Q E hi hj h => ?_, fun v h' tk hP hk => ?_⟩
  · show d < ((s.heap.push _).push _).objs.size
    rw [Heap.size_push, hsz]
    rcases List.mem_cons.mp hd with rfl | hd
    · rw [hsz]; exact Nat.lt_succ_self _
    · rcases List.mem_cons.mp hd with rfl | hd
      · exact Nat.lt_succ_of_lt (Nat.lt_succ_self _)
      · cases hd
  · obtain ⟨t1, rfl⟩ := items3 hi
    obtain ⟨t2, rfl⟩ := items3 hj
    exact AutoFloatOps.gt_0 h
  · have hold : ∀ d o, s.heap.get? d = some o → h'.get? d = some o := fun d o e => by
      refine hk d o (fun hm => ?_) (Heap.get?_push_of_some _ (Heap.get?_push_of_some _ e))
      rcases List.mem_cons.mp hm with e1 | hm
      · have := Heap.lt_size e; rw [e1, hsz] at this; exact Nat.lt_irrefl _ (Nat.lt_of_succ_lt this)
      · cases hm
    obtain ⟨t1, rfl⟩ := items3 hP
    have e : bits3 a b c (argBest (fun i j => fgt (bits3 a b c i) (bits3 a b c j)) (3 - 1)) = fmax3 a b c := by
      simp only [argBest, fmax3, Nat.reduceSub, Nat.reduceAdd]
      by_cases hba : fgt b a = true
      · by_cases hcb : fgt c b = true <;> simp [bits3, hba, hcb]
      · by_cases hca : fgt c a = true <;> simp [bits3, hba, hca]
    refine hR _ (.sc (.flt (fmax3 a b c))) h' tk (.of_all hold) (g.keep_all hold) ⟨t1, ?_⟩ h
    rw [← e]; rfl
theorem min3f {a b c : UInt64} {Q : V → Prop} (h : Q (.sc (.flt (fmin3 a b c)))) : CallSpec w hB p 0 (.builtin "min") [.sc (.flt a), .sc (.flt b), .sc (.flt c)] Q := by
  intro s vals g hv A r E R hR
  obtain ⟨va, l1, rfl, ⟨t, rfl⟩, hv1⟩ := vsC hv
  obtain ⟨vb, l2, rfl, ⟨u, rfl⟩, hv2⟩ := vsC hv1
  obtain ⟨vc, l3, rfl, ⟨x, rfl⟩, hv3⟩ := vsC hv2
  cases vsN hv3
  have hT : (s.heap.push { cls := .type "tuple", data := .seq #[.float a t, .float b u, .float c x] }).IsTuple s.heap.objs.size #[.float a t, .float b u, .float c x] := ⟨_, Heap.get?_push_size _ rfl, rfl, 0, rfl⟩
  refine call_min_three (wpAny_pyIter_tuple hT ?_)
  have hsz : (s.heap.push { cls := .type "tuple", data := .seq #[.float a t, .float b u, .float c x] }).objs.size = s.heap.objs.size + 1 := Heap.size_push ..
  refine ⟨_, [_, s.heap.objs.size], [_], _, _, _, fun i j => flt (bits3 a b c i) (bits3 a b c j), rfl, Walks.tuple (A := A.in1) r.1 _ s.heap.objs.size (by rw [hsz]; exact Nat.ne_of_lt (Nat.lt_succ_self _)) #[.float a t, .float b u, .float c x],
    ⟨⟨_, Heap.get?_push_size _ rfl, rfl, rfl⟩, hT.push _⟩, fun d hd => ?_, by simp, fun i j vi vj s Q E hi hj h => ?_, fun v h' tk hP hk => ?_⟩
  · show d < ((s.heap.push _).push _).objs.size
    rw [Heap.size_push, hsz]
    rcases List.mem_cons.mp hd with rfl | hd
    · rw [hsz]; exact Nat.lt_succ_self _
    · rcases List.mem_cons.mp hd with rfl | hd
      · exact Nat.lt_succ_of_lt (Nat.lt_succ_self _)
      · cases hd
  · obtain ⟨t1, rfl⟩ := items3 hi
    obtain ⟨t2, rfl⟩ := items3 hj
    exact AutoFloatOps.lt_0 h
  · have hold : ∀ d o, s.heap.get? d = some o → h'.get? d = some o := fun d o e => by
      refine hk d o (fun hm => ?_) (Heap.get?_push_of_some _ (Heap.get?_push_of_some _ e))
      rcases List.mem_cons.mp hm with e1 | hm
      · have := Heap.lt_size e; rw [e1, hsz] at this; exact Nat.lt_irrefl _ (Nat.lt_of_succ_lt this)
      · cases hm
    obtain ⟨t1, rfl⟩ := items3 hP
    have e : bits3 a b c (argBest (fun i j => flt (bits3 a b c i) (bits3 a b c j)) (3 - 1)) = fmin3 a b c := by
      simp only [argBest, fmin3, Nat.reduceSub, Nat.reduceAdd]
      by_cases hba : flt b a = true
      · by_cases hcb : flt c b = true <;> simp [bits3, hba, hcb]
      · by_cases hca : flt c a = true <;> simp [bits3, hba, hca]
    refine hR _ (.sc (.flt (fmin3 a b c))) h' tk (.of_all hold) (g.keep_all hold) ⟨t1, ?_⟩ h
    rw [← e]; rfl

theorem round_f {x : UInt64} {Q : V → Prop} (hx : Float64.isFinite x = true) (h : Q (.sc (.int (PySem.Flt.toInt Float64.nearestOf x)))) : CallSpec w hB p 0 (.builtin "round") [.sc (.flt x)] Q := by
  intro s vals g hv A r E R hR
  obtain ⟨va, l1, rfl, ⟨t, rfl⟩, hv1⟩ := vsC hv
  cases vsN hv1
  have hk : ∀ {b : Bool}, b = true → (Float64.isFinite x = true → b = false) → False := fun h1 h2 => by rw [h2 hx] at h1; cases h1
  refine PySem.Flt.call_round_float r.1 (fun hn => absurd hn ?_) (fun hn => absurd hn ?_) fun _ => hR _ (.sc (.int _)) s.heap _ (.refl _) g ⟨_, rfl⟩ h
  · intro hn
    unfold Float64.isNaN at hn; unfold Float64.isFinite at hx
    split at hn
    · rename_i e; rw [e] at hx; cases hx
    · cases hn
  · intro hn
    unfold Float64.isInf at hn; unfold Float64.isFinite at hx
    split at hn
    · rename_i e; rw [e] at hx; cases hx
    · cases hn
theorem int_f {x : UInt64} {Q : V → Prop} (hx : Float64.isFinite x = true) (h : Q (.sc (.int (PySem.Flt.toInt Float64.truncOf x)))) : CallSpec w hB p 0 (.type "int") [.sc (.flt x)] Q := by
  intro s vals g hv A r E R hR
  obtain ⟨va, l1, rfl, ⟨t, rfl⟩, hv1⟩ := vsC hv
  cases vsN hv1
  unfold Float64.isFinite at hx
  split at hx
  · rename_i sg m e hd
    unfold PySem.Flt.toInt at h
    rw [hd] at h
    exact call_int_float hd (hR _ (.sc (.int _)) s.heap _ (.refl _) g ⟨_, rfl⟩ h)
  · cases hx
theorem min2i {a b : Int} {Q : V → Prop} (h : Q (.sc (.int (if b < a then b else a)))) : CallSpec w hB p 0 (.builtin "min") [.sc (.int a), .sc (.int b)] Q := by
  intro s vals g hv A r E R hR
  obtain ⟨va, l1, rfl, ⟨t, rfl⟩, hv1⟩ := vsC hv
  obtain ⟨vb, l2, rfl, ⟨u, rfl⟩, hv2⟩ := vsC hv1
  cases vsN hv2
  refine min_two_ints r.1 fun h' tk hold => ?_
  refine hR _ (.sc (.int _)) h' tk (.of_all hold) (g.keep_all hold) ?_ h
  by_cases hb : b < a
  · rw [if_pos hb, if_pos hb]; exact ⟨_, rfl⟩
  · rw [if_neg hb, if_neg hb]; exact ⟨_, rfl⟩
theorem max3i {a b c : Int} {Q : V → Prop} (h : Q (.sc (.int (imax3 a b c)))) : CallSpec w hB p 0 (.builtin "max") [.lst [.int a, .int b, .int c]] Q := by
  intro s vals g hv A r E R hR
  obtain ⟨v, rfl, l, vs, rfl, hl, hs⟩ := vs1 hv
  obtain ⟨_, _, _, rfl, ⟨t, rfl⟩, ⟨u, rfl⟩, ⟨x, rfl⟩⟩ := ss3 hs
  refine max_intList (xs := #[(a, t), (b, u), (c, x)]) r.1 ?_ (Nat.zero_lt_succ 2) ?_
  · have e : intItems #[(a, t), (b, u), (c, x)] = [Value.int a t, .int b u, .int c x].toArray := by simp [intItems]
    rw [e]; exact hl
  intro v h' tk hP hold
  refine hR _ (.sc (.int (imax3 a b c))) h' tk (.of_all hold) (g.keep_all hold) ?_ h
  unfold imax3
  by_cases hba : b > a
  · by_cases hc : c > b
    · have e : argBest (fun i j => decide (numAt #[(a, t), (b, u), (c, x)] i > numAt #[(a, t), (b, u), (c, x)] j)) 2 = 2 := by simp [argBest, numAt, hba, hc]
      simp [e, intItems] at hP
      simp only [hba, hc, if_true]; exact ⟨_, hP.symm⟩
    · have e : argBest (fun i j => decide (numAt #[(a, t), (b, u), (c, x)] i > numAt #[(a, t), (b, u), (c, x)] j)) 2 = 1 := by simp [argBest, numAt, hba, hc]
      simp [e, intItems] at hP
      simp only [hba, hc, if_true, if_false]; exact ⟨_, hP.symm⟩
  · by_cases hc : c > a
    · have e : argBest (fun i j => decide (numAt #[(a, t), (b, u), (c, x)] i > numAt #[(a, t), (b, u), (c, x)] j)) 2 = 2 := by simp [argBest, numAt, hba, hc]
      simp [e, intItems] at hP
      simp only [hba, hc, if_true, if_false]; exact ⟨_, hP.symm⟩
    · have e : argBest (fun i j => decide (numAt #[(a, t), (b, u), (c, x)] i > numAt #[(a, t), (b, u), (c, x)] j)) 2 = 0 := by simp [argBest, numAt, hba, hc]
      simp [e, intItems] at hP
      simp only [hba, hc, if_false]; exact ⟨_, hP.symm⟩
theorem min3i {a b c : Int} {Q : V → Prop} (h : Q (.sc (.int (imin3 a b c)))) : CallSpec w hB p 0 (.builtin "min") [.lst [.int a, .int b, .int c]] Q := by
  intro s vals g hv A r E R hR
  obtain ⟨v, rfl, l, vs, rfl, hl, hs⟩ := vs1 hv
  obtain ⟨_, _, _, rfl, ⟨t, rfl⟩, ⟨u, rfl⟩, ⟨x, rfl⟩⟩ := ss3 hs
  refine min_intList (xs := #[(a, t), (b, u), (c, x)]) r.1 ?_ (Nat.zero_lt_succ 2) ?_
  · have e : intItems #[(a, t), (b, u), (c, x)] = [Value.int a t, .int b u, .int c x].toArray := by simp [intItems]
    rw [e]; exact hl
  intro v h' tk hP hold
  refine hR _ (.sc (.int (imin3 a b c))) h' tk (.of_all hold) (g.keep_all hold) ?_ h
  unfold imin3
  by_cases hba : b < a
  · by_cases hc : c < b
    · have e : argBest (fun i j => decide (numAt #[(a, t), (b, u), (c, x)] i < numAt #[(a, t), (b, u), (c, x)] j)) 2 = 2 := by simp [argBest, numAt, hba, hc]
      simp [e, intItems] at hP
      simp only [hba, hc, if_true]; exact ⟨_, hP.symm⟩
    · have e : argBest (fun i j => decide (numAt #[(a, t), (b, u), (c, x)] i < numAt #[(a, t), (b, u), (c, x)] j)) 2 = 1 := by simp [argBest, numAt, hba, hc]
      simp [e, intItems] at hP
      simp only [hba, hc, if_true, if_false]; exact ⟨_, hP.symm⟩
  · by_cases hc : c < a
    · have e : argBest (fun i j => decide (numAt #[(a, t), (b, u), (c, x)] i < numAt #[(a, t), (b, u), (c, x)] j)) 2 = 2 := by simp [argBest, numAt, hba, hc]
      simp [e, intItems] at hP
      simp only [hba, hc, if_true, if_false]; exact ⟨_, hP.symm⟩
    · have e : argBest (fun i j => decide (numAt #[(a, t), (b, u), (c, x)] i < numAt #[(a, t), (b, u), (c, x)] j)) 2 = 0 := by simp [argBest, numAt, hba, hc]
      simp [e, intItems] at hP
      simp only [hba, hc, if_false]; exact ⟨_, hP.symm⟩
theorem len_l {l : List Sc} {Q : V → Prop} (hl : l.length ≤ 1000) (h : Q (.sc (.int l.length))) : CallSpec w hB p 0 (.builtin "len") [.lst l] Q := by
  intro s vals g hv A r E R hR
  obtain ⟨v, rfl, a, vs, rfl, hl', hs⟩ := vs1 hv
  have hlen := hs.length
  refine PyProof.Rows.len_list hl' ?_ ?_
  · rw [List.size_toArray, hlen]; lia
  · rw [List.size_toArray, hlen]; exact hR _ (.sc (.int l.length)) s.heap _ (.refl _) g ⟨_, rfl⟩ h
theorem len_t {l : List Sc} {Q : V → Prop} (hl : l.length ≤ 1000) (h : Q (.sc (.int l.length))) : CallSpec w hB p 0 (.builtin "len") [.tup l] Q := by
  intro s vals g hv A r E R hR
  obtain ⟨v, rfl, a, vs, rfl, hl', hs⟩ := vs1 hv
  have hlen := hs.length
  refine PyProof.Rows.len_tuple hl' ?_ ?_
  · rw [List.size_toArray, hlen]; lia
  · rw [List.size_toArray, hlen]; exact hR _ (.sc (.int l.length)) s.heap _ (.refl _) g ⟨_, rfl⟩ h
theorem divmod_i {a b : Int} {Q : V → Prop} (hb : b ≠ 0) (hl : b.natAbs.log2 < 9000) (h : Q (.tup [.int (a.fdiv b), .int (a.fmod b)])) : CallSpec w hB p 0 (.builtin "divmod") [.sc (.int a), .sc (.int b)] Q := by
  intro s vals g hv A r E R hR
  obtain ⟨va, l1, rfl, ⟨t, rfl⟩, hv1⟩ := vsC hv
  obtain ⟨vb, l2, rfl, ⟨u, rfl⟩, hv2⟩ := vsC hv1
  cases vsN hv2
  refine PyProof.Rows.divmod_int hb ?_ (.inl (PyProof.noPylong_of_log2 hl))
  refine hR _ _ _ _ (.of_all fun _ _ e => Heap.get?_push_of_some _ e) (g.keep_all fun _ _ e => Heap.get?_push_of_some _ e) (show IsV _ (.tup [.int (a.fdiv b), .int (a.fmod b)]) _ from ⟨_, [_, _], rfl, ⟨_, Heap.get?_push_size _ rfl, rfl, 0, rfl⟩, ⟨_, rfl⟩, ⟨_, rfl⟩, trivial⟩) h
end
end Mine
end

section -- Fw3
open PySem PySem.W PyProof.Rows PySem.Calls
namespace Mine
set_option maxRecDepth 100000
set_option linter.unusedVariables false
variable {p : Bool}

theorem ScsAre.get : ∀ {l : List Sc} {vs : List Value}, ScsAre l vs → ∀ {i : Nat} {a : Sc}, l[i]? = some a → ∃ v, vs[i]? = some v ∧ a.Is v
  | _ :: _, v :: _, ⟨x, _⟩, 0, _, e => by simp at e; subst e; exact ⟨v, by simp, x⟩
  | _ :: _, _ :: _, ⟨_, r⟩, i + 1, _, e => by simpa using r.get (by simpa using e)
  | [], _, _, _, _, e => by simp at e
  | _ :: _, [], x, _, _, _ => x.elim

noncomputable def scsOf : List V → Option (List Sc)
  | [] => some []
  | .sc a :: r => (scsOf r).map (a :: ·)
  | _ :: _ => none
theorem scsOf_are {h : Heap} : ∀ {ds : List V} {l : List Sc} {vs : List Value}, scsOf ds = some l → VsAre h ds vs → ScsAre l vs
  | [], _, [], e, _ => by cases e; trivial
  | .sc a :: r, l, v :: vs, e, ⟨x, y⟩ => by
    simp only [scsOf, Option.map_eq_some_iff] at e
    obtain ⟨l', e1, rfl⟩ := e
    exact ⟨x, scsOf_are e1 y⟩
  | [], _, _ :: _, _, x => x.elim
  | .sc _ :: _, _, [], _, x => x.elim
  | .tup _ :: _, _, _, e, _ => by cases e
  | .lst _ :: _, _, _, e, _ => by cases e
  | .fn _ :: _, _, _, e, _ => by cases e
  | .raw _ :: _, _, _, e, _ => by cases e

noncomputable def itemAt (l : List Sc) (k : Int) : Option Sc := if 0 ≤ k then l[k.toNat]? else if -(l.length : Int) ≤ k then l[(k + l.length).toNat]? else none
noncomputable def itemSpec : V → V → (V → Prop) → Prop
  | .tup l, .sc (.int k), Q => match itemAt l k with | some x => guardF (decide (1000 < l.length)) (Q (.sc x)) | none => False
  | .lst l, .sc (.int k), Q => match itemAt l k with | some x => guardF (decide (1000 < l.length)) (Q (.sc x)) | none => False
  | _, _, _ => False

noncomputable def condP (b : Bool) (P1 P2 : Prop) : Prop := (b = true → P1) ∧ (b = false → P2)
noncomputable def litB (op : Operator) : V → V → (V → Prop) → Prop
  | .sc a, .sc b, Q => binSpec op a b Q
  | .lst a, .lst b, Q => match op with
    | .Add => guardF (decide (1000 < a.length + b.length)) (Q (.lst (a ++ b)))
    | _ => False
  | _, _, _ => False
theorem scs_append : ∀ {l m : List Sc} {vs us : List Value}, ScsAre l vs → ScsAre m us → ScsAre (l ++ m) (vs ++ us)
  | [], _, [], _, _, y => y
  | _ :: _, _, _ :: _, _, ⟨a, b⟩, y => ⟨a, scs_append b y⟩
  | [], _, _ :: _, _, x, _ => x.elim
  | _ :: _, _, [], _, x, _ => x.elim
theorem lists_add {w : World} {hB : Heap} {a b : List Sc} {va vb : Value} {Q : V → Prop} {s : Shared} (g : Good hB s.heap) (hsz : ¬ 1000 < a.length + b.length) (h : Q (.lst (a ++ b))) (ha : IsV s.heap (.lst a) va) (hb : IsV s.heap (.lst b) vb) :
    TreeSpec w hB p 0 (binaryOp .Add va vb) s Q := by
  intro A r E R hR
  obtain ⟨l, vs, rfl, hl, hs⟩ := ha
  obtain ⟨m, us, rfl, hm, ht⟩ := hb
  obtain ⟨⟨cls, dd, data, sl⟩, ho, hc, n, hd⟩ := id hl
  obtain ⟨⟨cls2, dd2, data2, sl2⟩, ho2, hc2, n2, hd2⟩ := id hm
  simp only at hc hd hc2 hd2
  subst hc hd hc2 hd2
  have e : vs.toArray ++ us.toArray = (vs ++ us).toArray := by simp
  refine concat_meets ⟨_, ho, rfl⟩ ⟨_, ho2, rfl⟩ noFill_list_add seq_list_add PySem.F.slot_list_add PySem.F.entry_list_add (PySem.F.args_list_add_2 _ _) (list_addW l m vs.toArray us.toArray n n2 dd dd2 sl sl2 (by
    rw [List.size_toArray, List.size_toArray, hs.length, ht.length]
    exact Nat.le_trans (Nat.not_lt.mp hsz) (by decide))) ⟨ho, ho2, ?_⟩
  rw [e]
  have ka : ∀ b o, s.heap.get? b = some o → (s.heap.push { cls := .type "list", data := .seq (vs ++ us).toArray }).get? b = some o := fun b o e => Heap.get?_push_of_some _ e
  exact hR _ (.lst (a ++ b)) _ s.toks (.of_all ka) (g.keep_all ka) ⟨_, vs ++ us, rfl, ⟨_, Heap.get?_push_size _ rfl, rfl, 0, rfl⟩, scs_append hs ht⟩ h
noncomputable def litU (op : UnaryOp) : V → (V → Prop) → Prop
  | .sc a, Q => unSpec op a Q
  | _, _ => False
noncomputable def intsOf : List Sc → Option (List Int)
  | [] => some []
  | .int i :: r => (intsOf r).map (i :: ·)
  | _ :: _ => none
noncomputable def litC (op : CmpOp) : V → V → (Bool → Prop) → Prop
  | .sc a, .sc b, Q => cmpSpec op a b Q
  | .lst a, .lst b, Q => match op, intsOf a, intsOf b with
    | .NotEq, some x, some y => Q (!decide (x = y))
    | .Eq, some x, some y => Q (decide (x = y))
    | _, _, _ => False
  | _, _, _ => False
theorem intsOf_are : ∀ {l : List Sc} {ns : List Int} {vs : List Value}, intsOf l = some ns → ScsAre l vs → IntsAre vs ns
  | [], _, [], e, _ => by cases e; exact .nil
  | .int i :: r, ns, v :: vs, e, ⟨⟨t, x⟩, y⟩ => by
    simp only [intsOf, Option.map_eq_some_iff] at e
    obtain ⟨l', e1, rfl⟩ := e
    subst x
    exact .cons i t (intsOf_are e1 y)
  | [], _, _ :: _, _, x => x.elim
  | .int _ :: _, _, [], _, x => x.elim
  | .flt _ :: _, _, _, e, _ => by cases e
  | .bool _ :: _, _, _, e, _ => by cases e
  | .str _ :: _, _, _, e, _ => by cases e
theorem cmpV_sound {w : World} {op : CmpOp} {a b : V} {va vb : Value} {Q : Bool → Prop} {s : Shared} (h : litC op a b Q) (ha : IsV s.heap a va) (hb : IsV s.heap b vb)
    {A : Around} (hu : A.units + 64 < cLine) {E R : Value → Shared → Prop} (hR : ∀ c, Q c → R (.bool c) s) : wpAny (model prg w) A (compareOp op va vb) R E s := by
  cases a <;> cases b <;> try exact h.elim
  · exact cmp_sound h ha hb hR
  · simp only [litC] at h
    obtain ⟨a1, v1, rfl, l1, s1⟩ := ha
    obtain ⟨a2, v2, rfl, l2, s2⟩ := hb
    split at h
    · rename_i x y h1 h2
      exact ne_intsK l1 (intsOf_are h1 s1) l2 (intsOf_are h2 s2) hu (hR _ h)
    · rename_i x y h1 h2
      exact eq_intsK l1 (intsOf_are h1 s1) l2 (intsOf_are h2 s2) hu (hR _ h)
    · exact h.elim
noncomputable def notStar : Expr → Bool
  | .Starred .. => false
  | _ => true
noncomputable def notSlice : Expr → Bool
  | .Slice .. => false
  | _ => true
noncomputable def notComp : Expr → Bool
  | .ListComp .. | .SetComp .. | .DictComp .. => false
  | _ => true

/-- the text's own constants and what its global names call -/
noncomputable def gTab : List (Str × Sc) := [("ONE_THIRD", .flt 4599676419421066581), ("ONE_SIXTH", .flt 4595172819793696085), ("TWO_THIRD", .flt 4604180019048437077), ("_DIV_LIMIT", .int 4000), ("CRLF", .str "\r\n")]
noncomputable def cTab : List (Str × Value) := [("_div2n1n", .ref 38), ("_int2digits", .ref 52), ("_digits2int", .ref 59), ("_divmod_pos", .ref 66), ("int_divmod", .ref 73), ("rgb_to_yiq", .ref 80), ("yiq_to_rgb", .ref 87), ("rgb_to_hls", .ref 94),
  ("hls_to_rgb", .ref 101), ("_v", .ref 108), ("rgb_to_hsv", .ref 115), ("hsv_to_rgb", .ref 122), ("quotedata", .ref 139), ("_law_moved", .ref 144), ("_law_mail", .ref 149), ("_law_next", .ref 154), ("_law_read", .ref 159), ("_law_figures", .ref 166)]
noncomputable def bTab : List (Str × Value) := [("max", .builtin "max"), ("min", .builtin "min"), ("sum", .builtin "sum"), ("len", .builtin "len"), ("round", .builtin "round"), ("divmod", .builtin "divmod"), ("int", .type "int"), ("list", .type "list"),
  ("reversed", .type "reversed"), ("enumerate", .type "enumerate")]
noncomputable def isGlob (env : Env) (x : Str) : Bool := env.kindOf x == some .globalImplicit && !(x == ("__debug__" : Str))

/-- built-in calls on known data -/
noncomputable def fltS : Sc → Option UInt64
  | .flt x => some x
  | .int _ => none
  | .bool _ => none
  | .str _ => none
noncomputable def intS : Sc → Option Int
  | .int x => some x
  | .flt _ => none
  | .bool _ => none
  | .str _ => none
noncomputable def scV : V → Option Sc
  | .sc a => some a
  | .tup _ => none
  | .lst _ => none
  | .fn _ => none
  | .raw _ => none
noncomputable def lstV : V → Option (List Sc)
  | .lst l => some l
  | .sc _ => none
  | .tup _ => none
  | .fn _ => none
  | .raw _ => none
noncomputable def fltV (d : V) : Option UInt64 := (scV d).bind fltS
noncomputable def intV (d : V) : Option Int := (scV d).bind intS
theorem fltV_eq {d : V} {x : UInt64} (h : fltV d = some x) : d = .sc (.flt x) := by
  cases d with
  | sc a => cases a <;> first | (cases h; rfl) | cases h
  | _ => cases h
theorem intV_eq {d : V} {x : Int} (h : intV d = some x) : d = .sc (.int x) := by
  cases d with
  | sc a => cases a <;> first | (cases h; rfl) | cases h
  | _ => cases h
theorem intS_eq {d : Sc} {x : Int} (h : intS d = some x) : d = .int x := by
  cases d <;> first | (cases h; rfl) | cases h
theorem lstV_eq {d : V} {x : List Sc} (h : lstV d = some x) : d = .lst x := by
  cases d <;> first | (cases h; rfl) | cases h
/-- three of a kind, put to a function -/
noncomputable def flt3 (f : UInt64 → UInt64 → UInt64 → UInt64) (a b c : V) : Option UInt64 := (fltV a).bind fun x => (fltV b).bind fun y => (fltV c).bind fun z => some (f x y z)
theorem flt3_eq {f : UInt64 → UInt64 → UInt64 → UInt64} {a b c : V} {r : UInt64} (h : flt3 f a b c = some r) : ∃ x y z, a = .sc (.flt x) ∧ b = .sc (.flt y) ∧ c = .sc (.flt z) ∧ r = f x y z := by
  obtain ⟨x, h1, h⟩ := Option.bind_eq_some_iff.mp h
  obtain ⟨y, h2, h⟩ := Option.bind_eq_some_iff.mp h
  obtain ⟨z, h3, h⟩ := Option.bind_eq_some_iff.mp h
  cases h
  exact ⟨x, y, z, fltV_eq h1, fltV_eq h2, fltV_eq h3, rfl⟩
noncomputable def ints3 (f : Int → Int → Int → Int) (l : List Sc) : Option Int := match l with
  | [a, b, c] => (intS a).bind fun x => (intS b).bind fun y => (intS c).bind fun z => some (f x y z)
  | _ => none
noncomputable def int3 (f : Int → Int → Int → Int) (d : V) : Option Int := (lstV d).bind (ints3 f)
theorem ints3_eq {f : Int → Int → Int → Int} {r : Int} : ∀ {l : List Sc}, ints3 f l = some r → ∃ x y z, l = [.int x, .int y, .int z] ∧ r = f x y z
  | [a, b, c], h => by
    have h : ((intS a).bind fun x => (intS b).bind fun y => (intS c).bind fun z => some (f x y z)) = some r := h
    obtain ⟨x, h1, h⟩ := Option.bind_eq_some_iff.mp h
    obtain ⟨y, h2, h⟩ := Option.bind_eq_some_iff.mp h
    obtain ⟨z, h3, h⟩ := Option.bind_eq_some_iff.mp h
    cases h
    cases intS_eq h1; cases intS_eq h2; cases intS_eq h3
    exact ⟨x, y, z, rfl, rfl⟩
  | [], h => by cases h
  | [_], h => by cases h
  | [_, _], h => by cases h
  | _ :: _ :: _ :: _ :: _, h => by cases h
theorem int3_eq {f : Int → Int → Int → Int} {d : V} {r : Int} (h : int3 f d = some r) : ∃ x y z, d = .lst [.int x, .int y, .int z] ∧ r = f x y z := by
  obtain ⟨l, h1, h⟩ := Option.bind_eq_some_iff.mp h
  obtain ⟨x, y, z, rfl, e⟩ := ints3_eq h
  exact ⟨x, y, z, lstV_eq h1, e⟩
noncomputable def orElseP {α : Type} (o : Option α) (P : α → Prop) (R : Prop) : Prop := match o with
  | some x => P x
  | none => R
theorem orElseP_out {α : Type} {o : Option α} {P : α → Prop} {R : Prop} (h : orElseP o P R) : (∃ x, o = some x ∧ P x) ∨ R := by
  cases o with
  | some x => exact .inl ⟨x, rfl, h⟩
  | none => exact .inr h
noncomputable def biMax (ds : List V) (Q : V → Prop) (R : Prop) : Prop := match ds with
  | [d] => orElseP (int3 imax3 d) (fun r => Q (.sc (.int r))) R
  | [a, b, c] => orElseP (flt3 fmax3 a b c) (fun r => Q (.sc (.flt r))) R
  | _ => R
noncomputable def biMin (ds : List V) (Q : V → Prop) (R : Prop) : Prop := match ds with
  | [d] => orElseP (int3 imin3 d) (fun r => Q (.sc (.int r))) R
  | [a, b] => orElseP (intV a) (fun x => orElseP (intV b) (fun y => Q (.sc (.int (if y < x then y else x)))) R) R
  | [a, b, c] => orElseP (flt3 fmin3 a b c) (fun r => Q (.sc (.flt r))) R
  | _ => R
noncomputable def biOne (f : V → Prop → Prop) (ds : List V) (R : Prop) : Prop := match ds with
  | [d] => f d R
  | _ => R
noncomputable def biLen (Q : V → Prop) (d : V) (R : Prop) : Prop := match d with
  | .lst l => guardF (decide (1000 < l.length)) (Q (.sc (.int l.length)))
  | .tup l => guardF (decide (1000 < l.length)) (Q (.sc (.int l.length)))
  | .sc _ => R
  | .fn _ => R
  | .raw _ => R
noncomputable def biDm (ds : List V) (Q : V → Prop) (R : Prop) : Prop := match ds with
  | [a, b] => orElseP (intV a) (fun x => orElseP (intV b) (fun y => (y ≠ 0 ∧ y.natAbs.log2 < 9000) ∧ Q (.tup [.int (x.fdiv y), .int (x.fmod y)])) R) R
  | _ => R
noncomputable def biSpec (w : World) (hB : Heap) (p : Bool) (k : Nat) (fv : Value) (ds : List V) (Q : V → Prop) : Prop := match fv with
  | .builtin s =>
    if s = "max" then biMax ds Q (CallSpec w hB p k fv ds Q)
    else if s = "min" then biMin ds Q (CallSpec w hB p k fv ds Q)
    else if s = "round" then biOne (fun d R => orElseP (fltV d) (fun x => guardF (!Float64.isFinite x) (Q (.sc (.int (PySem.Flt.toInt Float64.nearestOf x))))) R) ds (CallSpec w hB p k fv ds Q)
    else if s = "len" then biOne (biLen Q) ds (CallSpec w hB p k fv ds Q)
    else if s = "divmod" then biDm ds Q (CallSpec w hB p k fv ds Q)
    else CallSpec w hB p k fv ds Q
  | .type s =>
    if s = "int" then biOne (fun d R => orElseP (fltV d) (fun x => guardF (!Float64.isFinite x) (Q (.sc (.int (PySem.Flt.toInt Float64.truncOf x))))) R) ds (CallSpec w hB p k fv ds Q)
    else CallSpec w hB p k fv ds Q
  | _ => CallSpec w hB p k fv ds Q
theorem biMax_sound {w : World} {hB : Heap} {k : Nat} {ds : List V} {Q : V → Prop} (h : biMax ds Q (CallSpec w hB p k (.builtin "max") ds Q)) : CallSpec w hB p k (.builtin "max") ds Q := by
  match ds, h with
  | [], h => exact h
  | [d], h =>
    rcases orElseP_out h with ⟨r, e, h⟩ | h
    · obtain ⟨x, y, z, rfl, rfl⟩ := int3_eq e
      exact (max3i h).mono (Nat.zero_le _) fun _ x => x
    · exact h
  | [a, b], h => exact h
  | [a, b, c], h =>
    rcases orElseP_out h with ⟨r, e, h⟩ | h
    · obtain ⟨x, y, z, rfl, rfl, rfl, rfl⟩ := flt3_eq e
      exact (max3f h).mono (Nat.zero_le _) fun _ x => x
    · exact h
  | _ :: _ :: _ :: _ :: _, h => exact h
theorem biMin_sound {w : World} {hB : Heap} {k : Nat} {ds : List V} {Q : V → Prop} (h : biMin ds Q (CallSpec w hB p k (.builtin "min") ds Q)) : CallSpec w hB p k (.builtin "min") ds Q := by
  match ds, h with
  | [], h => exact h
  | [d], h =>
    rcases orElseP_out h with ⟨r, e, h⟩ | h
    · obtain ⟨x, y, z, rfl, rfl⟩ := int3_eq e
      exact (min3i h).mono (Nat.zero_le _) fun _ x => x
    · exact h
  | [a, b], h =>
    rcases orElseP_out h with ⟨x, e, h⟩ | h
    · rcases orElseP_out h with ⟨y, e', h⟩ | h
      · cases intV_eq e; cases intV_eq e'
        exact (min2i h).mono (Nat.zero_le _) fun _ x => x
      · exact h
    · exact h
  | [a, b, c], h =>
    rcases orElseP_out h with ⟨r, e, h⟩ | h
    · obtain ⟨x, y, z, rfl, rfl, rfl, rfl⟩ := flt3_eq e
      exact (min3f h).mono (Nat.zero_le _) fun _ x => x
    · exact h
  | _ :: _ :: _ :: _ :: _, h => exact h
theorem biOne_sound {f : V → Prop → Prop} {ds : List V} {R : Prop} (h : biOne f ds R) (hf : ∀ d, ds = [d] → f d R → R) : R := by
  match ds, h with
  | [], h => exact h
  | [d], h => exact hf d rfl h
  | _ :: _ :: _, h => exact h
theorem bi_sound {w : World} {hB : Heap} {k : Nat} {fv : Value} {ds : List V} {Q : V → Prop} (h : biSpec w hB p k fv ds Q) : CallSpec w hB p k fv ds Q := by
  cases fv with
  | builtin s =>
    unfold biSpec at h
    by_cases h1 : s = "max"
    · subst h1; exact biMax_sound h
    · simp only [if_neg h1] at h
      by_cases h2 : s = "min"
      · subst h2; exact biMin_sound h
      · simp only [if_neg h2] at h
        by_cases h3 : s = "round"
        · subst h3
          refine biOne_sound h fun d e h => ?_
          subst e
          rcases orElseP_out h with ⟨x, e, h⟩ | h
          · cases fltV_eq e
            obtain ⟨h1, h2⟩ := guardF_out h
            exact (round_f (by simpa using h1) h2).mono (Nat.zero_le _) fun _ x => x
          · exact h
        · simp only [if_neg h3] at h
          by_cases h4 : s = "len"
          · subst h4
            refine biOne_sound h fun d e h => ?_
            subst e
            cases d with
            | lst l =>
              obtain ⟨h1, h2⟩ := guardF_out h
              exact (len_l (by simpa using h1) h2).mono (Nat.zero_le _) fun _ x => x
            | tup l =>
              obtain ⟨h1, h2⟩ := guardF_out h
              exact (len_t (by simpa using h1) h2).mono (Nat.zero_le _) fun _ x => x
            | _ => exact h
          · simp only [if_neg h4] at h
            by_cases h5 : s = "divmod"
            · subst h5
              match ds, h with
              | [], h => exact h
              | [d], h => exact h
              | [a, b], h =>
                rcases orElseP_out h with ⟨x, e, h⟩ | h
                · rcases orElseP_out h with ⟨y, e', h⟩ | h
                  · cases intV_eq e; cases intV_eq e'
                    exact (divmod_i h.1.1 h.1.2 h.2).mono (Nat.zero_le _) fun _ x => x
                  · exact h
                · exact h
              | _ :: _ :: _ :: _, h => exact h
            · simp only [if_neg h5] at h
              exact h
  | type s =>
    unfold biSpec at h
    by_cases h1 : s = "int"
    · subst h1
      refine biOne_sound h fun d e h => ?_
      subst e
      rcases orElseP_out h with ⟨x, e, h⟩ | h
      · cases fltV_eq e
        obtain ⟨h1, h2⟩ := guardF_out h
        exact (int_f (by simpa using h1) h2).mono (Nat.zero_le _) fun _ x => x
      · exact h
    · simp only [if_neg h1] at h
      exact h
  | _ => exact h

section
variable (w : World) (hB : Heap) (p : Bool) (k : Nat) (env : Env)
noncomputable def NameTo (ρ : Rho) (x : Str) (Q : V → Prop) : Prop := match ρ.lookup x with
  | some d => Q d
  | none => match gTab.lookup x with
    | some a => guardF (!(isGlob env x)) (Q (.sc a))
    | none => False
noncomputable def CallTo (ρ : Rho) (f : Str) (P : Value → Prop) : Prop := match ρ.lookup f with
  | some (.fn a) => P (.ref a)
  | some _ => False
  | none => match (cTab ++ bTab).lookup f with
    | some fv => guardF (!(isGlob env f)) (P fv)
    | none => False

noncomputable def cstSpec (c : Const) (Q : V → Prop) (R : Prop) : Prop := match c with
  | .int i => Q (.sc (.int i))
  | .float x => Q (.sc (.flt x))
  | .str x => Q (.sc (.str x))
  | .bool x => Q (.sc (.bool x))
  | _ => R
noncomputable def cmpE (rec : Expr → Rho → (V → Prop) → Prop) (l : Expr) (ops : List CmpOp) (rs : List Expr) (ρ : Rho) (Q : V → Prop) (R : Prop) : Prop := match ops with
  | [op] => (match rs with
    | [r] => if behindInMarks op r = true then R else rec l ρ fun a => rec r ρ fun b => litC op a b fun c => Q (.sc (.bool c))
    | _ => R)
  | _ => R
noncomputable def bitE (ρ : Rho) (x : Str) (Q : V → Prop) : Prop := match ρ.lookup x with
  | some d => orElseP (intV d) (fun i => Q (.sc (.int (Builtin.Int.intBits i)))) False
  | none => False
noncomputable def methE (o : Expr) (m : Str) (ap : Pos) (args : List Expr) (kws : List Keyword) (ps : Pos) (ρ : Rho) (Q : V → Prop) (R : Prop) : Prop := match o with
  | .Name x _ => (match args with
    | [] => (match kws with
      | [] => if (m == ("bit_length" : Str) && ap.endLine == ps.line) = true then bitE ρ x Q else R
      | _ :: _ => R)
    | _ :: _ => R)
  | _ => R
noncomputable def callE (recs : List Expr → Rho → (List V → Prop) → Prop) (f : Expr) (args : List Expr) (kws : List Keyword) (ps : Pos) (ρ : Rho) (Q : V → Prop) (R : Prop) : Prop := match f with
  | .Name g _ => (match kws with
    | [] => (match args with
      | e :: es => guardF (!(notStar e && es.all notStar)) (CallTo env ρ g fun fv => recs (e :: es) ρ fun ds => biSpec w hB p k fv ds Q)
      | [] => R)
    | _ :: _ => R)
  | .Attribute o m ap => methE o m ap args kws ps ρ Q R
  | _ => R
noncomputable def ifE (rec : Expr → Rho → (V → Prop) → Prop) (c b o : Expr) (ρ : Rho) (Q : V → Prop) (R : Prop) : Prop := match c with
  | .Name x _ => (match ρ.lookup x with
    | some d => orElseP (lstV d) (fun l => guardF (decide (1000 < l.length)) (condP (!l.isEmpty) (rec b ρ Q) (rec o ρ Q))) R
    | none => R)
  | _ => R

mutual
noncomputable def wpE : Nat → Expr → Rho → (V → Prop) → Prop
  | 0, e, ρ, Q => EvalSpec w hB p k env e ρ Q
  | n + 1, e, ρ, Q => match e with
    | .Constant c _ _ => cstSpec c Q (EvalSpec w hB p k env e ρ Q)
    | .Name x _ => NameTo env ρ x Q
    | .BinOp l op r _ => wpE n l ρ fun a => wpE n r ρ fun b => litB op a b Q
    | .UnaryOp op x _ => wpE n x ρ fun a => litU op a Q
    | .Compare l ops rs _ => cmpE (wpE n) l ops rs ρ Q (EvalSpec w hB p k env e ρ Q)
    | .Call f args kws ps => callE w hB p k env (wpEs n) f args kws ps ρ Q (EvalSpec w hB p k env e ρ Q)
    | .Tuple elts _ _ => wpEs n elts ρ fun ds => match scsOf ds with | some l => guardF (decide (1000 < l.length)) (Q (.tup l)) | none => False
    | .List elts _ => wpEs n elts ρ fun ds => match scsOf ds with | some l => guardF (decide (1000 < l.length)) (Q (.lst l)) | none => False
    | .IfExp c b o _ => ifE (wpE n) c b o ρ Q (EvalSpec w hB p k env e ρ Q)
    | .Subscript x i _ => if notSlice i = true then wpE n x ρ fun a => wpE n i ρ fun b => itemSpec a b Q else EvalSpec w hB p k env e ρ Q
    | e => EvalSpec w hB p k env e ρ Q
noncomputable def wpEs : Nat → List Expr → Rho → (List V → Prop) → Prop
  | 0, _, _, _ => False
  | n + 1, es, ρ, Q => match es with
    | [] => Q []
    | e :: es => if notStar e = true then wpE n e ρ fun d => wpEs n es ρ fun ds => Q (d :: ds) else False
end
end

noncomputable def EvalsSpec (w : World) (hB : Heap) (p : Bool) (k : Nat) (env : Env) (pos : Pos) (es : List Expr) (ρ : Rho) (Q : List V → Prop) : Prop :=
  ∀ (s : Shared), Good hB s.heap → Fm env s.heap ρ →
  ∀ A, Room k A → ∀ (E : Value → Shared → Prop) (R : List Value → Shared → Prop),
    (∀ vs ds h' tk, Keep p s.heap h' → Good hB h' → VsAre h' ds vs → Q ds → R vs { s with heap := h', toks := tk }) →
    wpAny (model prg w) A (spliced (backTo pos (starEach es env))) R E s

theorem starEach_cons {e : Expr} {es : List Expr} {env : Env} (h : notStar e = true) : starEach (e :: es) env = (false, eval e env) :: starEach es env := by
  cases e <;> first | rfl | cases h
theorem backTo_cons {pos : Pos} {t : Sem Value} {l : List (Bool × Sem Value)} : backTo pos ((false, t) :: l) = (false, t) :: backTo pos l := rfl
theorem any_back {pos : Pos} {env : Env} : ∀ {es : List Expr}, (∀ e ∈ es, notStar e = true) → (backTo pos (starEach es env)).any (·.1) = false
  | [], _ => rfl
  | e :: es, h => by
    rw [starEach_cons (h e (.head _)), backTo_cons]
    simp only [List.any_cons, Bool.false_or]
    exact any_back fun x hx => h x (.tail _ hx)

theorem sub_false {slice : Expr} {o i : Value} (h : notSlice slice = true) : subscripted slice false o i = operate [o, i] (getItem o i) := by
  cases slice <;> first | rfl | cases h

theorem Good.ns_stays {hB h : Heap} (g : Good hB h) {a : Addr} {m : Str → Option Value} (n : hB.Ns a m) : h.Ns a m := n.keeps g.stays
theorem Bs.gl {w : World} {hB : Heap} {mg mb : Str → Option Value} (B : Bs w hB mg mb) : hB.Ns mainGlobals mg := let ⟨_, _, T⟩ := B.T; T.g
theorem Bs.bl {w : World} {hB : Heap} {mg mb : Str → Option Value} (B : Bs w hB mg mb) : hB.Ns builtinsNs mb := let ⟨_, _, T⟩ := B.T; T.b
theorem Bs.nl {w : World} {hB : Heap} {mg mb : Str → Option Value} (B : Bs w hB mg mb) : hB.NoLimit := let ⟨_, _, T⟩ := B.T; T.nolimit

structure EnvOk (env : Env) : Prop where
  kind : env.scope.kind = .function
  globals : env.globals = mainGlobals
  builtins : env.builtins = builtinsNs

theorem okName_local {env : Env} {x : Str} (h : okName env x = true) : env.kindOf x = some .local ∧ (x == ("__debug__" : Str)) = false := by
  unfold okName at h
  simp only [Bool.and_eq_true, beq_iff_eq, Bool.not_eq_true'] at h
  exact h

theorem okCell_is {env : Env} {x : Str} (h : okCell env x = true) : (env.kindOf x = some .cell ∨ env.kindOf x = some .free) ∧ (x == ("__debug__" : Str)) = false ∧ (x == ("__classdict__" : Str)) = false := by
  unfold okCell at h
  simpa only [Bool.and_eq_true, Bool.or_eq_true, beq_iff_eq, Bool.not_eq_true'] using h
theorem name_held {w : World} {env : Env} (ok : EnvOk env) {s : Shared} {m : Str → Option Value} {x : Str} {p : Pos} {v : Value} {A : Around} {E R : Value → Shared → Prop}
    (n : s.heap.Ns env.locals m) (hx : Held env s.heap m x v) (h : R v s) : wpAny (model prg w) A (eval (.Name x p) env) R E s := by
  rcases hx with ⟨hx, hv⟩ | ⟨hx, c, hc, hv⟩
  · exact wpAny_Name (wpAny_loadName_local ok.kind (okName_local hx).1 n hv h) (okName_local hx).2
  · obtain ⟨h1, h2, h3⟩ := okCell_is hx
    refine wpAny_Name ?_ h2
    rcases h1 with h1 | h1
    · exact wpAny_loadName_cell ok.kind h1 hc hv h
    · exact wpAny_loadName_free ok.kind h1 hc hv h h3

theorem name_global {w : World} {hB : Heap} {mg mb : Str → Option Value} (B : Bs w hB mg mb) {env : Env} (ok : EnvOk env) {s : Shared} (g : Good hB s.heap) {x : Str} {p : Pos} {v : Value} {A : Around} {E R : Value → Shared → Prop}
    (hx : (env.kindOf x == some .globalImplicit && !(x == ("__debug__" : Str))) = true) (hv : mg x = some v ∨ (mg x = none ∧ mb x = some v)) (h : R v s) : wpAny (model prg w) A (eval (.Name x p) env) R E s := by
  simp only [Bool.and_eq_true, beq_iff_eq, Bool.not_eq_true'] at hx
  refine Calls.Name_function_global ok.kind hx.1 ?_ hx.2
  rcases hv with hv | ⟨h1, h2⟩
  · exact Calls.loadGlobal_global (by rw [ok.globals]; exact g.ns_stays B.gl) hv h
  · exact Calls.loadGlobal_builtin (by rw [ok.globals]; exact g.ns_stays B.gl) h1 (by rw [ok.builtins]; exact g.ns_stays B.bl) h2 h


theorem itemAt_cases {l : List Sc} {k : Int} {x : Sc} (h : itemAt l k = some x) (hl : l.length ≤ 1000) : (0 ≤ k ∧ k < 1000 ∧ k.toNat < l.length ∧ l[k.toNat]? = some x) ∨ (k < 0 ∧ -1000 ≤ k ∧ -(l.length : Int) ≤ k ∧ l[(k + l.length).toNat]? = some x) := by
  unfold itemAt at h
  split at h
  · have := (List.getElem?_eq_some_iff.mp h).1
    exact .inl ⟨by assumption, by omega, this, h⟩
  · split at h
    · exact .inr ⟨by omega, by omega, by assumption, h⟩
    · cases h

theorem item_sound {w : World} {hB : Heap} {s : Shared} (g : Good hB s.heap) {a b : V} {va vb : Value} {Q : V → Prop} {value slice : Expr} (h : itemSpec a b Q) (ha : IsV s.heap a va) (hb : IsV s.heap b vb) (hs : notSlice slice = true) :
    TreeSpec w hB p 0 (subscriptTail value slice va vb) s Q := by
  intro A r E R hR
  cases a with
  | sc x => exact absurd h (by simp [itemSpec])
  | fn x => exact absurd h (by simp [itemSpec])
  | raw x => exact absurd h (by simp [itemSpec])
  | tup l =>
    cases b with
    | sc y =>
      cases y with
      | int kk =>
        simp only [itemSpec] at h
        split at h
        · rename_i x hx
          obtain ⟨t, vs, rfl, ht, hl⟩ := ha
          obtain ⟨tk, rfl⟩ := hb
          obtain ⟨h1, h2⟩ := guardF_out h
          have h1 : l.length ≤ 1000 := by simpa using h1
          have hlen := hl.length
          rcases itemAt_cases hx h1 with ⟨c1, c2, c3, c4⟩ | ⟨c1, c2, c3, c4⟩
          · obtain ⟨v, e1, e2⟩ := hl.get c4
            refine item_tupleT (j := kk.toNat) (x := v) ht (by omega) (by omega) ?_ e1 (hR v (.sc x) s.heap s.toks (.refl _) g e2 h2) (sub_false hs)
            unfold seqIndex?
            rw [hlen]
            have : ¬ kk < 0 := by omega
            simp only [if_neg this]
            have : (0 ≤ kk && decide (kk < (l.length : Int))) = true := by simp; omega
            rw [if_pos (by simp; omega)]
          · obtain ⟨v, e1, e2⟩ := hl.get c4
            refine item_tupleT (j := (kk + l.length).toNat) (x := v) ht (by omega) (by omega) ?_ e1 (hR v (.sc x) s.heap s.toks (.refl _) g e2 h2) (sub_false hs)
            unfold seqIndex?
            rw [hlen]
            simp only [if_pos c1]
            rw [if_pos (by simp; omega)]
        · exact h.elim
      | _ => exact absurd h (by simp [itemSpec])
    | _ => exact absurd h (by simp [itemSpec])
  | lst l =>
    cases b with
    | sc y =>
      cases y with
      | int kk =>
        simp only [itemSpec] at h
        split at h
        · rename_i x hx
          obtain ⟨t, vs, rfl, ht, hl⟩ := ha
          obtain ⟨tk, rfl⟩ := hb
          obtain ⟨h1, h2⟩ := guardF_out h
          have h1 : l.length ≤ 1000 := by simpa using h1
          have hlen := hl.length
          rcases itemAt_cases hx h1 with ⟨c1, c2, c3, c4⟩ | ⟨c1, c2, c3, c4⟩
          · obtain ⟨v, e1, e2⟩ := hl.get c4
            refine tail_any ht.typeIs slot_list_getitem.lookup (wpAny_getItem_list ht c1 (by omega) (by simpa using e1) (hR v (.sc x) s.heap s.toks (.refl _) g e2 h2)) (sub_false hs)
          · obtain ⟨v, e1, e2⟩ := hl.get c4
            refine tail_any ht.typeIs slot_list_getitem.lookup (wpAny_getItem_list_neg ht c1 (by simp only [List.size_toArray]; omega) (by omega) (by simpa [hlen] using e1) (hR v (.sc x) s.heap s.toks (.refl _) g e2 h2)) (sub_false hs)
        · exact h.elim
      | _ => exact absurd h (by simp [itemSpec])
    | _ => exact absurd h (by simp [itemSpec])

theorem toks_next {s : Shared} {h' : Heap} {tk tk' : Nat} {h'' : Heap} : ({ ({ s with heap := h', toks := tk } : Shared) with heap := h'', toks := tk' } : Shared) = { s with heap := h'', toks := tk' } := rfl

/-- one spec after the other -/
theorem TreeSpec.then {w : World} {hB : Heap} {k : Nat} {t : Sem Value} {s : Shared} {Q : V → Prop} (x : TreeSpec w hB p k t s Q) {A : Around} (r : Room k A) {E : Value → Shared → Prop} {R : Value → Shared → Prop}
    (h : ∀ v d h' tk, Keep p s.heap h' → Good hB h' → IsV h' d v → Q d → R v { s with heap := h', toks := tk }) : wpAny (model prg w) A t R E s := x A r E R h

theorem alloc_keep (h : Heap) (o : Obj) : ∀ b x, h.get? b = some x → (h.push o).get? b = some x := fun b x e => Heap.get?_push_of_some _ e

theorem tuple_made {hB : Heap} {s : Shared} (g : Good hB s.heap) {l : List Sc} {vs : List Value} (hl : ScsAre l vs) :
    Good hB (s.heap.push { cls := .type "tuple", data := .seq vs.toArray }) ∧ IsV (s.heap.push { cls := .type "tuple", data := .seq vs.toArray }) (.tup l) (.ref s.heap.objs.size) :=
  ⟨g.keep_all (alloc_keep _ _), _, vs, rfl, ⟨_, Heap.get?_push_size _ rfl, rfl, 0, rfl⟩, hl⟩
theorem list_made {hB : Heap} {s : Shared} (g : Good hB s.heap) {l : List Sc} {vs : List Value} (hl : ScsAre l vs) :
    Good hB (s.heap.push { cls := .type "list", data := .seq vs.toArray }) ∧ IsV (s.heap.push { cls := .type "list", data := .seq vs.toArray }) (.lst l) (.ref s.heap.objs.size) :=
  ⟨g.keep_all (alloc_keep _ _), _, vs, rfl, ⟨_, Heap.get?_push_size _ rfl, rfl, 0, rfl⟩, hl⟩

theorem callee_with {w : World} {hB : Heap} {A : Around} {s : Shared} {pos : Pos} {fv : Value} {t : Sem Value} {rest : List (Bool × Sem Value)} {E R : Value → Shared → Prop} (hc : Callee hB fv)
    (hp : rest.any (·.1) = false)
    (h : wpAny (model prg w) A (spliced ((false, t) :: rest)) (fun vs s₁ => (∀ b o, hB.get? b = some o → s₁.heap.get? b = some o) ∧ wpAny (model prg w) A (call fv vs) R E s₁) E s) :
    wpAny (model prg w) A (callWith pos fv [] ((false, t) :: rest) []) R E s := by
  rcases hc with ⟨id, rfl⟩ | ⟨T, rfl⟩ | ⟨a, o, fd, rfl, e1, e2⟩
  · exact Calls.callWith_builtin (by simpa using hp) (Calls.evalArgs_plain (wpAny_mono h (fun vs s₁ x => x.2) fun _ _ x => x))
  · exact PyProof.Rows.callWith_type (by simpa using hp) (Calls.evalArgs_plain (wpAny_mono h (fun vs s₁ x => x.2) fun _ _ x => x))
  · exact Calls.callWith_function (o := o) (fd := fd) (Calls.evalArgs_plain (wpAny_mono h (fun vs s₁ x => ⟨⟨x.1 _ _ e1, e2⟩, x.2⟩) fun _ _ x => x))



noncomputable def obAt (w : World) (a : Addr) : Obj := ((KK w).lookup a).getD default
noncomputable def fnAt (w : World) (a : Addr) : FuncData := match (obAt w a).data with | .func fd => fd | _ => default
noncomputable def bodyAt (w : World) (a : Addr) : List Stmt := match (fnAt w a).body with | .stmts b => b | _ => []

theorem cTab_all {w : World} {hB : Heap} {mg mb : Str → Option Value} (B : Bs w hB mg mb) : ∀ q ∈ cTab, mg q.1 = some q.2 ∧ Callee hB q.2 := by
  have key : ∀ (x : Str) (a : Addr), nsIn (KK w) mainGlobals x = some (some (.ref a)) → (KK w).lookup a = some (obAt w a) → (obAt w a).data = .func (fnAt w a) → mg x = some (.ref a) ∧ Callee hB (.ref a) := fun x a h1 h2 h3 =>
    ⟨mg_of B.X B.gl h1, .inr (.inr ⟨a, _, _, rfl, B.X _ _ h2, h3⟩)⟩
  intro q hq
  simp only [cTab, List.mem_cons, List.mem_nil_iff, or_false] at hq
  rcases hq with rfl | rfl | rfl | rfl | rfl | rfl | rfl | rfl | rfl | rfl | rfl | rfl | rfl | rfl | rfl | rfl | rfl | rfl
  all_goals exact key _ _ (by kernel_rfl) (by kernel_rfl) (by kernel_rfl)
theorem bTab_all {w : World} {hB : Heap} {mg mb : Str → Option Value} (B : Bs w hB mg mb) : ∀ q ∈ bTab, (mg q.1 = none ∧ mb q.1 = some q.2) ∧ Callee hB q.2 := by
  obtain ⟨_, _, T⟩ := B.T
  have key : ∀ (x : Str) (v : Value), nsIn (KK w) mainGlobals x = some none → (x == ("__name__" : Str)) = false → bootBuiltins x = some v → mg x = none ∧ mb x = some v := fun x v h1 h2 h3 =>
    ⟨mg_none_of B.X B.gl h1, by rw [T.builtins x (by simpa using h2)]; exact h3⟩
  intro q hq
  simp only [bTab, List.mem_cons, List.mem_nil_iff, or_false] at hq
  rcases hq with rfl | rfl | rfl | rfl | rfl | rfl | rfl | rfl | rfl | rfl
  all_goals refine ⟨key _ _ (by kernel_rfl) (by decide) (by kernel_rfl), ?_⟩
  all_goals first | exact .inl ⟨_, rfl⟩ | exact .inr (.inl ⟨_, rfl⟩)
theorem gTab_all {w : World} {hB : Heap} {mg mb : Str → Option Value} (B : Bs w hB mg mb) : ∀ q ∈ gTab, ∃ v, mg q.1 = some v ∧ q.2.Is v := by
  have key : ∀ (x : Str) (v : Value), nsIn (KK w) mainGlobals x = some (some v) → mg x = some v := fun x v h1 => mg_of B.X B.gl h1
  intro q hq
  simp only [gTab, List.mem_cons, List.mem_nil_iff, or_false] at hq
  rcases hq with rfl | rfl | rfl | rfl | rfl
  · exact ⟨_, key _ (.float 4599676419421066581 368) (by kernel_rfl), _, rfl⟩
  · exact ⟨_, key _ (.float 4595172819793696085 372) (by kernel_rfl), _, rfl⟩
  · exact ⟨_, key _ (.float 4604180019048437077 376) (by kernel_rfl), _, rfl⟩
  · exact ⟨_, key _ (.int 4000 284) (by kernel_rfl), _, rfl⟩
  · exact ⟨_, key _ (.str "\r\n" 533) (by kernel_rfl), _, rfl⟩
theorem look_mem {α : Type} {x : Str} {a : α} : ∀ {l : List (Str × α)}, l.lookup x = some a → (x, a) ∈ l
  | [], e => by simp at e
  | (y, b) :: l, e => by
    rw [List.lookup_cons] at e
    by_cases hy : x = y
    · subst hy
      simp only [beq_self_eq_true, Option.some.injEq] at e
      subst e; exact .head _
    · rw [beq_false_of_ne hy] at e
      exact .tail _ (look_mem e)
theorem callTo_out {w : World} {hB : Heap} {mg mb : Str → Option Value} (B : Bs w hB mg mb) {env : Env} {ρ : Rho} {f : Str} {P : Value → Prop} (h : CallTo env ρ f P) :
    (∃ a, ρ.lookup f = some (.fn a) ∧ P (.ref a)) ∨ ∃ fv, GlobalIs hB mg mb env f fv ∧ P fv := by
  unfold CallTo at h
  split at h
  · rename_i a ha
    exact .inl ⟨a, ha, h⟩
  · exact h.elim
  · right
    split at h
    · rename_i fv hf
      obtain ⟨h1, h2⟩ := guardF_out h
      have h1 : isGlob env f = true := by simpa using h1
      refine ⟨fv, ⟨h1, ?_⟩, h2⟩
      rcases List.mem_append.mp (look_mem hf) with hm | hm
      · have := cTab_all B _ hm; exact ⟨.inl this.1, this.2⟩
      · have := bTab_all B _ hm; exact ⟨.inr this.1, this.2⟩
    · exact h.elim

theorem truthyL {w : World} {hB : Heap} {s : Shared} (g : Good hB s.heap) {l : List Sc} {v : Value} (hv : IsV s.heap (.lst l) v) (hl : l.length ≤ 1000) {A : Around} {E : Value → Shared → Prop} {R : Bool → Shared → Prop}
    (hR : ∀ tk, R (!l.isEmpty) { s with toks := tk }) : wpAny (model prg w) A (truthy v) R E s := by
  obtain ⟨a, vs, rfl, h1, h2⟩ := hv
  have hlen := h2.length
  refine wpAny_truthy_list h1 (by rw [List.size_toArray, hlen]; omega) ?_
  have e : (!vs.toArray.isEmpty) = (!l.isEmpty) := by
    cases l <;> cases vs <;> simp_all
  rw [e]; exact hR _

theorem bitlen_sound {w : World} {hB : Heap} {k : Nat} {env : Env} (ok : EnvOk env) {x : Str} {xp ap ps : Pos} {ρ : Rho} {i : Int} {Q : V → Prop} (hx : ρ.lookup x = some (.sc (.int i))) (hline : (ap.endLine == ps.line) = true) (h : Q (.sc (.int (Builtin.Int.intBits i)))) :
    EvalSpec w hB p k env (.Call (.Attribute (.Name x xp) "bit_length" ap) [] [] ps) ρ Q := by
  intro s g hl A r E R hR
  refine wpAny_Call_method (T := "int") (id := "int.bit_length") rfl rfl hline PySem.F.plainAttrs_int PySem.F.slot_int_bit_length PySem.F.type_int_bit_length ?_
  obtain ⟨m, hn, hl⟩ := hl.m
  obtain ⟨v, a, t, rfl⟩ := hl _ _ hx
  refine name_held ok hn a ⟨typeIs_int _ _ _, fun a e => (by cases e), ?_⟩
  refine Calls.callWith_builtin rfl (PySem.evalArgs_none ?_)
  exact PyProof.Rows.call_int_bit_length (hR _ (.sc (.int _)) s.heap _ (.refl _) g ⟨_, rfl⟩ h)

theorem wpE_sound {w : World} {hB : Heap} {mg mb : Str → Option Value} (B : Bs w hB mg mb) {k : Nat} {env : Env} (ok : EnvOk env) : ∀ n : Nat,
    (∀ e ρ Q, wpE w hB p k env n e ρ Q → EvalSpec w hB p k env e ρ Q) ∧ (∀ es ρ Q, wpEs w hB p k env n es ρ Q → ∀ pos, EvalsSpec w hB p k env pos es ρ Q) := by
  intro n
  induction n with
  | zero => exact ⟨fun e ρ Q h => h, fun es ρ Q h => h.elim⟩
  | succ n ih =>
    obtain ⟨ih1, ih2⟩ := ih
    constructor
    · intro e ρ Q h
      unfold wpE at h
      split at h
      · rename_i c kk q
        unfold cstSpec at h
        split at h
        · intro s g hl A r E R hR
          exact wpAny_Constant_int (hR _ (.sc (.int _)) s.heap _ (.refl _) g ⟨_, rfl⟩ h)
        · intro s g hl A r E R hR
          exact PySem.wpAny_Constant_float (hR _ (.sc (.flt _)) s.heap _ (.refl _) g ⟨_, rfl⟩ h)
        · intro s g hl A r E R hR
          exact Calls.Constant_str (hR _ (.sc (.str _)) s.heap _ (.refl _) g ⟨_, rfl⟩ h)
        · intro s g hl A r E R hR
          exact wpAny_Constant_bool (hR _ (.sc (.bool _)) s.heap s.toks (.refl _) g rfl h)
        · exact h
      · intro s g hl A r E R hR
        unfold NameTo at h
        split at h
        · rename_i d hd
          obtain ⟨m, hn, hl⟩ := hl.m
          obtain ⟨v, a, c⟩ := hl _ _ hd
          exact name_held ok hn a (hR v d s.heap s.toks (.refl _) g c h)
        · split at h
          · rename_i a ha
            obtain ⟨h1, h2⟩ := guardF_out h
            have h1 := (Bool.not_eq_false _).mp (by simpa using h1)
            obtain ⟨v, h3, h4⟩ := gTab_all B _ (look_mem ha)
            exact name_global B ok g h1 (.inl h3) (hR v (.sc a) s.heap s.toks (.refl _) g h4 h2)
          · exact h.elim
      · rename_i l op rr p
        intro s g hl A r E R hR
        refine wpAny_BinOp (ih1 _ _ _ h s g hl A r E _ fun va da h₁ t₁ k1 g1 i1 q1 => ?_)
        refine ih1 _ _ _ q1 _ g1 (hl.keep g k1) A r E _ fun vb db h₂ t₂ k2 g2 i2 q2 => ?_
        cases da <;> cases db <;> try exact q2.elim
        rotate_left
        · cases op <;> try exact q2.elim
          obtain ⟨q3, q4⟩ := guardF_out q2
          refine lists_add (w := w) g2 (by simpa using q3) q4 (i1.keep g1 k2) i2 A (r.le (Nat.zero_le _)) E R fun v d h₃ t₃ k3 g3 i3 q3 => hR v d h₃ t₃ ((k1.trans k2).trans k3) g3 i3 q3
        refine bin_sound (w := w) g2 q2 i1 i2 A (r.le (Nat.zero_le _)) E R fun v d h₃ t₃ k3 g3 i3 q3 => hR v d h₃ t₃ ((k1.trans k2).trans k3) g3 i3 q3
      · intro s g hl A r E R hR
        refine wpAny_UnaryOp (ih1 _ _ _ h s g hl A r E _ fun va da h₁ t₁ k1 g1 i1 q1 => ?_)
        cases da <;> try exact q1.elim
        exact un_sound (w := w) g1 q1 i1 A (r.le (Nat.zero_le _)) E R fun v d h₃ t₃ k3 g3 i3 q3 => hR v d h₃ t₃ (k1.trans k3) g3 i3 q3
      · rename_i l ops rs ps
        unfold cmpE at h
        match ops, rs, h with
        | [op], [rr], h =>
          dsimp only at h
          split at h
          · exact h
          · rename_i hm
            intro s g hl A r E R hR
            refine wpAny_Compare1 (ih1 _ _ _ h s g hl A r E _ fun va da h₁ t₁ k1 g1 i1 q1 => ?_) (by simpa using hm)
            refine ih1 _ _ _ q1 _ g1 (hl.keep g k1) A r E _ fun vb db h₂ t₂ k2 g2 i2 q2 => ?_
            exact cmpV_sound q2 (i1.keep g1 k2) i2 (by have := r.2.2; omega) fun c hc => hR _ (.sc (.bool c)) h₂ t₂ (k1.trans k2) g2 rfl hc
        | [], _, h => exact h
        | _ :: _ :: _, _, h => exact h
        | [_], [], h => exact h
        | [_], _ :: _ :: _, h => exact h
      · rename_i ff args kws p
        unfold callE at h
        split at h
        · rename_i f fp
          match kws, args, h with
          | [], e :: args, h =>
            obtain ⟨hst, h⟩ := guardF_out h
            have hst : notStar e = true ∧ args.all notStar = true := by simpa using hst
            intro s g hl A r E R hR
            have hany := any_back (pos := p) (env := env) (fun x hx => List.all_eq_true.mp hst.2 x hx)
            refine PyProof.Rows.Call_Name (trees := (false, eval e env) :: backTo p (starEach args env)) (by rw [starEach_cons hst.1, backTo_cons]) ?_
            rcases callTo_out B h with ⟨fa, hfa, h⟩ | ⟨fv, ⟨hk, hv, hc⟩, h⟩
            · have key := ih2 _ _ _ h p s g hl A r
              rw [starEach_cons hst.1, backTo_cons] at key
              obtain ⟨m, hn, hloc⟩ := hl.m
              obtain ⟨v, hh, rfl, fo, fd, fe, fdd⟩ := hloc _ _ hfa
              refine name_held ok hn hh ?_
              refine Calls.callWith_function (o := fo) (fd := fd) (Calls.evalArgs_plain ?_)
              refine key E _ fun vs ds h₁ t₁ k1 g1 i1 q1 => ⟨⟨k1 _ _ (.inr (g.ne fe fun ps q => by rw [q] at fdd; cases fdd)) fe, fdd⟩, ?_⟩
              exact bi_sound q1 _ vs g1 i1 A r E R fun v d h₃ t₃ k3 g3 i3 q3 => hR v d h₃ t₃ (k1.trans k3) g3 i3 q3
            · have key := ih2 _ _ _ h p s g hl A r
              rw [starEach_cons hst.1, backTo_cons] at key
              refine name_global B ok g hk hv (callee_with hc hany ?_)
              refine key E _ fun vs ds h₁ t₁ k1 g1 i1 q1 => ⟨g1.stays, ?_⟩
              exact bi_sound q1 _ vs g1 i1 A r E R fun v d h₃ t₃ k3 g3 i3 q3 => hR v d h₃ t₃ (k1.trans k3) g3 i3 q3
          | [], [], h => exact h
          | _ :: _, _, h => exact h
        · rename_i oo m ap
          unfold methE at h
          split at h
          · rename_i x xp
            match args, kws, h with
            | [], [], h =>
              by_cases hm : (m == ("bit_length" : Str) && ap.endLine == p.line) = true
              · have hbit : bitE ρ x Q := by
                  have h' := h
                  simp only [if_pos hm] at h'
                  exact h'
                clear h
                simp only [Bool.and_eq_true, beq_iff_eq] at hm
                obtain ⟨rfl, hm⟩ := hm
                unfold bitE at hbit
                split at hbit
                · rename_i d hd
                  rcases orElseP_out hbit with ⟨i, e, hq⟩ | hq
                  · cases intV_eq e
                    exact bitlen_sound ok hd (by simpa using hm) hq
                  · exact hq.elim
                · exact hbit.elim
              · have h' := h
                simp only [if_neg hm] at h'
                exact h'
            | [], _ :: _, h => exact h
            | _ :: _, _, h => exact h
          · exact h
        · exact h
      · rename_i elts kk p
        intro s g hl A r E R hR
        refine PyProof.Rows.Tuple_ (ih2 _ _ _ h p s g hl A r E _ fun vs ds h₁ t₁ k1 g1 i1 q1 => ?_)
        dsimp only at q1
        split at q1
        · rename_i l hl'
          obtain ⟨q2, q3⟩ := guardF_out q1
          have hs := scsOf_are hl' i1
          have tm := tuple_made (s := { s with heap := h₁, toks := t₁ }) g1 hs
          have hlen := hs.length
          have q2 : l.length ≤ 1000 := by simpa using q2
          refine wpAny_newTuple (hR _ (.tup l) _ t₁ (k1.trans (.of_all (alloc_keep _ _))) tm.1 tm.2 q3) (by rw [hlen]; exact Nat.le_trans q2 (by decide))
        · exact q1.elim
      · rename_i elts p
        intro s g hl A r E R hR
        refine PyProof.Rows.List_ (ih2 _ _ _ h p s g hl A r E _ fun vs ds h₁ t₁ k1 g1 i1 q1 => ?_)
        dsimp only at q1
        split at q1
        · rename_i l hl'
          obtain ⟨q2, q3⟩ := guardF_out q1
          have hs := scsOf_are hl' i1
          have tm := list_made (s := { s with heap := h₁, toks := t₁ }) g1 hs
          have hlen := hs.length
          have q2 : l.length ≤ 1000 := by simpa using q2
          refine wpAny_newList (hR _ (.lst l) _ t₁ (k1.trans (.of_all (alloc_keep _ _))) tm.1 tm.2 q3) (by rw [hlen]; exact Nat.le_trans q2 (by decide))
        · exact q1.elim
      · rename_i cc b o ps
        unfold ifE at h
        split at h
        · rename_i x xp
          split at h
          · rename_i d hlx
            rcases orElseP_out h with ⟨l, e, h⟩ | h
            · cases lstV_eq e
              obtain ⟨h1, h2⟩ := guardF_out h
              intro s g hl A r E R hR
              have hl' := hl
              obtain ⟨m, hn, hloc⟩ := hl.m
              obtain ⟨v, hh, hi⟩ := hloc _ _ hlx
              refine PyProof.Rows.IfExp_ (PyProof.Rows.isTrue_plain (name_held ok hn hh (truthyL g hi (by simpa using h1) fun tk => ?_)) rfl)
              cases hb : (!l.isEmpty) with
              | true => exact ih1 _ _ _ (h2.1 hb) { s with toks := tk } g hl' A r E R hR
              | false => exact ih1 _ _ _ (h2.2 hb) { s with toks := tk } g hl' A r E R hR
            · exact h
          · exact h
        · exact h
      · split at h
        · rename_i hs
          intro s g hl A r E R hR
          refine PyProof.Rows.Subscript_ (ih1 _ _ _ h s g hl A r E _ fun va da h₁ t₁ k1 g1 i1 q1 => ?_)
          refine ih1 _ _ _ q1 _ g1 (hl.keep g k1) A r E _ fun vb db h₂ t₂ k2 g2 i2 q2 => ?_
          exact item_sound (w := w) g2 q2 (i1.keep g1 k2) i2 hs A (r.le (Nat.zero_le _)) E R fun v d h₃ t₃ k3 g3 i3 q3 => hR v d h₃ t₃ ((k1.trans k2).trans k3) g3 i3 q3
        · exact h
      · exact h
    · intro es ρ Q h pos
      unfold wpEs at h
      split at h
      · intro s g hl A r E R hR
        exact Calls.spliced_nil (hR [] [] s.heap s.toks (.refl _) g trivial h)
      · rename_i e es
        split at h
        · rename_i hs
          intro s g hl A r E R hR
          rw [starEach_cons hs, backTo_cons]
          refine Calls.spliced_cons (ih1 _ _ _ h s g hl A r E _ fun va da h₁ t₁ k1 g1 i1 q1 => ?_)
          refine ih2 _ _ _ q1 pos _ g1 (hl.keep g k1) A r E _ fun vs ds h₂ t₂ k2 g2 i2 q2 => ?_
          exact hR (va :: vs) (da :: ds) h₂ t₂ (k1.trans k2) g2 ⟨i1.keep g1 k2, i2⟩ q2
        · exact h.elim
end Mine
end

section -- Fw4
open PySem PySem.W PyProof.Rows PySem.Calls
namespace Mine
set_option maxRecDepth 100000
set_option linter.unusedVariables false
variable {p : Bool}
set_option linter.unusedSimpArgs false

section
variable (w : World) (hB : Heap) (p : Bool) (k : Nat) (env : Env)
noncomputable def cmpT (rec : Expr → Rho → (V → Prop) → Prop) (l : Expr) (ops : List CmpOp) (rs : List Expr) (ρ : Rho) (Q : Bool → Prop) (R : Prop) : Prop := match ops with
  | [op] => (match rs with
    | [r] => if behindInMarks op r = true then R else rec l ρ fun a => rec r ρ fun b => litC op a b Q
    | _ => R)
  | _ => R
noncomputable def boolT (rec : Expr → Rho → (Bool → Prop) → Prop) (op : BoolOp) (xs : List Expr) (ρ : Rho) (Q : Bool → Prop) (R : Prop) : Prop := match xs with
  | [x, y] => (match op with
    | .And => rec x ρ fun b => condP b (rec y ρ Q) (Q false)
    | .Or => rec x ρ fun b => condP b (Q true) (rec y ρ Q))
  | _ => R
noncomputable def nameT (ρ : Rho) (x : Str) (Q : Bool → Prop) (R : Prop) : Prop := match ρ.lookup x with
  | some d => orElseP (intV d) (fun i => Q (i != 0)) (orElseP (lstV d) (fun l => guardF (decide (1000 < l.length)) (Q (!l.isEmpty))) R)
  | none => R
noncomputable def wpT : Nat → Expr → Rho → (Bool → Prop) → Prop
  | 0, e, ρ, Q => TestSpec w hB p k env e ρ Q
  | n + 1, e, ρ, Q => match e with
    | .Compare l ops rs _ => cmpT (wpE w hB p k env n) l ops rs ρ Q (TestSpec w hB p k env e ρ Q)
    | .BoolOp op xs _ => boolT (wpT n) op xs ρ Q (TestSpec w hB p k env e ρ Q)
    | .Name x _ => nameT ρ x Q (TestSpec w hB p k env e ρ Q)
    | e => TestSpec w hB p k env e ρ Q

noncomputable def nameOf : Expr → Option Str
  | .Name x _ => some x
  | _ => none
noncomputable def namesOf : List Expr → Option (List Str)
  | [] => some []
  | e :: r => (nameOf e).bind fun x => (namesOf r).map (x :: ·)
theorem nameOf_eq {e : Expr} {x : Str} (h : nameOf e = some x) : ∃ q, e = .Name x q := by
  unfold nameOf at h
  split at h
  · cases h; exact ⟨_, rfl⟩
  · cases h
/-- what an unpacking stores -/
noncomputable def unpackTo : List Str → List Sc → Rho → Option Rho
  | [], [], ρ => some ρ
  | x :: xs, a :: l, ρ => unpackTo xs l ((x, .sc a) :: ρ)
  | _, _, _ => none

noncomputable def isTupleE : Expr → Bool
  | .Tuple .. => true
  | _ => false

noncomputable def seqOut (P : Rho → Prop) (Q : Out → Prop) : Out → Prop
  | .nxt ρ => P ρ
  | o => Q o

noncomputable def scsV : V → List Sc
  | .tup l => l
  | .lst l => l
  | _ => []

noncomputable def unpackK (xs : List Str) (ρ : Rho) (P : Rho → Prop) : V → Prop
  | .tup l => match unpackTo xs l ρ with
    | some ρ' => P ρ'
    | none => False
  | .lst l => match unpackTo xs l ρ with
    | some ρ' => P ρ'
    | none => False
  | _ => False

noncomputable def retE (o : Option Expr) (f : Expr → Prop) (R : Prop) : Prop := match o with
  | some e => f e
  | none => R
noncomputable def asgE (ts : List Expr) (fN : Str → Prop) (fT : List Expr → Prop) (R : Prop) : Prop := match ts with
  | [t] => (match t with
    | .Name x _ => fN x
    | .Tuple elts _ _ => fT elts
    | _ => R)
  | _ => R
noncomputable def wpS : Nat → List Stmt → Rho → (Out → Prop) → Prop
  | 0, ss, ρ, Q => ExecSpec w hB p k env (execs ss env) ρ Q
  | n + 1, ss, ρ, Q => match ss with
    | [] => Q (.nxt ρ)
    | st :: rest => match st with
      | .Return o _ => retE o (fun e => wpE w hB p k env n e ρ fun d => Q (.ret d)) (ExecSpec w hB p k env (exec st env) ρ (seqOut (fun ρ' => wpS n rest ρ' Q) Q))
      | .Assign ts e _ => asgE ts (fun x => if notComp e = true then guardF (!(okStore env x)) (wpE w hB p k env n e ρ fun d => wpS n rest ((x, d) :: ρ) Q)
          else ExecSpec w hB p k env (exec st env) ρ (seqOut (fun ρ' => wpS n rest ρ' Q) Q))
        (fun elts => match namesOf elts with
          | some xs => guardF (isTupleE e || !(xs.all (okStore env))) (wpE w hB p k env n e ρ (unpackK xs ρ fun ρ' => wpS n rest ρ' Q))
          | none => ExecSpec w hB p k env (exec st env) ρ (seqOut (fun ρ' => wpS n rest ρ' Q) Q))
        (ExecSpec w hB p k env (exec st env) ρ (seqOut (fun ρ' => wpS n rest ρ' Q) Q))
      | .If test body orelse _ => wpT w hB p k env n test ρ fun b => condP b (wpS n body ρ (seqOut (fun ρ' => wpS n rest ρ' Q) Q)) (wpS n orelse ρ (seqOut (fun ρ' => wpS n rest ρ' Q) Q))
      | st => ExecSpec w hB p k env (exec st env) ρ (seqOut (fun ρ' => wpS n rest ρ' Q) Q)
end

theorem swaps_false {e : Expr} {t : Option Expr} {l : Nat} {env : Env} (h : notComp e = true) : swapsWith e t l env = pure false := by
  cases e <;> first | rfl | cases h

theorem wpT_sound {w : World} {hB : Heap} {mg mb : Str → Option Value} (B : Bs w hB mg mb) {k : Nat} {env : Env} (ok : EnvOk env) : ∀ (n : Nat) (e : Expr) (ρ : Rho) (Q : Bool → Prop),
    wpT w hB p k env n e ρ Q → TestSpec w hB p k env e ρ Q := by
  intro n
  induction n with
  | zero => exact fun e ρ Q h => h
  | succ n ih =>
    intro e ρ Q h
    unfold wpT at h
    split at h
    · rename_i l ops rs ps
      match ops, rs, h with
      | [op], [rr], h =>
        by_cases hm : behindInMarks op rr = true
        · have h' := h
          simp only [cmpT, if_pos hm] at h'
          exact h'
        · have h' := h
          simp only [cmpT, if_neg hm] at h'
          clear h
          intro s g hl A r E R hR
          refine wpAny_isTrue_Compare1 ((wpE_sound B ok n).1 _ _ _ h' s g hl A r E _ fun va da h₁ t₁ k1 g1 i1 q1 => ?_) (by simpa using hm)
          refine (wpE_sound B ok n).1 _ _ _ q1 _ g1 (hl.keep g k1) A r E _ fun vb db h₂ t₂ k2 g2 i2 q2 => ?_
          exact cmpV_sound q2 (i1.keep g1 k2) i2 (by have := r.2.2; omega) fun c hc => wpAny_truthy_bool (hR c h₂ t₂ (k1.trans k2) g2 hc)
      | [], _, h => exact h
      | _ :: _ :: _, _, h => exact h
      | [_], [], h => exact h
      | [_], _ :: _ :: _, h => exact h
    · rename_i op xs ps
      match xs, h with
      | [x, y], h =>
        cases op with
        | And =>
          intro s g hl A r E R hR
          refine PyProof.Rows.isTrue_and (ih _ _ _ h s g hl A r E _ fun b h₁ t₁ k1 g1 q1 => ?_)
          cases b with
          | false => exact hR false h₁ t₁ k1 g1 (q1.2 rfl)
          | true =>
            simp only [if_true]
            refine PyProof.Rows.isTrue_and (ih _ _ _ (q1.1 rfl) _ g1 (hl.keep g k1) A r E _ fun b h₂ t₂ k2 g2 q2 => ?_)
            cases b with
            | false => exact hR false h₂ t₂ (k1.trans k2) g2 q2
            | true => exact PyProof.Rows.isTrue_and_nil (hR true h₂ t₂ (k1.trans k2) g2 q2)
        | Or =>
          intro s g hl A r E R hR
          refine PyProof.Rows.isTrue_or (ih _ _ _ h s g hl A r E _ fun b h₁ t₁ k1 g1 q1 => ?_)
          cases b with
          | true => exact hR true h₁ t₁ k1 g1 (q1.1 rfl)
          | false =>
            refine PyProof.Rows.isTrue_or (ih _ _ _ (q1.2 rfl) _ g1 (hl.keep g k1) A r E _ fun b h₂ t₂ k2 g2 q2 => ?_)
            cases b with
            | true => exact hR true h₂ t₂ (k1.trans k2) g2 q2
            | false => exact PyProof.Rows.isTrue_or_nil (hR false h₂ t₂ (k1.trans k2) g2 q2)
      | [], h => exact h
      | [_], h => exact h
      | _ :: _ :: _ :: _, h => exact h
    · rename_i x ps
      unfold nameT at h
      split at h
      · rename_i d hx
        rcases orElseP_out h with ⟨i, e, h⟩ | h
        · cases intV_eq e
          intro s g hl A r E R hR
          obtain ⟨m, hn, hloc⟩ := hl.m
          obtain ⟨v, hh, t, rfl⟩ := hloc _ _ hx
          exact PyProof.Rows.isTrue_plain (name_held ok hn hh (PyProof.Rows.truthy_int (hR _ s.heap s.toks (.refl _) g h))) rfl
        · rcases orElseP_out h with ⟨l, e, h⟩ | h
          · cases lstV_eq e
            obtain ⟨h1, h2⟩ := guardF_out h
            intro s g hl A r E R hR
            obtain ⟨m, hn, hloc⟩ := hl.m
            obtain ⟨v, hh, hi⟩ := hloc _ _ hx
            exact PyProof.Rows.isTrue_plain (name_held ok hn hh (truthyL g hi (by simpa using h1) fun tk => hR _ s.heap tk (.refl _) g h2)) rfl
          · exact h
      · exact h
    · exact h

/-- what the frame must be apart from the heap -/
structure EnvFr (hB : Heap) (env : Env) : Prop where
  fresh : ∀ b, Own env b → hB.get? b = none
  apart : ∀ y x c, env.kindOf x = some .cell → env.cells.lookup y = some c → env.cells.lookup x = some c → y = x

theorem store_sound2 {w : World} {hB : Heap} {env : Env} (ok : EnvOk env) (hfr : EnvFr hB env) {s : Shared} {ρ : Rho} {x : Str} {d : V} {v : Value} (g : Good hB s.heap) (hl : Fm env s.heap ρ)
    (hx : okStore env x = true) (hv : IsV s.heap d v) {A : Around} {E : Value → Shared → Prop} {R : Unit → Shared → Prop}
    (h : ∀ h' tk, KeepF p env s.heap h' → Good hB h' → Fm env h' ((x, d) :: ρ) → (∀ y c' u, y ≠ x → env.cells.lookup y = some c' → s.heap.IsCell c' u → h'.IsCell c' u) →
      (∀ c', env.kindOf x = some .cell → env.cells.lookup x = some c' → h'.IsCell c' (some v)) → R () { s with heap := h', toks := tk }) :
    wpAny (model prg w) A (storeName env x v) R E s := by
  obtain ⟨m, hn, ll⟩ := hl.m
  have hne := g.ns_ne hn
  unfold okStore at hx
  simp only [Bool.or_eq_true, Bool.and_eq_true, beq_iff_eq] at hx
  rcases hx with hx | ⟨⟨hx1, hx2⟩, hx3⟩
  · refine wpAny_storeName_local (okName_local hx).1 hn (fun h' hn' hs => ?_) (by rw [ok.kind]; rfl)
    have hLc : ∀ y c v, okCell env y = true → env.cells.lookup y = some c → s.heap.IsCell c v → c ≠ env.locals := by
      rintro y c v - - ⟨o, e, dd⟩ rfl
      obtain ⟨o', es, ep, e', d', _⟩ := hn
      rw [e] at e'; cases e'; rw [dd] at d'; cases d'
    have hk : KeepF p env s.heap h' := fun b o hb _ e => (hs.2 b fun q => hb (.inl q)).trans e
    have g' : Good hB h' := by
      refine g.keep_but (L := env.locals) (fun b o hb e => (hs.2 b hb).trans e) hne.1 hne.2 (hfr.fresh _ (.inl rfl)) ?_
      obtain ⟨o, es, ep, e, dd, _⟩ := hn
      intro o' vs e' q
      rw [e] at e'; cases e'
      rw [dd] at q; cases q
    refine h h' _ hk g' ⟨⟨_, hn', ?_⟩, ?_⟩ (fun y c' u' _ _ ec => ec.sameBut hs ?_) (fun c' hc' _ => by rw [(okName_local hx).1] at hc'; cases hc')
    · intro y e he
      rw [List.lookup_cons] at he
      by_cases hy : y = x
      · subst hy
        simp only [beq_self_eq_true] at he
        cases he
        exact ⟨v, .inl ⟨hx, by simp⟩, hv.keepF g hl hk⟩
      · rw [beq_false_of_ne hy] at he
        obtain ⟨v', a, c⟩ := ll y e he
        refine ⟨v', ?_, c.keepF g hl hk⟩
        rcases a with a | ⟨a, c', b1, b2⟩
        · exact .inl ⟨a.1, by simp [hy, a.2]⟩
        · exact .inr ⟨a, c', b1, b2.sameBut hs (hLc y c' _ a b1 b2)⟩
    · intro y c h1 h2
      obtain ⟨v', e⟩ := hl.cells y c h1 h2
      refine ⟨v', e.sameBut hs ?_⟩
      rintro rfl
      obtain ⟨o, e1, dd⟩ := e
      obtain ⟨o', es, ep, e', d', _⟩ := hn
      rw [e1] at e'; cases e'; rw [dd] at d'; cases d'
    · rintro rfl
      obtain ⟨o, e1, dd⟩ := ec
      obtain ⟨o', es, ep, e', d', _⟩ := hn
      rw [e1] at e'; cases e'; rw [dd] at d'; cases d'
  · obtain ⟨c, hc⟩ := Option.isSome_iff_exists.mp hx3
    obtain ⟨v₀, hcell⟩ := hl.cells x c hx1 hc
    have hcL : c ≠ env.locals := by
      rintro rfl
      obtain ⟨o, e1, dd⟩ := hcell
      obtain ⟨o', es, ep, e', d', _⟩ := hn
      rw [e1] at e'; cases e'; rw [dd] at d'; cases d'
    refine wpAny_storeName_cell ok.kind hx1 hc hcell fun h' hc' hs => ?_
    have hk : KeepF p env s.heap h' := fun b o hb _ e => (hs.2 b fun q => hb (.inr ⟨x, hx1, q ▸ hc⟩)).trans e
    have hcn : c ≠ 54 ∧ c ≠ 47 := by
      obtain ⟨o, e1, dd⟩ := hcell
      exact g.ne e1 fun ps q => by rw [q] at dd; cases dd
    have g' : Good hB h' := by
      refine g.keep_but (L := c) (fun b o hb e => (hs.2 b hb).trans e) hcn.1 hcn.2 (hfr.fresh _ (.inr ⟨x, hx1, hc⟩)) ?_
      obtain ⟨o, e1, dd⟩ := hcell
      intro o' vs e' q
      rw [e1] at e'; cases e'
      rw [dd] at q; cases q
    refine h h' s.toks hk g' ⟨⟨m, hn.sameBut hs (Ne.symm hcL), ?_⟩, ?_⟩ (fun y c' u' hy hyc ec => ec.sameBut hs fun q => hy (hfr.apart y x c' hx1 hyc (q ▸ hc))) (fun c' _ h2 => by rw [hc] at h2; cases h2; exact hc')
    · intro y e he
      rw [List.lookup_cons] at he
      by_cases hy : y = x
      · subst hy
        simp only [beq_self_eq_true] at he
        cases he
        exact ⟨v, .inr ⟨hx2, c, hc, hc'⟩, hv.keepF g hl hk⟩
      · rw [beq_false_of_ne hy] at he
        obtain ⟨v', a, cc⟩ := ll y e he
        refine ⟨v', ?_, cc.keepF g hl hk⟩
        rcases a with a | ⟨a, c', b1, b2⟩
        · exact .inl a
        · exact .inr ⟨a, c', b1, b2.sameBut hs fun q => hy (hfr.apart y x c' hx1 b1 (q ▸ hc))⟩
    · intro y c' h1 h2
      obtain ⟨v', e⟩ := hl.cells y c' h1 h2
      by_cases q : c' = c
      · exact ⟨_, q ▸ hc'⟩
      · exact ⟨v', e.sameBut hs q⟩

theorem store_sound {w : World} {hB : Heap} {env : Env} (ok : EnvOk env) (hfr : EnvFr hB env) {s : Shared} {ρ : Rho} {x : Str} {d : V} {v : Value} (g : Good hB s.heap) (hl : Fm env s.heap ρ)
    (hx : okStore env x = true) (hv : IsV s.heap d v) {A : Around} {E : Value → Shared → Prop} {R : Unit → Shared → Prop}
    (h : ∀ h' tk, KeepF p env s.heap h' → Good hB h' → Fm env h' ((x, d) :: ρ) → R () { s with heap := h', toks := tk }) :
    wpAny (model prg w) A (storeName env x v) R E s :=
  store_sound2 (p := p) ok hfr g hl hx hv fun h' tk a b c _ _ => h h' tk a b c

theorem namesOf_each {env : Env} : ∀ {elts : List Expr} {xs : List Str}, namesOf elts = some xs → ∃ ps : List Pos, ps.length = xs.length ∧ elts = (xs.zip ps).map (fun q => Expr.Name q.1 q.2)
  | [], _, e => by cases e; exact ⟨[], rfl, rfl⟩
  | e :: r, xs, h => by
    obtain ⟨x, h1, h⟩ := Option.bind_eq_some_iff.mp h
    obtain ⟨q, rfl⟩ := nameOf_eq h1
    obtain ⟨l, e1, rfl⟩ := Option.map_eq_some_iff.mp h
    obtain ⟨ps, h1, h2⟩ := namesOf_each (env := env) e1
    exact ⟨q :: ps, by simp [h1], by simp [← h2]⟩

theorem assignEach_names {env : Env} : ∀ (xs : List Str) (ps : List Pos), ps.length = xs.length → assignEach ((xs.zip ps).map fun q => Expr.Name q.1 q.2) env = (xs.zip ps).map fun q => (false, assign (.Name q.1 q.2) env)
  | [], _, _ => by simp; rfl
  | x :: xs, p :: ps, h => by
    simp only [List.zip_cons_cons, List.map_cons]
    rw [← assignEach_names xs ps (by simpa using h)]
    rfl

theorem assign_names {w : World} {hB : Heap} {env : Env} (ok : EnvOk env) (hfr : EnvFr hB env) {A : Around} {E : Value → Shared → Prop} :
    ∀ (xs : List Str) (ps : List Pos) (l : List Sc) (vs : List Value) (ρ ρ' : Rho) (s : Shared) (R : Unit → Shared → Prop), ps.length = xs.length → unpackTo xs l ρ = some ρ' → xs.all (okStore env) = true → ScsAre l vs →
      Good hB s.heap → Fm env s.heap ρ →
      (∀ h' tk, KeepF p env s.heap h' → Good hB h' → Fm env h' ρ' → R () { s with heap := h', toks := tk }) →
      wpAny (model prg w) A (assignInOrder ((xs.zip ps).map fun q => assign (.Name q.1 q.2) env) vs) R E s
  | [], _, l, vs, ρ, ρ', s, R, hp, hu, hx, hs, g, hl, h => by
    cases l with
    | nil =>
      simp only [unpackTo, Option.some.injEq] at hu
      subst hu
      simp only [List.zip_nil_left, List.map_nil]
      exact PyProof.Rows.assignInOrder_nil (h s.heap s.toks (.refl _ _) g hl)
    | cons a l => simp [unpackTo] at hu
  | x :: xs, [], l, vs, ρ, ρ', s, R, hp, hu, hx, hs, g, hl, h => by simp at hp
  | x :: xs, po :: ps, l, vs, ρ, ρ', s, R, hp, hu, hx, hs, g, hl, h => by
    cases l with
    | nil => simp [unpackTo] at hu
    | cons a l =>
      cases vs with
      | nil => exact hs.elim
      | cons v vs =>
        simp only [unpackTo] at hu
        simp only [List.all_cons, Bool.and_eq_true] at hx
        simp only [List.zip_cons_cons, List.map_cons]
        refine PyProof.Rows.assignInOrder_cons ?_
        show wpAny _ A (do standAt po; bindName env x v) _ E s
        refine wpAny_bind (wpAny_standAt (wpAny_bindName ?_))
        refine store_sound (p := p) ok hfr (d := .sc a) g hl hx.1 hs.1 fun h₁ t₁ k1 g1 l1 => ?_
        exact assign_names ok hfr xs ps l vs _ ρ' _ _ (by simpa using hp) hu hx.2 hs.2 g1 l1 fun h₂ t₂ k2 g2 l2 => h h₂ t₂ (k1.trans k2) g2 l2

theorem Good.ext {hB : Heap} {h h' : Heap} (g : Good hB h) (x : Heap.ExtBut h.objs.size h h') : (∀ b o, h.get? b = some o → h'.get? b = some o) := fun b o e => x b o (Nat.ne_of_lt (Heap.lt_size e)) e
theorem unpackTo_len : ∀ {xs : List Str} {l : List Sc} {ρ ρ' : Rho}, unpackTo xs l ρ = some ρ' → xs.length = l.length
  | [], [], _, _, _ => rfl
  | _ :: _, _ :: _, _, _, h => by
    simp only [unpackTo] at h
    simp only [List.length_cons]; rw [unpackTo_len h]
  | [], _ :: _, _, _, h => by simp [unpackTo] at h
  | _ :: _, [], _, _, h => by simp [unpackTo] at h

theorem assign_tuple_sound {w : World} {hB : Heap} {env : Env} (ok : EnvOk env) (hfr : EnvFr hB env) {A : Around} (hh : A.handled = none) {E : Value → Shared → Prop} {elts : List Expr} {kk : Nat} {tp : Pos} {xs : List Str} (hx : namesOf elts = some xs) (ho : xs.all (okStore env) = true)
    {l : List Sc} {ρ ρ' : Rho} (hu : unpackTo xs l ρ = some ρ') {s : Shared} {d : V} (hd : d = .tup l ∨ d = .lst l) {v : Value} (hv : IsV s.heap d v) (g : Good hB s.heap) (hl : Fm env s.heap ρ) {R : Unit → Shared → Prop}
    (h : ∀ h' tk, KeepF p env s.heap h' → Good hB h' → Fm env h' ρ' → R () { s with heap := h', toks := tk }) :
    wpAny (model prg w) A (assign (.Tuple elts kk tp) env v) R E s := by
  obtain ⟨ps, hp, he⟩ := namesOf_each (env := env) hx
  have ha : assignEach elts env = (xs.zip ps).map fun q => (false, assign (.Name q.1 q.2) env) := by rw [he]; exact assignEach_names xs ps hp
  have hlen : (assignEach elts env).length = xs.length := by rw [ha]; simp [hp]
  have hstar : (assignEach elts env).findIdx? (·.1) = none := by rw [ha]; simp [List.findIdx?_eq_none_iff]
  have hmap : (assignEach elts env).map (·.2) = (xs.zip ps).map fun q => assign (.Name q.1 q.2) env := by rw [ha, List.map_map]; rfl
  have hul := unpackTo_len hu
  have fin : ∀ (vs : List Value), ScsAre l vs → ∀ h', Heap.ExtBut s.heap.objs.size s.heap h' → wpAny (model prg w) A (assignInOrder ((assignEach elts env).map (·.2)) vs) R E { s with heap := h' } := by
    intro vs hs h' hx'
    have hk := g.ext hx'
    rw [hmap]
    exact assign_names ok hfr xs ps l vs ρ ρ' { s with heap := h' } R hp hu ho hs (g.keep_all hk) (hl.keep (p := p) g (.of_all hk)) fun h₂ t₂ k2 g2 l2 => h h₂ t₂ (((Keep.of_all hk).toF _).trans k2) g2 l2
  rcases hd with rfl | rfl
  · obtain ⟨a, vs, rfl, ht, hs⟩ := hv
    refine wpAny_assign_Tuple hh ht (by rw [hlen, hul]; simp [hs.length]) hstar fun h' hx' => ?_
    simpa using fin vs hs h' hx'
  · obtain ⟨a, vs, rfl, ht, hs⟩ := hv
    rw [arm_assign_Tuple]
    refine wpAny_bind (wpAny_standAt ?_)
    unfold unpack
    rw [hlen, hstar]
    refine wpAny_bind (wpAny_holding ?_)
    have hsz : xs.length = vs.toArray.size := by rw [hul]; simp [hs.length]
    rw [hsz]
    refine PySem.W.kun_itemsOf hh ht fun h' hx' => ?_
    simpa using fin vs hs h' hx'

theorem swappedStores_none {elts : List Expr} {kk : Nat} {tp : Pos} {e : Expr} {env : Env} (h : isTupleE e = false) : swappedStores [.Tuple elts kk tp] e env = pure none := by
  cases e <;> first | rfl | cases h
theorem swapsSole_tuple {elts : List Expr} {kk : Nat} {tp : Pos} {e : Expr} {l : Nat} {env : Env} : swapsWithSole [.Tuple elts kk tp] e l env = pure false := by
  cases e <;> rfl

theorem seq_sound {w : World} {hB : Heap} {k : Nat} {env : Env} {t : Sem Flow} {st : Stmt} {rest : List Stmt} {ρ : Rho} {P : Rho → Prop} {Q : Out → Prop} (h1 : ExecSpec w hB p k env (exec st env) ρ (seqOut P Q))
    (h2 : ∀ ρ', P ρ' → ExecSpec w hB p k env (execs rest env) ρ' Q) : ExecSpec w hB p k env (execs (st :: rest) env) ρ Q := by
  intro s g hl A r E R hR
  refine wpAny_execs_cons (h1 s g hl A r E _ fun fl o h₁ t₁ k1 g1 o1 q1 => ?_)
  cases o with
  | nxt ρ' =>
    obtain ⟨rfl, l1⟩ := o1
    exact h2 ρ' q1 _ g1 l1 A r E R fun fl o h₂ t₂ k2 g2 o2 q2 => hR fl o h₂ t₂ (k1.trans k2) g2 o2 q2
  | ret d =>
    obtain ⟨v, rfl, i⟩ := o1
    exact hR _ (.ret d) h₁ t₁ k1 g1 ⟨v, rfl, i⟩ q1
  | brk ρ' =>
    obtain ⟨rfl, i⟩ := o1
    exact hR _ (.brk ρ') h₁ t₁ k1 g1 ⟨rfl, i⟩ q1
  | cnt ρ' =>
    obtain ⟨rfl, i⟩ := o1
    exact hR _ (.cnt ρ') h₁ t₁ k1 g1 ⟨rfl, i⟩ q1

theorem ExecSpec.mono {w : World} {hB : Heap} {k : Nat} {env : Env} {t : Sem Flow} {ρ : Rho} {Q Q' : Out → Prop} (x : ExecSpec w hB p k env t ρ Q) (hQ : ∀ o, Q o → Q' o) : ExecSpec w hB p k env t ρ Q' :=
  fun s g hl A r E R hR => x s g hl A r E R fun fl o h' tk a b c d => hR fl o h' tk a b c (hQ o d)

theorem wpS_sound {w : World} {hB : Heap} {mg mb : Str → Option Value} (B : Bs w hB mg mb) {k : Nat} {env : Env} (ok : EnvOk env) (hfr : EnvFr hB env) : ∀ (n : Nat) (ss : List Stmt) (ρ : Rho) (Q : Out → Prop),
    wpS w hB p k env n ss ρ Q → ExecSpec w hB p k env (execs ss env) ρ Q := by
  intro n
  induction n with
  | zero => exact fun e ρ Q h => h
  | succ n ih =>
    intro ss ρ Q h
    cases ss with
    | nil =>
      intro s g hl A r E R hR
      exact wpAny_execs_nil (hR .next (.nxt ρ) s.heap s.toks (.refl _ _) g ⟨rfl, hl⟩ h)
    | cons st rest =>
    unfold wpS at h
    dsimp only at h
    split at h
    · rename_i o ps
      cases o with
      | none => exact seq_sound (t := pure .next) h fun ρ' hp => ih _ _ _ hp
      | some e =>
        intro s g hl A r E R hR
        refine wpAny_execs_cons (wpAny_Return_some ?_)
        refine (wpE_sound B ok n).1 _ _ _ h s g hl A r E _ fun v d h₁ t₁ k1 g1 i1 q1 => ?_
        exact hR _ (.ret d) h₁ t₁ (k1.toF _) g1 ⟨v, rfl, i1⟩ q1
    · rename_i ts e ps
      unfold asgE at h
      split at h
      rotate_left
      · exact seq_sound (t := pure .next) h fun ρ' hp => ih _ _ _ hp
      split at h
      rotate_left 2
      · exact seq_sound (t := pure .next) h fun ρ' hp => ih _ _ _ hp
      split at h
      · rename_i hnc
        obtain ⟨hg, h⟩ := guardF_out h
        have hg := (Bool.not_eq_false _).mp (by simpa using hg)
        intro s g hl A r E R hR
        refine wpAny_execs_cons (wpAny_Assign_Name ?_ (swaps_false hnc))
        refine (wpE_sound B ok n).1 _ _ _ h s g hl A r E _ fun v d h₁ t₁ k1 g1 i1 q1 => ?_
        refine store_sound (p := p) ok hfr (s := { s with heap := h₁, toks := t₁ }) g1 (hl.keep g k1) hg i1 fun h₂ t₂ k2 g2 l2 => ?_
        exact ih _ _ _ q1 { s with heap := h₂, toks := t₂ } g2 l2 A r E R fun fl o h₃ t₃ k3 g3 o3 q3 => hR fl o h₃ t₃ (((k1.toF _).trans k2).trans k3) g3 o3 q3
      · exact seq_sound (t := pure .next) h fun ρ' hp => ih _ _ _ hp
      rename_i elts kk tp
      split at h
      · rename_i xs hxs
        obtain ⟨hg, h⟩ := guardF_out h
        have hg : isTupleE e = false ∧ xs.all (okStore env) = true := by simpa using hg
        intro s g hl A r E R hR
        refine wpAny_execs_cons (PyProof.Rows.Assign_Tuple ?_ swapsSole_tuple (swappedStores_none hg.1))
        refine (wpE_sound B ok n).1 _ _ _ h s g hl A r E _ fun v d h₁ t₁ k1 g1 i1 q1 => ?_
        unfold unpackK at q1
        split at q1
        · rename_i l
          split at q1
          · rename_i ρ' hu
            refine assign_tuple_sound (p := p) (s := { s with heap := h₁, toks := t₁ }) ok hfr r.1 hxs hg.2 hu (.inl rfl) i1 g1 (hl.keep g k1) fun h₂ t₂ k2 g2 l2 => ?_
            exact ih _ _ _ q1 { s with heap := h₂, toks := t₂ } g2 l2 A r E R fun fl o h₃ t₃ k3 g3 o3 q3 => hR fl o h₃ t₃ (((k1.toF _).trans k2).trans k3) g3 o3 q3
          · exact q1.elim
        · rename_i l
          split at q1
          · rename_i ρ' hu
            refine assign_tuple_sound (p := p) (s := { s with heap := h₁, toks := t₁ }) ok hfr r.1 hxs hg.2 hu (.inr rfl) i1 g1 (hl.keep g k1) fun h₂ t₂ k2 g2 l2 => ?_
            exact ih _ _ _ q1 { s with heap := h₂, toks := t₂ } g2 l2 A r E R fun fl o h₃ t₃ k3 g3 o3 q3 => hR fl o h₃ t₃ (((k1.toF _).trans k2).trans k3) g3 o3 q3
          · exact q1.elim
        · exact q1.elim
      · exact seq_sound (t := pure .next) h fun ρ' hp => ih _ _ _ hp
    · rename_i test body orelse ps
      refine seq_sound (t := pure .next) (P := fun ρ' => wpS w hB p k env n rest ρ' Q) (Q := Q) ?_ fun ρ' hp => ih _ _ _ hp
      intro s g hl A r E R hR
      refine wpAny_If (wpT_sound B ok n _ _ _ h s g hl A r E _ fun b h₁ t₁ k1 g1 q1 => ?_)
      cases b with
      | true => exact ih _ _ _ (q1.1 rfl) _ g1 (hl.keep g k1) A r E R fun fl o h₂ t₂ k2 g2 o2 q2 => hR fl o h₂ t₂ ((k1.toF _).trans k2) g2 o2 q2
      | false => exact ih _ _ _ (q1.2 rfl) _ g1 (hl.keep g k1) A r E R fun fl o h₂ t₂ k2 g2 o2 q2 => hR fl o h₂ t₂ ((k1.toF _).trans k2) g2 o2 q2
    · exact seq_sound (t := pure .next) h fun ρ' hp => ih _ _ _ hp
end Mine
end

section -- Fw5
open PySem PySem.W PyProof.Rows PySem.Calls
namespace Mine
set_option maxRecDepth 100000
set_option linter.unusedVariables false
variable {p : Bool}
set_option linter.unusedSimpArgs false

theorem look_par {h : Heap} {x : Str} {d : V} : ∀ {tr : List (Str × V × Value)}, (∀ t ∈ tr, IsV h t.2.1 t.2.2) → (tr.map fun t => (t.1, t.2.1)).lookup x = some d →
    ∃ v, (tr.map fun t => (t.1, t.2.2)).lookup x = some v ∧ IsV h d v ∧ x ∈ tr.map (·.1)
  | [], _, e => by simp at e
  | (y, d', v') :: tr, hv, e => by
    simp only [List.map_cons, List.lookup_cons] at e ⊢
    by_cases hy : x = y
    · subst hy
      simp only [beq_self_eq_true, Option.some.injEq] at e ⊢
      subst e
      exact ⟨v', rfl, hv _ (.head _), by simp⟩
    · rw [beq_false_of_ne hy] at e ⊢
      obtain ⟨v, a, b, c⟩ := look_par (fun t ht => hv t (.tail _ ht)) e
      exact ⟨v, a, b, by simp at c ⊢; exact .inr c⟩

theorem triples {h : Heap} : ∀ {names : List Str} {ds : List V} {vals : List Value}, names.length = ds.length → VsAre h ds vals → ∃ tr : List (Str × V × Value), names.zip ds = (tr.map fun t => (t.1, t.2.1)) ∧ names.zip vals = (tr.map fun t => (t.1, t.2.2)) ∧ (∀ t ∈ tr, IsV h t.2.1 t.2.2) ∧ tr.map (·.1) = names
  | [], [], [], _, _ => ⟨[], rfl, rfl, by simp, rfl⟩
  | x :: xs, d :: ds, v :: vs, hl, ⟨a, b⟩ => by
    obtain ⟨tr, h1, h2, h3, h4⟩ := triples (by simpa using hl) b
    exact ⟨(x, d, v) :: tr, by simp [h1], by simp [h2], fun t ht => by rcases List.mem_cons.mp ht with rfl | ht; exact a; exact h3 t ht, by simp [h4]⟩
  | [], [], _ :: _, _, x => x.elim
  | _ :: _, _ :: _, [], _, x => x.elim
  | [], _ :: _, _, h, _ => by simp at h
  | _ :: _, [], _, h, _ => by simp at h

theorem VsAre.length {h : Heap} : ∀ {ds : List V} {vals : List Value}, VsAre h ds vals → vals.length = ds.length
  | [], [], _ => rfl
  | _ :: _, _ :: _, ⟨_, r⟩ => by simp [r.length]
  | [], _ :: _, x => x.elim
  | _ :: _, [], x => x.elim

noncomputable def retQ (Q : V → Prop) : Out → Prop
  | .ret d => Q d
  | _ => False

noncomputable def parOk (sc : Scope) (x : Str) : Bool := (sc.names.lookup x == some .local || sc.names.lookup x == some .cell) && (!(x == ("__debug__" : Str)) && !(x == ("__classdict__" : Str)))
noncomputable def fnOk (K : Frag) (fd : FuncData) (names : List Str) : Bool :=
  codeIn K fd.code fd.qualname && (fd.scope.kind == .function && !fd.scope.isCoroutine && !fd.scope.isGenerator && fd.closure.isEmpty && fd.globals == mainGlobals && fd.builtins == builtinsNs && names.all (parOk fd.scope))

theorem fresh_size {hB h : Heap} (g : Good hB h) {b : Addr} (hb : h.objs.size ≤ b) : hB.get? b = none := by
  cases q : hB.get? b with
  | none => rfl
  | some o => exact absurd (Heap.lt_size (g.stays _ _ q)) (Nat.not_lt.mpr hb)

theorem bindL_eq (kindOf : Str → Option NameKind) (x : Str) : ∀ (bs : List (Str × Value)) (m : Str → Option Value), kindOf x = some .local → bindL kindOf bs m x = (bs.reverse.lookup x).or (m x)
  | [], m, _ => by simp [bindL]
  | (n, v) :: r, m, h => by
    unfold bindL
    rw [bindL_eq kindOf x r _ h, List.reverse_cons, List.lookup_append]
    by_cases hx : x = n
    · subst hx; rw [if_pos h]; simp
    · have : (x == n) = false := beq_false_of_ne hx
      split <;> simp [hx, this, List.lookup_cons]
theorem bindC_eq (kindOf : Str → Option NameKind) (x : Str) : ∀ (bs : List (Str × Value)) (m : Str → Option Value), kindOf x = some .cell → bindC kindOf bs m x = (bs.reverse.lookup x).or (m x)
  | [], m, _ => by simp [bindC]
  | (n, v) :: r, m, h => by
    unfold bindC
    rw [bindC_eq kindOf x r _ h, List.reverse_cons, List.lookup_append]
    by_cases hx : x = n
    · subst hx; rw [if_neg (by rw [h]; simp)]; simp
    · have : (x == n) = false := beq_false_of_ne hx
      split <;> simp [hx, this, List.lookup_cons]

theorem call_defE {w : World} {hB : Heap} {mg mb : Str → Option Value} (B : Bs w hB mg mb) {k : Nat} {a : Addr} {o : Obj} {fd : FuncData} {body : List Stmt} {names : List Str} {ds : List V} {Q : V → Prop}
    (hl : (KK w).lookup a = some o) (hd : o.data = .func fd) (hbody : fd.body = .stmts body) (hok : fnOk (KK w) fd names = true) (hlen : names.length = ds.length)
    (hbind : ∀ vals : List Value, vals.length = ds.length → bindArgs fd ⟨vals, []⟩ = pure (names.zip vals))
    (h : ∀ L, EnvOk (callEnvC fd L a) → EnvFr hB (callEnvC fd L a) → ExecSpec w hB p k (callEnvC fd L a) (execs body (callEnvC fd L a)) (names.zip ds).reverse (retQ Q)) : CallSpec w hB p (k + 1) (.ref a) ds Q := by
  intro s vals g hv A r E R hR
  unfold fnOk at hok
  simp only [Bool.and_eq_true, beq_iff_eq, Bool.not_eq_true', List.all_eq_true, List.isEmpty_iff] at hok
  obtain ⟨hcode, ⟨⟨⟨⟨⟨hk, hco⟩, hgen⟩, hcl⟩, hgl⟩, hbl⟩, hnm⟩ := hok
  have hnm : ∀ x ∈ names, (fd.scope.names.lookup x = some .local ∨ fd.scope.names.lookup x = some .cell) ∧ (x == ("__debug__" : Str)) = false ∧ (x == ("__classdict__" : Str)) = false := fun x hx => by
    have := hnm x hx
    unfold parOk at this
    simpa only [Bool.and_eq_true, Bool.or_eq_true, beq_iff_eq, Bool.not_eq_true'] using this
  have X := B.X.keeps g.stays
  obtain ⟨tr, t1, t2, t3, t4⟩ := triples hlen hv
  have hvl := hv.length
  have hkind : ∀ x ∈ names.zip vals, fd.scope.names.lookup x.1 = some .local ∨ (fd.scope.names.lookup x.1 = some .cell ∧ ((cellsFrom (s.heap.objs.size + 1) fd.scope.names []).lookup x.1).isSome = true) := fun x hx => by
    rcases (hnm x.1 (List.of_mem_zip (a := x.1) (b := x.2) hx).1).1 with q | q
    · exact .inl q
    · exact .inr ⟨q, PySem.W.cellsFrom_some _ _ _ (.inl q)⟩
  refine wpAny_call (codeAny_call_cells (body := body) (binds := names.zip vals) (by have := r.2.1; lia) (X _ _ hl) hd (B.nl.keeps g.stays) (codeRec_of X hcode) hbody (hbind vals hvl) hcl hkind (fun s₁ x => ?_) hco hgen hk)
  obtain ⟨h₀, tk, rfl, hkp⟩ := x.done
  have hns := x.toInCall.ns
  have g0 : Good hB h₀ := g.keep_all hkp
  have ok : EnvOk (callEnvC fd s.heap.objs.size a) := ⟨hk, hgl, hbl⟩
  have hown : ∀ b, Own (callEnvC fd s.heap.objs.size a) b → s.heap.objs.size ≤ b := by
    rintro b (rfl | ⟨y, h1, h2⟩)
    · exact Nat.le_refl _
    · exact Nat.le_of_lt (x.above y b (PySem.mem_of_lookup h2))
  have hfr : EnvFr hB (callEnvC fd s.heap.objs.size a) :=
    ⟨fun b hb => fresh_size g (hown b hb), fun y z c _ h1 h2 => name_of_addr x.apart (PySem.mem_of_lookup h1) (PySem.mem_of_lookup h2)⟩
  have hloc : Fm (callEnvC fd s.heap.objs.size a) h₀ (names.zip ds).reverse := by
    refine ⟨⟨_, hns, ?_⟩, fun y c h1 h2 => ⟨_, x.cell y c h2⟩⟩
    intro y d e
    rw [t1, ← List.map_reverse] at e
    obtain ⟨v, e1, e2, e3⟩ := look_par (h := s.heap) (fun t ht => t3 t (by simpa using ht)) e
    have hrev : (names.zip vals).reverse.lookup y = some v := by rw [t2, ← List.map_reverse]; exact e1
    have hy : y ∈ names := by rw [← t4]; simpa using e3
    obtain ⟨q1, q2, q3⟩ := hnm y hy
    refine ⟨v, ?_, e2.keep (p := p) g (.of_all hkp)⟩
    rcases q1 with q1 | q1
    · refine .inl ⟨?_, ?_⟩
      · unfold okName
        simp only [Bool.and_eq_true, beq_iff_eq, Bool.not_eq_true']
        exact ⟨q1, q2⟩
      · rw [bindL_eq _ _ _ _ q1, hrev]; rfl
    · obtain ⟨c, hc⟩ := Option.isSome_iff_exists.mp (PySem.W.cellsFrom_some (x := y) fd.scope.names (s.heap.objs.size + 1) [] (.inl q1))
      refine .inr ⟨?_, c, hc, ?_⟩
      · unfold okCell
        simp only [Bool.and_eq_true, Bool.or_eq_true, beq_iff_eq, Bool.not_eq_true']
        exact ⟨.inl q1, q2, q3⟩
      · have := x.cell y c hc
        rw [bindC_eq _ _ _ _ q1, hrev] at this
        exact this
  refine h _ ok hfr { s with heap := h₀, toks := tk } g0 hloc (A.deeper (callEnvC fd s.heap.objs.size a)) ⟨r.1, ?_, ?_⟩ _ _ fun fl o' h₁ t₁ k1 g1 o1 q1 => ?_
  · have := r.2.1
    show A.depth + 1 + k < recursionLimit
    lia
  · have := r.2.2
    show A.units + 3 + 10 * k + 100 < cLine
    lia
  · cases o' with
    | ret d =>
      obtain ⟨v, rfl, i⟩ := o1
      refine hR v d h₁ t₁ ?_ g1 i q1
      intro b o'' hb1 e
      exact k1 b o'' (fun hb => absurd (Heap.lt_size e) (Nat.not_lt.mpr (hown b hb))) hb1 (hkp b o'' e)
    | _ => exact q1.elim

theorem call_def {w : World} {hB : Heap} {mg mb : Str → Option Value} (B : Bs w hB mg mb) {k n : Nat} {a : Addr} {o : Obj} {fd : FuncData} {body : List Stmt} {names : List Str} {ds : List V} {Q : V → Prop}
    (hl : (KK w).lookup a = some o) (hd : o.data = .func fd) (hbody : fd.body = .stmts body) (hok : fnOk (KK w) fd names = true) (hlen : names.length = ds.length)
    (hbind : ∀ vals : List Value, vals.length = ds.length → bindArgs fd ⟨vals, []⟩ = pure (names.zip vals))
    (h : ∀ L, wpS w hB p k (callEnvC fd L a) n body (names.zip ds).reverse (retQ Q)) : CallSpec w hB p (k + 1) (.ref a) ds Q :=
  call_defE B hl hd hbody hok hlen hbind fun L ok hfr => wpS_sound B ok hfr n body _ _ (h L)
end Mine
end

section -- Cp
open PySem PySem.W PyProof.Rows PySem.Calls
namespace Mine
set_option maxRecDepth 100000
set_option linter.unusedVariables false
set_option linter.unusedSimpArgs false
variable {p : Bool}

theorem Sc.Is.inj {a b : Sc} {v : Value} (x : a.Is v) (y : b.Is v) : a = b := by
  cases a <;> cases b <;> simp only [Sc.Is] at x y
  all_goals first
    | (obtain ⟨t, hx⟩ := x; obtain ⟨u, hy⟩ := y; rw [hx] at hy; first | (injection hy with h1 h2; rw [h1]; done) | (cases hy; done))
    | (obtain ⟨t, hx⟩ := x; rw [hx] at y; cases y; done)
    | (obtain ⟨u, hy⟩ := y; rw [x] at hy; cases hy; done)
    | (rw [x] at y; injection y with h; rw [h]; done)

noncomputable def CompF (l : List Sc) (f : Sc → Sc) (v y : Value) : Prop := ∃ a, a.Is v ∧ (f a).Is y
theorem comp_paired {f : Sc → Sc} {l0 : List Sc} : ∀ {l : List Sc} {vs ys : List Value}, ScsAre l vs → Paired (CompF l0 f) vs ys → ScsAre (l.map f) ys
  | [], [], _, _, .nil => trivial
  | a :: l, v :: vs, _, ⟨x, y⟩, .cons ⟨b, h1, h2⟩ r => ⟨by rw [x.inj h1]; exact h2, comp_paired y r⟩
  | [], _ :: _, _, x, _ => x.elim
  | _ :: _, [], _, x, _ => x.elim

structure CompOk (env : Env) (scope : Scope) (cl : List (Str × Addr)) (x : Str) (ρ ρc : Rho) : Prop where
  clos : closureFor scope env = pure cl
  cell : ∀ y ∈ scope.names, y.2 ≠ .cell
  kind : scope.kind = .function
  names : ∀ y ∈ scope.names, y.2 = .local → scope.names.lookup y.1 = some .local
  hx : scope.names.lookup x = some .local
  hd : (x == ("__debug__" : Str)) = false
  free : ∀ y d, ρc.lookup y = some d → ρ.lookup y = some d ∧ okCell env y = true ∧ (∀ C, okCell (compEnvC scope cl C env) y = true) ∧ cl.lookup y = env.cells.lookup y
  cells : ∀ C y c, (compEnvC scope cl C env).kindOf y = some .cell → cl.lookup y = some c → env.kindOf y = some .cell ∧ env.cells.lookup y = some c

noncomputable def compChk (scope : Scope) (x : Str) : Bool :=
  scope.names.all (fun y => y.2 != .cell && (y.2 != .local || scope.names.lookup y.1 == some .local)) && (scope.kind == .function && (scope.names.lookup x == some .local && !(x == ("__debug__" : Str))))
theorem compOk_of {env : Env} {scope : Scope} {cl : List (Str × Addr)} {x : Str} {ρ ρc : Rho} (h1 : closureFor scope env = pure cl) (h2 : compChk scope x = true)
    (free : ∀ y d, ρc.lookup y = some d → ρ.lookup y = some d ∧ okCell env y = true ∧ (∀ C, okCell (compEnvC scope cl C env) y = true) ∧ cl.lookup y = env.cells.lookup y)
    (cells : ∀ C y c, (compEnvC scope cl C env).kindOf y = some .cell → cl.lookup y = some c → env.kindOf y = some .cell ∧ env.cells.lookup y = some c) : CompOk env scope cl x ρ ρc := by
  unfold compChk at h2
  simp only [Bool.and_eq_true, List.all_eq_true, bne_iff_ne, Bool.or_eq_true, beq_iff_eq, Bool.not_eq_true'] at h2
  refine ⟨h1, fun y hy => (h2.1 y hy).1, h2.2.1, fun y hy hl => ?_, h2.2.2.1, h2.2.2.2, free, cells⟩
  rcases (h2.1 y hy).2 with q | q
  · exact absurd hl q
  · exact q
theorem compOk0 {env : Env} {scope : Scope} {x : Str} {ρ : Rho} (h1 : closureFor scope env = pure []) (h2 : compChk scope x = true) : CompOk env scope [] x ρ [] :=
  compOk_of h1 h2 (fun _ _ e => by simp at e) (fun _ _ _ _ e => by simp at e)

/-- an iterator laid: all else stands -/
theorem iter_good {hB h h' : Heap} {l : Addr} {T : String} (g : Good hB h)
    (k : ∀ b o, b ∉ [h.objs.size] → (h.push { cls := .type T, data := .fields #[.ref l, .int 0 0] }).get? b = some o → h'.get? b = some o) :
    (∀ b o, h.get? b = some o → h'.get? b = some o) ∧ Good hB h' := by
  have kk : ∀ b o, h.get? b = some o → h'.get? b = some o := fun b o e => k b o (by simp; exact Nat.ne_of_lt (Heap.lt_size e)) (Heap.get?_push_of_some _ e)
  exact ⟨kk, g.keep_all kk⟩

theorem comp_quiet {w : World} {hB : Heap} {k : Nat} {env : Env} (ok : EnvOk env) {scope : Scope} {cl : List (Str × Addr)} {x : Str} {ρ ρc : Rho} (hc : CompOk env scope cl x ρ ρc) {elt : Expr} {f : Sc → Sc} {l : List Sc} {vs : List Value} (hs : ScsAre l vs)
    (helt : ∀ a ∈ l, ∀ C, EvalSpec w hB true k (compEnvC scope cl C env) elt ((x, .sc a) :: ρc) (fun d => d = .sc (f a)))
    {A : Around} (r : Room k A) {h : Heap} {s₂ : Shared} {a : Addr} {T : String} (g : Good hB h) (fm : Fm env h ρ) (e2 : s₂.heap = h.push { cls := .type T, data := .fields #[.ref a, .int 0 0] }) :
    QuietOnC prg w A env scope cl x [] elt [h.objs.size] (fun i v => vs.toArray[i]? = some v) (fun _ => true) (CompF l f) s₂ := by
  constructor
  · intro C i v s₃ m₃ E' _ _ _ _ _ _
    simp only [List.forIn_nil]
    exact wpAny_pure ⟨rfl, s₃.heap, s₃.toks, rfl, fun _ _ e => e⟩
  · intro C i v s₃ m₃ E' hC hv _ hn hm hk _
    rw [e2] at hk
    obtain ⟨kk, g3⟩ := iter_good g hk
    have hlen := hs.length
    have hi : i < l.length := by
      have := (Array.getElem?_eq_some_iff.mp hv).1
      simp at this; lia
    obtain ⟨v', hv', hav⟩ := hs.get (List.getElem?_eq_getElem hi)
    have : v' = v := by
      have hv2 : vs[i]? = some v := by simpa using hv
      rw [hv'] at hv2; exact Option.some.inj hv2
    subst this
    have okc : EnvOk (compEnvC scope cl C env) := ⟨hc.kind, ok.globals, ok.builtins⟩
    obtain ⟨m, hnm, hloc⟩ := fm.m
    have fmc : Fm (compEnvC scope cl C env) s₃.heap ((x, .sc l[i]) :: ρc) := by
      refine ⟨⟨m₃, hn, ?_⟩, ?_⟩
      · intro y d e
        rw [List.lookup_cons] at e
        by_cases hy : y = x
        · subst hy
          simp only [beq_self_eq_true] at e
          cases e
          refine ⟨v', .inl ⟨?_, hm⟩, hav⟩
          unfold okName
          simp only [Bool.and_eq_true, beq_iff_eq, Bool.not_eq_true']
          exact ⟨lookup_relabel_local hc.hx, hc.hd⟩
        · rw [beq_false_of_ne hy] at e
          obtain ⟨h1, h2, h3, h4⟩ := hc.free y d e
          obtain ⟨vy, hh, hi'⟩ := hloc y d h1
          have hoc := (okCell_is h2).1
          rcases hh with ⟨hh, _⟩ | ⟨_, c, hcc, hic⟩
          · have := (okName_local hh).1
            rw [this] at hoc
            rcases hoc with q | q <;> cases q
          · refine ⟨vy, .inr ⟨h3 C, c, by show cl.lookup y = some c; rw [h4]; exact hcc, hic.keeps kk⟩, hi'.keep (p := true) g (.of_all kk)⟩
      · intro y c h1 h2
        obtain ⟨q1, q2⟩ := hc.cells C y c h1 h2
        obtain ⟨vy, hvy⟩ := fm.cells y c q1 q2
        exact ⟨vy, hvy.keeps kk⟩
    refine helt l[i] (List.getElem_mem _) C s₃ g3 fmc A r E' _ fun y d h' tk k1 g1 i1 q1 => ?_
    subst q1
    exact ⟨⟨l[i], hav, i1⟩, h', tk, rfl, fun b o e => k1 b o (.inl rfl) e⟩

theorem comp_sound {w : World} {hB : Heap} {k : Nat} {env : Env} (ok : EnvOk env) {scope : Scope} {cl : List (Str × Addr)} {x : Str} {px : Pos} {iter : Expr} {pos : Pos} {ρ ρc : Rho} (hc : CompOk env scope cl x ρ ρc) {elt : Expr} (f : Sc → Sc) (l : List Sc) (hsz : l.length ≤ 1000)
    (hiter : EvalSpec w hB p k env iter ρ (fun d => d = .lst l ∨ d = .tup l))
    (helt : ∀ a ∈ l, ∀ C, EvalSpec w hB true k (compEnvC scope cl C env) elt ((x, .sc a) :: ρc) (fun d => d = .sc (f a)))
    (hs : ∀ x, foldedSetIterable iter env x = pure x) {Q : V → Prop} (hQ : Q (.lst (l.map f))) :
    EvalSpec w hB p k env (.ListComp elt [⟨.Name x px, iter, [], 0⟩] scope pos) ρ Q := by
  intro s g fm A r E R hR
  refine wpAny_ListComp_free (fun _ => true) (CompF l f) hc.clos hc.cell hc.kind hc.names hc.hx ?_ hs
  refine hiter s g fm A r E _ fun v d h₁ t₁ k1 g1 i1 q1 => ?_
  have fm1 := fm.keep g k1
  have fin : ∀ (vs : List Value) (h' : Heap) (tk : Nat) (D : Addr) (ys : Array Value) (us : List Value) (T : String) (a : Addr), ScsAre l vs → us.length = vs.toArray.size → (∀ (j : Nat) (v : Value), us[j]? = some v → vs.toArray[j]? = some v) →
      (h₁.push { cls := .type T, data := .fields #[.ref a, .int 0 0] }).get? D = none → h'.IsList D ys → Paired (CompF l f) (us.filter fun _ => true) ys.toList →
      (∀ b o, b ∉ [h₁.objs.size] → (h₁.push { cls := .type T, data := .fields #[.ref a, .int 0 0] }).get? b = some o → h'.get? b = some o) → R (.ref D) { s with heap := h', toks := tk } := by
    intro vs h' tk D ys us T a hsv hul hus hD hl hP hk
    obtain ⟨kk, g3⟩ := iter_good g1 hk
    have huv : us = vs := by
      apply List.ext_getElem?
      intro j
      by_cases hj : j < us.length
      · have := hus j us[j] (List.getElem?_eq_getElem hj)
        rw [List.getElem?_eq_getElem hj]
        simpa using this.symm
      · rw [List.getElem?_eq_none (by lia), List.getElem?_eq_none (by simp at hul; lia)]
    subst huv
    have hf : us.filter (fun _ => true) = us := by simp
    rw [hf] at hP
    refine hR _ (.lst (l.map f)) h' tk (k1.trans (.of_all kk)) g3 ⟨D, ys.toList, rfl, by simpa using hl, comp_paired hsv hP⟩ hQ
  rcases q1 with rfl | rfl
  · obtain ⟨a, vs, rfl, hl, hsv⟩ := i1
    have hlen := hsv.length
    have hlt : a ≠ h₁.objs.size := by obtain ⟨o, ho, _⟩ := hl; exact Nat.ne_of_lt (Heap.lt_size ho)
    refine wpAny_pyIter_list hl ?_
    refine ⟨_, _, _, _, _, _, rfl, Walks.list (A := A) r.1 _ a hlt vs.toArray, ?_, ⟨⟨_, Heap.get?_push_size _ rfl, rfl, rfl⟩, hl.push _⟩, ?_, comp_quiet ok hc hsv helt r g1 fm1 rfl, ?_⟩
    · simp; exact Nat.le_trans (by lia) (show 1000 ≤ sizeLine by decide)
    · intro b hb
      show b < (h₁.push _).objs.size
      rw [Heap.size_push]
      rcases List.mem_cons.mp hb with rfl | hb
      · exact Nat.lt_succ_self _
      · rcases List.mem_cons.mp hb with rfl | hb
        · obtain ⟨o, ho, _⟩ := hl; exact Nat.lt_succ_of_lt (Heap.lt_size ho)
        · cases hb
    · intro D h' tk ys us hD hl' _ hul hus hP hk
      exact fin vs h' tk D ys us _ a hsv hul hus hD hl' hP hk
  · obtain ⟨a, vs, rfl, hl, hsv⟩ := i1
    have hlen := hsv.length
    have hlt : a ≠ h₁.objs.size := by obtain ⟨o, ho, _⟩ := hl; exact Nat.ne_of_lt (Heap.lt_size ho)
    refine wpAny_pyIter_tuple hl ?_
    refine ⟨_, _, _, _, _, _, rfl, Walks.tuple (A := A) r.1 _ a hlt vs.toArray, ?_, ⟨⟨_, Heap.get?_push_size _ rfl, rfl, rfl⟩, hl.push _⟩, ?_, comp_quiet ok hc hsv helt r g1 fm1 rfl, ?_⟩
    · simp; exact Nat.le_trans (by lia) (show 1000 ≤ sizeLine by decide)
    · intro b hb
      show b < (h₁.push _).objs.size
      rw [Heap.size_push]
      rcases List.mem_cons.mp hb with rfl | hb
      · exact Nat.lt_succ_self _
      · rcases List.mem_cons.mp hb with rfl | hb
        · obtain ⟨o, ho, _⟩ := hl; exact Nat.lt_succ_of_lt (Heap.lt_size ho)
        · cases hb
    · intro D h' tk ys us hD hl' _ hul hus hP hk
      exact fin vs h' tk D ys us _ a hsv hul hus hD hl' hP hk

theorem assign_comp_sound {w : World} {hB : Heap} {k : Nat} {env : Env} (ok : EnvOk env) (hfr : EnvFr hB env) {scope : Scope} {cl : List (Str × Addr)} {x y : Str} {px py spos : Pos} {iter : Expr} {pos : Pos} {ρ ρc : Rho} (hc : CompOk env scope cl x ρ ρc) {elt : Expr} (f : Sc → Sc) (l : List Sc) (hsz : l.length ≤ 1000)
    (hsw : swapsWith (.ListComp elt [⟨.Name x px, iter, [], 0⟩] scope pos) (some (.Name y py)) spos.line env = pure true) (hy : okName env y = true)
    (hiter : EvalSpec w hB p k env iter ρ (fun d => d = .lst l ∨ d = .tup l))
    (helt : ∀ a ∈ l, ∀ C, EvalSpec w hB true k (compEnvC scope cl C env) elt ((x, .sc a) :: ρc) (fun d => d = .sc (f a)))
    (hs : ∀ x, foldedSetIterable iter env x = pure x) {Q : Out → Prop} (hQ : Q (.nxt ((y, .lst (l.map f)) :: ρ))) :
    ExecSpec w hB p k env (exec (.Assign [.Name y py] (.ListComp elt [⟨.Name x px, iter, [], 0⟩] scope pos) spos) env) ρ Q := by
  intro s g fm A r E R hR
  refine wpAny_Assign_ListComp_free (fun _ => true) (CompF l f) hsw hc.clos hc.cell hc.kind hc.names hc.hx (okName_local hy).1 (by rw [ok.kind]; rfl) ?_ hs
  refine hiter s g fm A r E _ fun v d h₁ t₁ k1 g1 i1 q1 => ?_
  have fm1 := fm.keep g k1
  obtain ⟨m, hn, hloc⟩ := fm1.m
  have hLlt : env.locals ≠ h₁.objs.size := by obtain ⟨o, _, _, ho, _⟩ := hn; exact Nat.ne_of_lt (Heap.lt_size ho)
  have fin : ∀ (vs : List Value) (h' : Heap) (tk : Nat) (D : Addr) (ys : Array Value) (us : List Value) (T : String) (a : Addr), ScsAre l vs → us.length = vs.toArray.size → (∀ (j : Nat) (v : Value), us[j]? = some v → vs.toArray[j]? = some v) →
      (h₁.push { cls := .type T, data := .fields #[.ref a, .int 0 0] }).get? D = none → h'.IsList D ys → Paired (CompF l f) (us.filter fun _ => true) ys.toList → h'.Ns env.locals (fun z => if z = y then some (.ref D) else m z) →
      (∀ b o, b ≠ env.locals → b ∉ [h₁.objs.size] → (h₁.push { cls := .type T, data := .fields #[.ref a, .int 0 0] }).get? b = some o → h'.get? b = some o) → R .next { s with heap := h', toks := tk } := by
    intro vs h' tk D ys us T a hsv hul hus hD hl hP hns hk
    have kk : ∀ b o, b ≠ env.locals → h₁.get? b = some o → h'.get? b = some o := fun b o hb e => hk b o hb (by simp; exact Nat.ne_of_lt (Heap.lt_size e)) (Heap.get?_push_of_some _ e)
    have hne := g1.ns_ne hn
    have g3 : Good hB h' := by
      refine g1.keep_but (L := env.locals) kk hne.1 hne.2 (hfr.fresh _ (.inl rfl)) ?_
      obtain ⟨o, es, ep, e, dd, _⟩ := hn
      intro o' vs e' q
      rw [e] at e'; cases e'
      rw [dd] at q; cases q
    have kf : KeepF p env h₁ h' := fun b o hb _ e => kk b o (fun q => hb (.inl q)) e
    have huv : us = vs := by
      apply List.ext_getElem?
      intro j
      by_cases hj : j < us.length
      · have := hus j us[j] (List.getElem?_eq_getElem hj)
        rw [List.getElem?_eq_getElem hj]
        simpa using this.symm
      · rw [List.getElem?_eq_none (by lia), List.getElem?_eq_none (by simp at hul; lia)]
    subst huv
    have hf : us.filter (fun _ => true) = us := by simp
    rw [hf] at hP
    have hcell : ∀ c v, h₁.IsCell c v → h'.IsCell c v := by
      rintro c v ⟨o, e, dd⟩
      refine ⟨o, kk c o ?_ e, dd⟩
      rintro rfl
      obtain ⟨o', es, ep, e', d', _⟩ := hn
      rw [e] at e'; cases e'; rw [dd] at d'; cases d'
    have fm' : Fm env h' ((y, .lst (l.map f)) :: ρ) := by
      refine ⟨⟨_, hns, ?_⟩, fun z c q1 q2 => let ⟨v, e⟩ := fm1.cells z c q1 q2; ⟨v, hcell c v e⟩⟩
      intro z d e
      rw [List.lookup_cons] at e
      by_cases hz : z = y
      · subst hz
        simp only [beq_self_eq_true] at e
        cases e
        exact ⟨.ref D, .inl ⟨hy, by simp⟩, D, ys.toList, rfl, by simpa using hl, comp_paired hsv hP⟩
      · rw [beq_false_of_ne hz] at e
        obtain ⟨v', a, c⟩ := hloc z d e
        refine ⟨v', ?_, c.keepF g1 fm1 kf⟩
        rcases a with a | ⟨a, c', b1, b2⟩
        · exact .inl ⟨a.1, by simp [hz, a.2]⟩
        · exact .inr ⟨a, c', b1, hcell _ _ b2⟩
    exact hR .next (.nxt ((y, .lst (l.map f)) :: ρ)) h' tk ((k1.toF _).trans kf) g3 ⟨rfl, fm'⟩ hQ
  rcases q1 with rfl | rfl
  · obtain ⟨a, vs, rfl, hl, hsv⟩ := i1
    have hlen := hsv.length
    have hlt : a ≠ h₁.objs.size := by obtain ⟨o, ho, _⟩ := hl; exact Nat.ne_of_lt (Heap.lt_size ho)
    refine wpAny_pyIter_list hl ?_
    refine ⟨_, _, _, _, _, _, m, rfl, Walks.list (A := A) r.1 _ a hlt vs.toArray, ?_, ⟨⟨_, Heap.get?_push_size _ rfl, rfl, rfl⟩, hl.push _⟩, ?_, by simpa using hLlt, hn.push _, comp_quiet ok hc hsv helt r g1 fm1 rfl, ?_⟩
    · simp; exact Nat.le_trans (by lia) (show 1000 ≤ sizeLine by decide)
    · intro b hb
      show b < (h₁.push _).objs.size
      rw [Heap.size_push]
      rcases List.mem_cons.mp hb with rfl | hb
      · exact Nat.lt_succ_self _
      · rcases List.mem_cons.mp hb with rfl | hb
        · obtain ⟨o, ho, _⟩ := hl; exact Nat.lt_succ_of_lt (Heap.lt_size ho)
        · cases hb
    · intro D h' tk ys us hD hl' _ hul hus hP hns hk
      exact fin vs h' tk D ys us _ a hsv hul hus hD hl' hP hns hk
  · obtain ⟨a, vs, rfl, hl, hsv⟩ := i1
    have hlen := hsv.length
    have hlt : a ≠ h₁.objs.size := by obtain ⟨o, ho, _⟩ := hl; exact Nat.ne_of_lt (Heap.lt_size ho)
    refine wpAny_pyIter_tuple hl ?_
    refine ⟨_, _, _, _, _, _, m, rfl, Walks.tuple (A := A) r.1 _ a hlt vs.toArray, ?_, ⟨⟨_, Heap.get?_push_size _ rfl, rfl, rfl⟩, hl.push _⟩, ?_, by simpa using hLlt, hn.push _, comp_quiet ok hc hsv helt r g1 fm1 rfl, ?_⟩
    · simp; exact Nat.le_trans (by lia) (show 1000 ≤ sizeLine by decide)
    · intro b hb
      show b < (h₁.push _).objs.size
      rw [Heap.size_push]
      rcases List.mem_cons.mp hb with rfl | hb
      · exact Nat.lt_succ_self _
      · rcases List.mem_cons.mp hb with rfl | hb
        · obtain ⟨o, ho, _⟩ := hl; exact Nat.lt_succ_of_lt (Heap.lt_size ho)
        · cases hb
    · intro D h' tk ys us hD hl' _ hul hus hP hns hk
      exact fin vs h' tk D ys us _ a hsv hul hus hD hl' hP hns hk
end Mine
end

section -- C1
open PySem PySem.W PyProof.Rows PySem.Calls
namespace Mine
set_option maxRecDepth 100000
set_option linter.unusedVariables false
variable {p : Bool}
set_option linter.unusedSimpArgs false

theorem call_at {w : World} {hB : Heap} {mg mb : Str → Option Value} (B : Bs w hB mg mb) {k : Nat} (n : Nat) (a : Addr) (names : List Str) {ds : List V} {Q : V → Prop}
    (h0 : (KK w).lookup a = some (obAt w a)) (h1 : (obAt w a).data = .func (fnAt w a)) (h2 : (fnAt w a).body = .stmts (bodyAt w a)) (h3 : fnOk (KK w) (fnAt w a) names = true) (hlen : names.length = ds.length)
    (hbind : ∀ vals : List Value, vals.length = ds.length → bindArgs (fnAt w a) ⟨vals, []⟩ = pure (names.zip vals))
    (h : ∀ L, wpS w hB p k (callEnvC (fnAt w a) L a) n (bodyAt w a) (names.zip ds).reverse (retQ Q)) : CallSpec w hB p (k + 1) (.ref a) ds Q :=
  call_def B h0 h1 h2 h3 hlen hbind h

theorem bind3 {fd : FuncData} {names : List Str} (h : ∀ x y z : Value, bindArgs fd ⟨[x, y, z], []⟩ = pure (names.zip [x, y, z])) : ∀ vals : List Value, vals.length = 3 → bindArgs fd ⟨vals, []⟩ = pure (names.zip vals) := by
  intro vals hv
  obtain ⟨x, l1, rfl, hv1⟩ := lenC hv
  obtain ⟨y, l2, rfl, hv2⟩ := lenC hv1
  obtain ⟨z, l3, rfl, hv3⟩ := lenC hv2
  cases lenN hv3
  exact h x y z
theorem bind2 {fd : FuncData} {names : List Str} (h : ∀ x y : Value, bindArgs fd ⟨[x, y], []⟩ = pure (names.zip [x, y])) : ∀ vals : List Value, vals.length = 2 → bindArgs fd ⟨vals, []⟩ = pure (names.zip vals) := by
  intro vals hv
  obtain ⟨x, l1, rfl, hv1⟩ := lenC hv
  obtain ⟨y, l2, rfl, hv2⟩ := lenC hv1
  cases lenN hv2
  exact h x y
theorem bind1 {fd : FuncData} {names : List Str} (h : ∀ x : Value, bindArgs fd ⟨[x], []⟩ = pure (names.zip [x])) : ∀ vals : List Value, vals.length = 1 → bindArgs fd ⟨vals, []⟩ = pure (names.zip vals) := by
  intro vals hv
  obtain ⟨x, l1, rfl, hv1⟩ := lenC hv
  cases lenN hv1
  exact h x

noncomputable abbrev F (x : UInt64) : V := .sc (.flt x)
noncomputable abbrev I (x : Int) : V := .sc (.int x)
/-- 1.0, 6.0, .. -/
noncomputable def f1 : UInt64 := 4607182418800017408
noncomputable def f2 : UInt64 := 4611686018427387904
noncomputable def f4 : UInt64 := 4616189618054758400
noncomputable def f6 : UInt64 := 4618441417868443648
noncomputable def fh : UInt64 := 4602678819172646912
noncomputable def third : UInt64 := 4599676419421066581
noncomputable def sixth : UInt64 := 4595172819793696085
noncomputable def twothird : UInt64 := 4604180019048437077
noncomputable def fmod1 (x : UInt64) : UInt64 := (Float64.divmod x f1).2
noncomputable abbrev fadd := Float64.add
noncomputable abbrev fsub := Float64.sub
noncomputable abbrev fmul := Float64.mul
noncomputable abbrev fdiv := Float64.div
noncomputable abbrev fzero := Float64.isZero

noncomputable def vK (m1 m2 hue0 : UInt64) (Q : V → Prop) : Prop :=
  condP (flt (fmod1 hue0) sixth) (Q (F (fadd m1 (fmul (fmul (fsub m2 m1) (fmod1 hue0)) f6))))
    (condP (flt (fmod1 hue0) fh) (Q (F m2))
      (condP (flt (fmod1 hue0) twothird) (Q (F (fadd m1 (fmul (fmul (fsub m2 m1) (fsub twothird (fmod1 hue0))) f6))))
        (Q (F m1))))
theorem v_body (w : World) (hB : Heap) (k L : Nat) (m1 m2 hue : UInt64) (Q : V → Prop) :
    wpS w hB p k (callEnvC (fnAt w 108) L 108) 20 (bodyAt w 108) [("hue", F hue), ("m2", F m2), ("m1", F m1)] (retQ Q) = vK m1 m2 hue Q := by
  kernel_rfl
theorem v_call {w : World} {hB : Heap} {mg mb : Str → Option Value} (B : Bs w hB mg mb) {k : Nat} {m1 m2 hue : UInt64} {Q : V → Prop} (h : vK m1 m2 hue Q) : CallSpec w hB p (k + 1) (.ref 108) [F m1, F m2, F hue] Q :=
  call_at B 20 108 ["m1", "m2", "hue"] (by kernel_rfl) (by kernel_rfl) (by kernel_rfl) (by kernel_rfl) rfl (bind3 fun x y z => by kernel_rfl) fun L => by
    show wpS w hB p k (callEnvC (fnAt w 108) L 108) 20 (bodyAt w 108) [("hue", F hue), ("m2", F m2), ("m1", F m1)] (retQ Q)
    rw [v_body]; exact h

/-- three results to a tuple -/
noncomputable def tupQ (Q : V → Prop) (a b c : V) : Prop := match scsOf [a, b, c] with
  | some l => guardF (decide (1000 < l.length)) (Q (.tup l))
  | none => False

noncomputable def rgbHls (w : World) (hB : Heap) (p : Bool) (k : Nat) (h l s : UInt64) (Q : V → Prop) : Prop :=
  let rest (m2 : UInt64) : Prop :=
    let m1 := fsub (fmul f2 l) m2
    CallSpec w hB p k (.ref 108) [F m1, F m2, F (fadd h third)] fun a => CallSpec w hB p k (.ref 108) [F m1, F m2, F h] fun b => CallSpec w hB p k (.ref 108) [F m1, F m2, F (fsub h third)] fun c => tupQ Q a b c
  condP (feq s 0) (Q (.tup [.flt l, .flt l, .flt l])) (condP (fle l fh) (rest (fmul l (fadd f1 s))) (rest (fsub (fadd l s) (fmul l s))))
theorem rgbHls_body (w : World) (hB : Heap) (k L : Nat) (h l s : UInt64) (Q : V → Prop) :
    wpS w hB p k (callEnvC (fnAt w 101) L 101) 20 (bodyAt w 101) [("s", F s), ("l", F l), ("h", F h)] (retQ Q) = rgbHls w hB p k h l s Q := by
  kernel_rfl

noncomputable def hlsK (r g b : UInt64) (Q : V → Prop) : Prop :=
  let maxc := fmax3 r g b
  let minc := fmin3 r g b
  let sumc := fadd maxc minc
  let rangec := fsub maxc minc
  let l := fdiv sumc f2
  let d2 := fsub (fsub f2 maxc) minc
  let rest (s : UInt64) : Prop :=
    let rc := fdiv (fsub maxc r) rangec
    let gc := fdiv (fsub maxc g) rangec
    let bc := fdiv (fsub maxc b) rangec
    let fin (h : UInt64) : Prop := Q (.tup [.flt (fmod1 (fdiv h f6)), .flt l, .flt s])
    guardF (fzero rangec) (guardF (fzero rangec) (guardF (fzero rangec) (condP (feq r maxc) (fin (fsub bc gc)) (condP (feq g maxc) (fin (fsub (fadd f2 rc) bc)) (fin (fsub (fadd f4 gc) rc))))))
  condP (feq minc maxc) (Q (.tup [.flt 0, .flt l, .flt 0])) (condP (fle l fh) (guardF (fzero sumc) (rest (fdiv rangec sumc))) (guardF (fzero d2) (rest (fdiv rangec d2))))
theorem hls_body (w : World) (hB : Heap) (k L : Nat) (r g b : UInt64) (Q : V → Prop) :
    wpS w hB p k (callEnvC (fnAt w 94) L 94) 30 (bodyAt w 94) [("b", F b), ("g", F g), ("r", F r)] (retQ Q) = hlsK r g b Q := by
  kernel_rfl

noncomputable def hsvK (r g b : UInt64) (Q : V → Prop) : Prop :=
  let maxc := fmax3 r g b
  let minc := fmin3 r g b
  let rangec := fsub maxc minc
  let s := fdiv rangec maxc
  let rc := fdiv (fsub maxc r) rangec
  let gc := fdiv (fsub maxc g) rangec
  let bc := fdiv (fsub maxc b) rangec
  let fin (h : UInt64) : Prop := Q (.tup [.flt (fmod1 (fdiv h f6)), .flt s, .flt maxc])
  condP (feq minc maxc) (Q (.tup [.flt 0, .flt 0, .flt maxc])) (guardF (fzero maxc) (guardF (fzero rangec) (guardF (fzero rangec) (guardF (fzero rangec) (condP (feq r maxc) (fin (fsub bc gc)) (condP (feq g maxc) (fin (fsub (fadd f2 rc) bc)) (fin (fsub (fadd f4 gc) rc))))))))
theorem hsv_body (w : World) (hB : Heap) (k L : Nat) (r g b : UInt64) (Q : V → Prop) :
    wpS w hB p k (callEnvC (fnAt w 115) L 115) 30 (bodyAt w 115) [("b", F b), ("g", F g), ("r", F r)] (retQ Q) = hsvK r g b Q := by
  kernel_rfl

noncomputable def truncI (x : UInt64) : Int := PySem.Flt.toInt Float64.truncOf x
noncomputable def rgbHsv (h s v : UInt64) (Q : V → Prop) : Prop :=
  let i := truncI (fmul h f6)
  let f := fsub (fmul h f6) (Float64.ofInt i)
  let p := fmul v (fsub f1 s)
  let q := fmul v (fsub f1 (fmul s f))
  let t := fmul v (fsub f1 (fmul s (fsub f1 f)))
  let j := i.fmod 6
  let c5 := condP (j == 5) (Q (.tup [.flt v, .flt p, .flt q])) False
  let c4 := condP (j == 4) (Q (.tup [.flt t, .flt p, .flt v])) c5
  let c3 := condP (j == 3) (Q (.tup [.flt p, .flt q, .flt v])) c4
  let c2 := condP (j == 2) (Q (.tup [.flt p, .flt v, .flt t])) c3
  let c1 := condP (j == 1) (Q (.tup [.flt q, .flt v, .flt p])) c2
  let c0 := condP (j == 0) (Q (.tup [.flt v, .flt t, .flt p])) c1
  condP (feq s 0) (Q (.tup [.flt v, .flt v, .flt v])) (guardF (!Float64.isFinite (fmul h f6)) (i.natAbs < 2 ^ 1023 ∧ ((6 : Int) ≠ 0 ∧ c0)))
theorem rgbHsv_body (w : World) (hB : Heap) (k L : Nat) (h s v : UInt64) (Q : V → Prop) :
    wpS w hB p k (callEnvC (fnAt w 122) L 122) 30 (bodyAt w 122) [("v", F v), ("s", F s), ("h", F h)] (retQ Q) = rgbHsv h s v Q := by
  kernel_rfl

noncomputable def c30 : UInt64 := 4599075939470750515
noncomputable def c59 : UInt64 := 4603489467105573601
noncomputable def c11 : UInt64 := 4592590756007337001
noncomputable def c74 : UInt64 := 4604840546993784750
noncomputable def c27 : UInt64 := 4598535507515466056
noncomputable def c48 : UInt64 := 4602318531202457272
noncomputable def c41 : UInt64 := 4601057523306793533
noncomputable def ci1 : UInt64 := 4606703976345377586
noncomputable def cq1 : UInt64 := 4603791717925830846
noncomputable def ci2 : UInt64 := 4598621754083818298
noncomputable def cq2 : UInt64 := 4603901015759978483
noncomputable def ci3 : UInt64 := 4607671262177584182
noncomputable def cq3 : UInt64 := 4610375502138591871

noncomputable def yiqK (r g b : UInt64) (Q : V → Prop) : Prop :=
  let y := fadd (fadd (fmul c30 r) (fmul c59 g)) (fmul c11 b)
  let i := fsub (fmul c74 (fsub r y)) (fmul c27 (fsub b y))
  let q := fadd (fmul c48 (fsub r y)) (fmul c41 (fsub b y))
  Q (.tup [.flt y, .flt i, .flt q])
theorem yiq_body (w : World) (hB : Heap) (k L : Nat) (r g b : UInt64) (Q : V → Prop) :
    wpS w hB p k (callEnvC (fnAt w 80) L 80) 30 (bodyAt w 80) [("b", F b), ("g", F g), ("r", F r)] (retQ Q) = yiqK r g b Q := by
  kernel_rfl

noncomputable def rgbYiq (y i q : UInt64) (Q : V → Prop) : Prop :=
  let r := fadd (fadd y (fmul ci1 i)) (fmul cq1 q)
  let g := fsub (fsub y (fmul ci2 i)) (fmul cq2 q)
  let b := fadd (fsub y (fmul ci3 i)) (fmul cq3 q)
  let cb (r g b : UInt64) : Prop := condP (fgt b f1) (Q (.tup [.flt r, .flt g, .flt f1])) (Q (.tup [.flt r, .flt g, .flt b]))
  let cg (r g b : UInt64) : Prop := condP (fgt g f1) (cb r f1 b) (cb r g b)
  let cr (r g b : UInt64) : Prop := condP (fgt r f1) (cg f1 g b) (cg r g b)
  let lb (r g b : UInt64) : Prop := condP (flt b 0) (cr r g 0) (cr r g b)
  let lg (r g b : UInt64) : Prop := condP (flt g 0) (lb r 0 b) (lb r g b)
  condP (flt r 0) (lg 0 g b) (lg r g b)
theorem rgbYiq_body (w : World) (hB : Heap) (k L : Nat) (y i q : UInt64) (Q : V → Prop) :
    wpS w hB p k (callEnvC (fnAt w 87) L 87) 30 (bodyAt w 87) [("q", F q), ("i", F i), ("y", F y)] (retQ Q) = rgbYiq y i q Q := by
  kernel_rfl

theorem condP.imp {b : Bool} {P1 P2 P1' P2' : Prop} (h : condP b P1 P2) (h1 : P1 → P1') (h2 : P2 → P2') : condP b P1' P2' := ⟨fun e => h1 (h.1 e), fun e => h2 (h.2 e)⟩
theorem guardF.imp {b : Bool} {P P' : Prop} (h : guardF b P) (h1 : P → P') : guardF b P' := by
  unfold guardF at *; split at h; exact h.elim; rename_i q; rw [if_neg q]; exact h1 h

theorem vK.mono {m1 m2 hue : UInt64} {Q Q' : V → Prop} (h : vK m1 m2 hue Q) (hQ : ∀ d, Q d → Q' d) : vK m1 m2 hue Q' :=
  h.imp (hQ _) fun h => h.imp (hQ _) fun h => h.imp (hQ _) (hQ _)

noncomputable def rgbHlsP (h l s : UInt64) (Q : V → Prop) : Prop :=
  let rest (m2 : UInt64) : Prop :=
    let m1 := fsub (fmul f2 l) m2
    vK m1 m2 (fadd h third) fun a => vK m1 m2 h fun b => vK m1 m2 (fsub h third) fun c => tupQ Q a b c
  condP (feq s 0) (Q (.tup [.flt l, .flt l, .flt l])) (condP (fle l fh) (rest (fmul l (fadd f1 s))) (rest (fsub (fadd l s) (fmul l s))))

section
variable {w : World} {hB : Heap} {mg mb : Str → Option Value} (B : Bs w hB mg mb) {k : Nat}
include B
theorem rgbHls_of {h l s : UInt64} {Q : V → Prop} (x : rgbHlsP h l s Q) : rgbHls w hB p (k + 1) h l s Q := by
  refine condP.imp x (fun y => y) fun y => condP.imp y (fun z => ?_) fun z => ?_
  all_goals exact v_call B (z.mono fun a z => v_call B (z.mono fun b z => v_call B (z.mono fun c z => z)))
theorem rgbHls_call {h l s : UInt64} {Q : V → Prop} (x : rgbHlsP h l s Q) : CallSpec w hB p (k + 2) (.ref 101) [F h, F l, F s] Q :=
  call_at B 20 101 ["h", "l", "s"] (by kernel_rfl) (by kernel_rfl) (by kernel_rfl) (by kernel_rfl) rfl (bind3 fun x y z => by kernel_rfl) fun L => by
    show wpS w hB p (k + 1) (callEnvC (fnAt w 101) L 101) 20 (bodyAt w 101) [("s", F s), ("l", F l), ("h", F h)] (retQ Q)
    rw [rgbHls_body]; exact rgbHls_of B x
theorem hls_call {r g b : UInt64} {Q : V → Prop} (x : hlsK r g b Q) : CallSpec w hB p (k + 1) (.ref 94) [F r, F g, F b] Q :=
  call_at B 30 94 ["r", "g", "b"] (by kernel_rfl) (by kernel_rfl) (by kernel_rfl) (by kernel_rfl) rfl (bind3 fun x y z => by kernel_rfl) fun L => by
    show wpS w hB p k (callEnvC (fnAt w 94) L 94) 30 (bodyAt w 94) [("b", F b), ("g", F g), ("r", F r)] (retQ Q)
    rw [hls_body]; exact x
theorem hsv_call {r g b : UInt64} {Q : V → Prop} (x : hsvK r g b Q) : CallSpec w hB p (k + 1) (.ref 115) [F r, F g, F b] Q :=
  call_at B 30 115 ["r", "g", "b"] (by kernel_rfl) (by kernel_rfl) (by kernel_rfl) (by kernel_rfl) rfl (bind3 fun x y z => by kernel_rfl) fun L => by
    show wpS w hB p k (callEnvC (fnAt w 115) L 115) 30 (bodyAt w 115) [("b", F b), ("g", F g), ("r", F r)] (retQ Q)
    rw [hsv_body]; exact x
theorem rgbHsv_call {h s v : UInt64} {Q : V → Prop} (x : rgbHsv h s v Q) : CallSpec w hB p (k + 1) (.ref 122) [F h, F s, F v] Q :=
  call_at B 30 122 ["h", "s", "v"] (by kernel_rfl) (by kernel_rfl) (by kernel_rfl) (by kernel_rfl) rfl (bind3 fun x y z => by kernel_rfl) fun L => by
    show wpS w hB p k (callEnvC (fnAt w 122) L 122) 30 (bodyAt w 122) [("v", F v), ("s", F s), ("h", F h)] (retQ Q)
    rw [rgbHsv_body]; exact x
theorem yiq_call {r g b : UInt64} {Q : V → Prop} (x : yiqK r g b Q) : CallSpec w hB p (k + 1) (.ref 80) [F r, F g, F b] Q :=
  call_at B 30 80 ["r", "g", "b"] (by kernel_rfl) (by kernel_rfl) (by kernel_rfl) (by kernel_rfl) rfl (bind3 fun x y z => by kernel_rfl) fun L => by
    show wpS w hB p k (callEnvC (fnAt w 80) L 80) 30 (bodyAt w 80) [("b", F b), ("g", F g), ("r", F r)] (retQ Q)
    rw [yiq_body]; exact x
theorem rgbYiq_call {y i q : UInt64} {Q : V → Prop} (x : rgbYiq y i q Q) : CallSpec w hB p (k + 1) (.ref 87) [F y, F i, F q] Q :=
  call_at B 30 87 ["y", "i", "q"] (by kernel_rfl) (by kernel_rfl) (by kernel_rfl) (by kernel_rfl) rfl (bind3 fun x y z => by kernel_rfl) fun L => by
    show wpS w hB p k (callEnvC (fnAt w 87) L 87) 30 (bodyAt w 87) [("q", F q), ("i", F i), ("y", F y)] (retQ Q)
    rw [rgbYiq_body]; exact x
end
end Mine
end

section -- Mv
open PySem PySem.W PyProof.Rows PySem.Calls
namespace Mine
set_option maxRecDepth 100000
set_option linter.unusedVariables false
set_option linter.unusedSimpArgs false
variable {p : Bool}

/-! parts of a text -/
noncomputable def stAt (w : World) (a i : Nat) : Stmt := (bodyAt w a).getD i default
noncomputable def valOf : Stmt → Expr
  | .Assign _ e _ => e
  | .Return (some e) _ => e
  | .Expr e _ => e
  | _ => default
noncomputable def ifBody : Stmt → List Stmt
  | .If _ b _ _ => b
  | _ => []
noncomputable def cElt : Expr → Expr
  | .ListComp e _ _ _ => e
  | _ => default
noncomputable def cGens : Expr → List Comprehension
  | .ListComp _ g _ _ => g
  | _ => []
noncomputable def cIter (e : Expr) : Expr := ((cGens e).getD 0 default).iter
noncomputable def cTgtPos (e : Expr) : Pos := match ((cGens e).getD 0 default).target with
  | .Name _ q => q
  | _ => default
noncomputable def cScope : Expr → Scope
  | .ListComp _ _ s _ => s
  | _ => default
noncomputable def cPos : Expr → Pos
  | .ListComp _ _ _ q => q
  | _ => default

noncomputable abbrev L3 (a b c : Int) : V := .lst [.int a, .int b, .int c]
noncomputable def part16 : Sc → Sc
  | .int i => .flt (divII i 16)
  | a => a
noncomputable def s16 : UInt64 := divII 1 6
noncomputable def h12 : UInt64 := divII 1 2

noncomputable def movedP (x y z : UInt64) (deed : Int) (Q : V → Prop) : Prop :=
  condP (deed == 0) (hsvK x y z fun d => ∃ h s v, d = .tup [.flt h, .flt s, .flt v] ∧ rgbHsv (fadd h s16) s v Q)
    (condP (deed == 4) (yiqK x y z fun d => ∃ u i q, d = .tup [.flt u, .flt i, .flt q] ∧ rgbYiq (fsub (Float64.ofInt 1) u) (Float64.neg i) (Float64.neg q) Q)
      (hlsK x y z fun d => ∃ h l s, d = .tup [.flt h, .flt l, .flt s] ∧
        condP (deed == 1) (rgbHlsP (fsub h s16) l s Q) (condP (deed == 2) (rgbHlsP h (fsub (Float64.ofInt 1) l) s Q) (rgbHlsP (fadd h h12) l s Q))))

section
variable (w : World) (hB : Heap) (k L : Nat) (a b c deed : Int) (Q : V → Prop)
noncomputable abbrev ρm0 : Rho := [("deed", I deed), ("parts", L3 a b c)]
noncomputable abbrev envM : Env := callEnvC (fnAt w 144) L 144
theorem mv0 : wpS w hB p k (envM w L) 30 (bodyAt w 144) (ρm0 a b c deed) (retQ Q) =
    EvalSpec w hB p k (envM w L) (valOf (stAt w 144 0)) (ρm0 a b c deed) (unpackK ["red", "green", "blue"] (ρm0 a b c deed) fun ρ' => wpS w hB p k (envM w L) 29 ((bodyAt w 144).drop 1) ρ' (retQ Q)) := by
  kernel_rfl
theorem mv_comp : valOf (stAt w 144 0) = .ListComp (cElt (valOf (stAt w 144 0))) [⟨.Name "part" (cTgtPos (valOf (stAt w 144 0))), cIter (valOf (stAt w 144 0)), [], 0⟩] (cScope (valOf (stAt w 144 0))) (cPos (valOf (stAt w 144 0))) := by
  kernel_rfl
theorem mv_iter (R : V → Prop) : wpE w hB p k (envM w L) 5 (cIter (valOf (stAt w 144 0))) (ρm0 a b c deed) R = R (L3 a b c) := by kernel_rfl
theorem mv_elt (C : Addr) (cl : List (Str × Addr)) (i : Int) (R : V → Prop) : wpE w hB p k (compEnvC (cScope (valOf (stAt w 144 0))) cl C (envM w L)) 5 (cElt (valOf (stAt w 144 0))) [("part", I i)] R =
    (((16 : Int) ≠ 0 ∧ Float64.isInf (divII i 16) = false) ∧ R (F (divII i 16))) := by kernel_rfl

variable (x y z : UInt64)
noncomputable abbrev ρm1 : Rho := [("blue", F z), ("green", F y), ("red", F x), ("deed", I deed), ("parts", L3 a b c)]
theorem mv1 : wpS w hB p k (envM w L) 29 ((bodyAt w 144).drop 1) (ρm1 a b c deed x y z) (retQ Q) =
    condP (deed == 0) (CallSpec w hB p k (.ref 115) [F x, F y, F z] (unpackK ["h", "s", "v"] (ρm1 a b c deed x y z) fun ρ' =>
        wpS w hB p k (envM w L) 27 ((ifBody (stAt w 144 1)).drop 1) ρ' (seqOut (fun ρ'' => wpS w hB p k (envM w L) 28 ((bodyAt w 144).drop 2) ρ'' (retQ Q)) (retQ Q))))
      (wpS w hB p k (envM w L) 28 ((bodyAt w 144).drop 2) (ρm1 a b c deed x y z) (retQ Q)) := by kernel_rfl
theorem mv1b (h s v : UInt64) (P : Rho → Prop) : wpS w hB p k (envM w L) 27 ((ifBody (stAt w 144 1)).drop 1) (("v", F v) :: ("s", F s) :: ("h", F h) :: ρm1 a b c deed x y z) (seqOut P (retQ Q)) =
    (((6 : Int) ≠ 0 ∧ Float64.isInf (divII 1 6) = false) ∧ CallSpec w hB p k (.ref 122) [F (fadd h s16), F s, F v] Q) := by kernel_rfl
theorem mv2 : wpS w hB p k (envM w L) 28 ((bodyAt w 144).drop 2) (ρm1 a b c deed x y z) (retQ Q) =
    condP (deed == 4) (CallSpec w hB p k (.ref 80) [F x, F y, F z] (unpackK ["y", "i", "q"] (ρm1 a b c deed x y z) fun ρ' =>
        wpS w hB p k (envM w L) 26 ((ifBody (stAt w 144 2)).drop 1) ρ' (seqOut (fun ρ'' => wpS w hB p k (envM w L) 27 ((bodyAt w 144).drop 3) ρ'' (retQ Q)) (retQ Q))))
      (CallSpec w hB p k (.ref 94) [F x, F y, F z] (unpackK ["h", "l", "s"] (ρm1 a b c deed x y z) fun ρ' => wpS w hB p k (envM w L) 26 ((bodyAt w 144).drop 4) ρ' (retQ Q))) := by kernel_rfl
theorem mv2b (u i q : UInt64) (P : Rho → Prop) : wpS w hB p k (envM w L) 26 ((ifBody (stAt w 144 2)).drop 1) (("q", F q) :: ("i", F i) :: ("y", F u) :: ρm1 a b c deed x y z) (seqOut P (retQ Q)) =
    ((1 : Int).natAbs < 2 ^ 1023 ∧ CallSpec w hB p k (.ref 87) [F (fsub (Float64.ofInt 1) u), F (Float64.neg i), F (Float64.neg q)] Q) := by kernel_rfl
theorem mv3 (h l s : UInt64) : wpS w hB p k (envM w L) 26 ((bodyAt w 144).drop 4) (("s", F s) :: ("l", F l) :: ("h", F h) :: ρm1 a b c deed x y z) (retQ Q) =
    condP (deed == 1) (((6 : Int) ≠ 0 ∧ Float64.isInf (divII 1 6) = false) ∧ CallSpec w hB p k (.ref 101) [F (fsub h s16), F l, F s] Q)
      (condP (deed == 2) ((1 : Int).natAbs < 2 ^ 1023 ∧ CallSpec w hB p k (.ref 101) [F h, F (fsub (Float64.ofInt 1) l), F s] Q)
        (((2 : Int) ≠ 0 ∧ Float64.isInf (divII 1 2) = false) ∧ CallSpec w hB p k (.ref 101) [F (fadd h h12), F l, F s] Q)) := by kernel_rfl
end

theorem hsvK.mono {r g b : UInt64} {Q Q' : V → Prop} (h : hsvK r g b Q) (hQ : ∀ d, Q d → Q' d) : hsvK r g b Q' := by
  unfold hsvK at *
  refine h.imp (hQ _) fun h => h.imp fun h => h.imp fun h => h.imp fun h => h.imp fun h => h.imp (hQ _) fun h => h.imp (hQ _) (hQ _)
theorem hlsK.mono {r g b : UInt64} {Q Q' : V → Prop} (h : hlsK r g b Q) (hQ : ∀ d, Q d → Q' d) : hlsK r g b Q' := by
  unfold hlsK at *
  have key : ∀ {s : UInt64} {z1 z2 z3 e1 e2 : Bool} {d1 d2 d3 : V}, guardF z1 (guardF z2 (guardF z3 (condP e1 (Q d1) (condP e2 (Q d2) (Q d3))))) → guardF z1 (guardF z2 (guardF z3 (condP e1 (Q' d1) (condP e2 (Q' d2) (Q' d3))))) :=
    fun h => h.imp fun h => h.imp fun h => h.imp fun h => h.imp (hQ _) fun h => h.imp (hQ _) (hQ _)
  exact h.imp (hQ _) fun h => h.imp (fun h => h.imp (key (s := r))) (fun h => h.imp (key (s := r)))

theorem one_small : (1 : Int).natAbs < 2 ^ 1023 := by
  show 1 < 2 ^ 1023
  exact Nat.one_lt_two_pow (by decide)
theorem i16_fin {i : Int} (h0 : 0 ≤ i) (h1 : i ≤ 16) : Float64.isInf (divII i 16) = false := by
  have : i = 0 ∨ i = 1 ∨ i = 2 ∨ i = 3 ∨ i = 4 ∨ i = 5 ∨ i = 6 ∨ i = 7 ∨ i = 8 ∨ i = 9 ∨ i = 10 ∨ i = 11 ∨ i = 12 ∨ i = 13 ∨ i = 14 ∨ i = 15 ∨ i = 16 := by lia
  rcases this with rfl | rfl | rfl | rfl | rfl | rfl | rfl | rfl | rfl | rfl | rfl | rfl | rfl | rfl | rfl | rfl | rfl <;> decide +kernel

theorem moved_call {w : World} {hB : Heap} {mg mb : Str → Option Value} (B : Bs w hB mg mb) {k : Nat} {a b c deed : Int} (ha : 0 ≤ a ∧ a ≤ 16) (hb : 0 ≤ b ∧ b ≤ 16) (hc : 0 ≤ c ∧ c ≤ 16) {Q : V → Prop}
    (h : movedP (divII a 16) (divII b 16) (divII c 16) deed Q) : CallSpec w hB p (k + 3) (.ref 144) [L3 a b c, I deed] Q :=
  call_at B 30 144 ["parts", "deed"] (by kernel_rfl) (by kernel_rfl) (by kernel_rfl) (by kernel_rfl) rfl (bind2 fun x y => by kernel_rfl) fun L => by
    show wpS w hB p (k + 2) (envM w L) 30 (bodyAt w 144) (ρm0 a b c deed) (retQ Q)
    rw [mv0, mv_comp]
    have ok : EnvOk (envM w L) := ⟨by kernel_rfl, by kernel_rfl, by kernel_rfl⟩
    refine comp_sound ok (ρc := []) (cl := []) (compOk0 (by kernel_rfl) (by kernel_rfl)) part16 [.int a, .int b, .int c] (by simp) ?_ ?_ ?_ ?_
    · refine (wpE_sound B ok 5).1 _ _ _ ?_
      rw [mv_iter]; exact .inl rfl
    · intro q hq C
      have okc : EnvOk (compEnvC (cScope (valOf (stAt w 144 0))) [] C (envM w L)) := ⟨by kernel_rfl, by kernel_rfl, by kernel_rfl⟩
      refine (wpE_sound B okc 5).1 _ _ _ ?_
      have : ∃ i : Int, q = .int i ∧ 0 ≤ i ∧ i ≤ 16 := by
        simp only [List.mem_cons, List.mem_nil_iff, or_false] at hq
        rcases hq with rfl | rfl | rfl
        · exact ⟨_, rfl, ha⟩
        · exact ⟨_, rfl, hb⟩
        · exact ⟨_, rfl, hc⟩
      obtain ⟨i, rfl, hi⟩ := this
      show wpE _ _ _ _ _ 5 _ [("part", I i)] _
      rw [mv_elt]
      exact ⟨⟨by decide, i16_fin hi.1 hi.2⟩, rfl⟩
    · intro v; kernel_rfl
    · show wpS w hB p (k + 2) (envM w L) 29 ((bodyAt w 144).drop 1) (ρm1 a b c deed (divII a 16) (divII b 16) (divII c 16)) (retQ Q)
      generalize divII a 16 = x at *
      generalize divII b 16 = y at *
      generalize divII c 16 = z at *
      have h16 : (6 : Int) ≠ 0 ∧ Float64.isInf (divII 1 6) = false := ⟨by decide, by decide +kernel⟩
      rw [mv1]
      unfold movedP at h
      refine h.imp (fun h => hsv_call B (h.mono ?_)) fun h => ?_
      · rintro d ⟨h, s, v, rfl, hq⟩
        show wpS w hB p (k + 2) (envM w L) 27 ((ifBody (stAt w 144 1)).drop 1) (("v", F v) :: ("s", F s) :: ("h", F h) :: ρm1 a b c deed x y z) (seqOut _ (retQ Q))
        rw [mv1b]
        exact ⟨h16, rgbHsv_call B hq⟩
      · rw [mv2]
        refine h.imp (fun h => yiq_call B ?_) fun h => hls_call B (h.mono ?_)
        · obtain ⟨u, i, q, e, hq⟩ := h
          unfold yiqK
          dsimp only
          rw [e]
          show wpS w hB p (k + 2) (envM w L) 26 ((ifBody (stAt w 144 2)).drop 1) (("q", F q) :: ("i", F i) :: ("y", F u) :: ρm1 a b c deed x y z) (seqOut _ (retQ Q))
          rw [mv2b]
          exact ⟨one_small, rgbYiq_call B hq⟩
        · rintro d ⟨h, l, s, rfl, hq⟩
          show wpS w hB p (k + 2) (envM w L) 26 ((bodyAt w 144).drop 4) (("s", F s) :: ("l", F l) :: ("h", F h) :: ρm1 a b c deed x y z) (retQ Q)
          rw [mv3]
          exact hq.imp (fun q => ⟨h16, rgbHls_call B q⟩) fun q => q.imp (fun q => ⟨one_small, rgbHls_call B q⟩) fun q => ⟨⟨by decide, by decide +kernel⟩, rgbHls_call B q⟩
end Mine
end

section -- In1
open PySem PySem.W PyProof.Rows PySem.Calls
namespace Mine
set_option maxRecDepth 100000
set_option linter.unusedVariables false
set_option linter.unusedSimpArgs false
variable {p : Bool}
noncomputable abbrev ib (a : Int) : Int := (Builtin.Int.intBits a : Int)

theorem div_body (w : World) (hB : Heap) (k L : Nat) (a b n : Int) (Q : V → Prop) :
    ((decide (ib a - n ≤ 4000) = true) ∧ ((b ≠ 0 ∧ b.natAbs.log2 < 9000) ∧ Q (.tup [.int (a.fdiv b), .int (a.fmod b)]))) →
    wpS w hB p k (callEnvC (fnAt w 38) L 38) 12 (bodyAt w 38) [("n", I n), ("b", I b), ("a", I a)] (retQ Q) := by
  rintro ⟨h1, h2⟩
  have e : wpS w hB p k (callEnvC (fnAt w 38) L 38) 12 (bodyAt w 38) [("n", I n), ("b", I b), ("a", I a)] (retQ Q) =
    condP (decide (ib a - n ≤ 4000)) ((b ≠ 0 ∧ b.natAbs.log2 < 9000) ∧ Q (.tup [.int (a.fdiv b), .int (a.fmod b)])) (wpS w hB p k (callEnvC (fnAt w 38) L 38) 11 ((bodyAt w 38).drop 1) [("n", I n), ("b", I b), ("a", I a)] (retQ Q)) := by kernel_rfl
  rw [e]
  exact ⟨fun _ => h2, fun h => by rw [h1] at h; cases h⟩
end Mine
end

section -- Nd
open PySem PySem.W PyProof.Rows PySem.Calls
namespace Mine
set_option maxRecDepth 100000
set_option linter.unusedVariables false
set_option linter.unusedSimpArgs false
variable {p : Bool}

theorem tab_keep {q : Str} {l c : Nat} {h h' : Heap} {P X : Addr} (x : TabIs q l c h P) (hP : P ≠ X) {ps : Array Value} (hX : h.get? X = some (tabObj ps)) (hps : ∀ s t, ps[1]? ≠ some (.str s t))
    (k : ∀ b o, b ≠ X → h.get? b = some o → h'.get? b = some o) : TabIs q l c h' P := by
  rcases x with e | ⟨c', e, r⟩
  · exact .inl (k _ _ hP e)
  · exact .inr ⟨c', k _ _ hP e, coderec_keeps r fun o => k _ o (coderec_ne r hX hps)⟩
theorem good_54 {hB h h' : Heap} (g : Good hB h) (n1 : hB.get? 54 = none) (k : ∀ b o, b ≠ 54 → h.get? b = some o → h'.get? b = some o) (t : TabIs "_digits2int.<locals>.inner" 48 4 h' 54) : Good hB h' := by
  obtain ⟨ps, e, hps⟩ := tab_one g.td
  exact ⟨fun b o e => k b o (fun q => by rw [q, n1] at e; cases e) (g.stays b o e), t, tab_keep g.ti (by decide) e hps k⟩
theorem good_47 {hB h h' : Heap} (g : Good hB h) (n2 : hB.get? 47 = none) (k : ∀ b o, b ≠ 47 → h.get? b = some o → h'.get? b = some o) (t : TabIs "_int2digits.<locals>.inner" 33 4 h' 47) : Good hB h' := by
  obtain ⟨ps, e, hps⟩ := tab_one g.ti
  exact ⟨fun b o e => k b o (fun q => by rw [q, n2] at e; cases e) (g.stays b o e), tab_keep g.td (by decide) e hps k, t⟩

theorem make_fn {w : World} {hB : Heap} {mg mb : Str → Option Value} (B : Bs w hB mg mb) {s : Shared} (g : Good hB s.heap) {env : Env} (hge0 : env.globals = mainGlobals) {P c : Addr} (hcode : env.code = .ref c) (C : CodeHd hB c P) (hP0 : hB.get? P = none)
    {name qual : Str} {params : Arguments} {body : List Stmt} {scope : Scope} {clos : List (Str × Addr)} {pos : Pos} {firstLine : Nat} (hcl : closureFor scope env = pure clos) (tb : TabIs qual pos.line pos.col s.heap P)
    (back : ∀ h', (∀ b o, b ≠ P → s.heap.get? b = some o → h'.get? b = some o) → TabIs qual pos.line pos.col h' P → Good hB h')
    {A : Around} {E R : Value → Shared → Prop}
    (hR : ∀ f c' doc pm ctv h' tk, h'.get? f = some (fnMade name qual params body scope clos doc pm c' ctv) → s.heap.get? f = none → (∀ b o, b ≠ P → s.heap.get? b = some o → h'.get? b = some o) → Good hB h' → h'.CodeRec (.ref c') qual →
      R (.ref f) { s with heap := h', toks := tk }) :
    wpAny (model prg w) A (makeFunction name qual params (.stmts body) scope env [] [] [] pos firstLine) R E s := by
  obtain ⟨loose, mean, T⟩ := B.T
  have hgs := g.ns_stays T.g
  obtain ⟨bm, ob, b1, b2, b3, b4, b5, b6⟩ := T.bmain
  have hPne : ∀ b o, hB.get? b = some o → b ≠ P := fun b o e q => by rw [q, hP0] at e; cases e
  have hgP : mainGlobals ≠ P := by
    obtain ⟨o, es, ep, e, _⟩ := T.g
    exact hPne _ _ e
  have hbP : bm ≠ P := hPne _ _ b3
  have hbG : bm ≠ mainGlobals := fun q => by
    obtain ⟨o, es, ep, e, hd, _⟩ := T.g
    rw [q, e] at b3; cases b3; rw [hd] at b6; cases b6
  have CS : CodeHd s.heap c P := C.keeps g.stays
  rcases tb with e | ⟨c', e, rc⟩
  · refine makeFunction_K (mg := mg) hcl hge0 hgs hcode CS e trivial rfl hgP ⟨bm, ob, b1, b2, hbG, hbP, g.stays _ _ b3, b4, b5, b6⟩ fun c' ctv doc h' tk hx hge hlt hrec htb => ?_
    have kk : ∀ b o, b ≠ P → s.heap.get? b = some o → (h'.push (fnMade name qual params body scope clos doc ((mg "__name__").getD .none) c' ctv)).get? b = some o := fun b o hb e => Heap.get?_push_of_some _ (hx b o hb e)
    refine hR _ c' doc _ ctv _ tk (Heap.get?_push_size _ rfl) ?_ kk (back _ kk (.inr ⟨c', Heap.get?_push_of_some _ (by simpa using htb), hrec.push _⟩)) (hrec.push _)
    exact Heap.get?_none_of_le (by lia)
  · refine makeFunction_hit (mg := mg) (cv := .ref c') hcl hge0 hgs hcode CS e (by simp [rawInt, TriplesOk]) (by simp [rawInt, codeAmong]) ⟨bm, ob, b1, b2, hbG, hbP, g.stays _ _ b3, b4, b5, b6⟩ fun ctv doc h' tk hk hsz => ?_
    have kk : ∀ b o, b ≠ P → s.heap.get? b = some o → (h'.push (fnMade name qual params body scope clos doc ((mg "__name__").getD .none) c' ctv)).get? b = some o := fun b o hb e => Heap.get?_push_of_some _ (hk b o e)
    have rc' := (rc.keeps hk).push (fnMade name qual params body scope clos doc ((mg "__name__").getD .none) c' ctv)
    refine hR _ c' doc _ ctv _ tk (Heap.get?_push_size _ rfl) ?_ kk (back _ kk (.inr ⟨c', Heap.get?_push_of_some _ (hk _ _ e), rc'⟩)) rc'
    exact Heap.get?_none_of_le hsz

/-! a base grown by what stands now -/
noncomputable def baseOf (h : Heap) (xs : List Addr) : Heap := hideAll h xs
theorem base_get {h : Heap} {xs : List Addr} {b : Addr} {o : Obj} (e : (baseOf h xs).get? b = some o) : h.get? b = some o := of_hideAll _ e
theorem base_of {h : Heap} {xs : List Addr} {b : Addr} {o : Obj} (e : h.get? b = some o) (hb : b ∉ xs) : (baseOf h xs).get? b = some o := hideAll_get _ e hb
theorem base_none {h : Heap} {xs : List Addr} {b : Addr} (hb : b ∈ xs) : (baseOf h xs).get? b = none := hideAll_none _ hb

theorem Bs.grow {w : World} {hB h : Heap} {mg mb : Str → Option Value} (B : Bs w hB mg mb) (g : Good hB h) {xs : List Addr} (hx : ∀ b ∈ xs, hB.get? b = none) (h1 : 54 ∈ xs) (h2 : 47 ∈ xs) : Bs w (baseOf h xs) mg mb := by
  have k : ∀ b o, hB.get? b = some o → (baseOf h xs).get? b = some o := fun b o e => base_of (g.stays b o e) fun q => by rw [hx b q] at e; cases e
  obtain ⟨loose, mean, T⟩ := B.T
  exact ⟨B.X.keeps k, ⟨loose, mean, T.keeps k⟩, B.c1.keeps k, B.c2.keeps k, base_none h1, base_none h2⟩
theorem Good.grow {hB h : Heap} (g : Good hB h) (xs : List Addr) : Good (baseOf h xs) h := ⟨fun b o e => base_get e, g.td, g.ti⟩
theorem Good.shrink {hB h h' : Heap} (g : Good hB h) {xs : List Addr} (hx : ∀ b ∈ xs, hB.get? b = none) (g' : Good (baseOf h xs) h') : Good hB h' :=
  ⟨fun b o e => g'.stays b o (base_of (g.stays b o e) fun q => by rw [hx b q] at e; cases e), g'.td, g'.ti⟩

theorem IsV.stays {h h' : Heap} (k : ∀ b o, h.get? b = some o → h'.get? b = some o) : ∀ {d : V} {v : Value}, IsV h d v → IsV h' d v
  | .sc _, _, x => x
  | .raw _, _, x => x
  | .tup _, _, ⟨a, vs, e, ⟨o, e1, r⟩, q⟩ => ⟨a, vs, e, ⟨o, k _ _ e1, r⟩, q⟩
  | .lst _, _, ⟨a, vs, e, ⟨o, e1, r⟩, q⟩ => ⟨a, vs, e, ⟨o, k _ _ e1, r⟩, q⟩
  | .fn _, _, ⟨e, o, fd, e1, e2⟩ => ⟨e, o, fd, k _ _ e1, e2⟩

noncomputable def closOk (fd : FuncData) (names : List Str) : Bool :=
  fd.scope.kind == .function && !fd.scope.isCoroutine && !fd.scope.isGenerator && fd.scope.names.all (fun x => x.2 != .cell) && fd.globals == mainGlobals && fd.builtins == builtinsNs && names.all (fun x => fd.scope.names.lookup x == some .local && !(x == ("__debug__" : Str)))

theorem lookup_not_cell {x : Str} : ∀ {names : List (Str × NameKind)}, (∀ y ∈ names, y.2 ≠ .cell) → names.lookup x ≠ some .cell
  | [], _, e => by simp at e
  | (y, k) :: r, h, e => by
    rw [List.lookup_cons] at e
    split at e
    · cases e; exact h _ (.head _) rfl
    · exact lookup_not_cell (fun z hz => h z (.tail _ hz)) e

noncomputable def x_ok (y : Str) : Bool := !(y == ("__debug__" : Str)) && !(y == ("__classdict__" : Str))

theorem call_clos {w : World} {hB : Heap} {mg mb : Str → Option Value} (B : Bs w hB mg mb) {k n : Nat} {fa : Addr} {fo : Obj} {fd : FuncData} {body : List Stmt} {names : List Str} {ds : List V} {ρc : Rho} {Q : V → Prop}
    (hl : hB.get? fa = some fo) (hd : fo.data = .func fd) (hbody : fd.body = .stmts body) (hcd : hB.CodeRec fd.code fd.qualname) (hok : closOk fd names = true) (hlen : names.length = ds.length)
    (hbind : ∀ vals : List Value, vals.length = ds.length → bindArgs fd ⟨vals, []⟩ = pure (names.zip vals))
    (hfree : ∀ y d, ρc.lookup y = some d → (fd.scope.names.lookup y = some .free ∧ (x_ok y) = true) ∧ ∃ c v, fd.closure.lookup y = some c ∧ hB.IsCell c (some v) ∧ IsV hB d v)
    (h : ∀ L, wpS w hB p k (callEnv fd L fa) n body ((names.zip ds).reverse ++ ρc) (retQ Q)) : CallSpec w hB p (k + 1) (.ref fa) ds Q := by
  intro s vals g hv A r E R hR
  unfold closOk at hok
  simp only [Bool.and_eq_true, beq_iff_eq, Bool.not_eq_true', List.all_eq_true, bne_iff_ne] at hok
  obtain ⟨⟨⟨⟨⟨⟨hk, hco⟩, hgen⟩, hcell⟩, hgl⟩, hbl⟩, hnm⟩ := hok
  obtain ⟨tr, t1, t2, t3, t4⟩ := triples hlen hv
  have hvl := hv.length
  have hnn : ∀ x ∈ names.zip vals, fd.scope.names.lookup x.1 = some .local := fun x hx => (hnm x.1 (List.of_mem_zip (a := x.1) (b := x.2) hx).1).1
  refine wpAny_call (codeAny_call_def (body := body) (binds := names.zip vals) (by have := r.2.1; lia) (g.stays _ _ hl) hd (B.nl.keeps g.stays) (hcd.keeps g.stays) hbody (.of_eq (hbind vals hvl)) (fun x hx => hcell x hx) hnn (fun h₀ hns hkp => ?_) hco hgen hk)
  have g0 : Good hB h₀ := g.keep_all hkp
  have ok : EnvOk (callEnv fd s.heap.objs.size fa) := ⟨hk, hgl, hbl⟩
  have hown : ∀ b, Own (callEnv fd s.heap.objs.size fa) b → b = s.heap.objs.size := by
    rintro b (rfl | ⟨y, h1, h2⟩)
    · rfl
    · exact absurd h1 (lookup_not_cell hcell)
  have hloc : Fm (callEnv fd s.heap.objs.size fa) h₀ ((names.zip ds).reverse ++ ρc) := by
    refine ⟨⟨_, hns, ?_⟩, fun y c h1 h2 => absurd h1 (lookup_not_cell hcell)⟩
    intro y d e
    rw [List.lookup_append] at e
    cases hlk : (names.zip ds).reverse.lookup y with
    | some d' =>
      rw [hlk] at e
      simp only [Option.or_some, Option.some_or, Option.some.injEq] at e
      subst e
      rw [t1, ← List.map_reverse] at hlk
      obtain ⟨v, e1, e2, e3⟩ := look_par (h := s.heap) (fun t ht => t3 t (by simpa using ht)) hlk
      have hy : y ∈ names := by rw [← t4]; simpa using e3
      refine ⟨v, .inl ⟨?_, by rw [t2, ← List.map_reverse]; exact e1⟩, e2.keep (p := p) g (.of_all hkp)⟩
      unfold okName
      simp only [Bool.and_eq_true, beq_iff_eq, Bool.not_eq_true']
      exact hnm y hy
    | none =>
      rw [hlk] at e
      simp only [Option.none_or] at e
      obtain ⟨⟨h1, h2⟩, c, v, h3, h4, h5⟩ := hfree y d e
      have kk : ∀ b o, hB.get? b = some o → h₀.get? b = some o := fun b o e => hkp b o (g.stays b o e)
      refine ⟨v, .inr ⟨?_, c, h3, h4.keeps kk⟩, h5.stays kk⟩
      unfold okCell
      unfold x_ok at h2
      simp only [Bool.and_eq_true, Bool.or_eq_true, beq_iff_eq, Bool.not_eq_true'] at h2 ⊢
      exact ⟨.inr h1, h2⟩
  refine wpS_sound B ok ⟨fun b hb => by rw [hown b hb]; exact fresh_size g (Nat.le_refl _), fun y x c h1 => absurd h1 (lookup_not_cell hcell)⟩ n body _ _ (h _) { s with heap := h₀, toks := s.toks + (names.zip vals).length } g0 hloc (A.deeper (callEnv fd s.heap.objs.size fa)) ⟨r.1, ?_, ?_⟩ _ _ fun fl o' h₁ t₁ k1 g1 o1 q1 => ?_
  · have := r.2.1
    show A.depth + 1 + k < recursionLimit
    lia
  · have := r.2.2
    show A.units + 3 + 10 * k + 100 < cLine
    lia
  · cases o' with
    | ret d =>
      obtain ⟨v, rfl, i⟩ := o1
      refine hR v d h₁ t₁ ?_ g1 i q1
      intro b o'' hb1 e
      exact k1 b o'' (fun hb => absurd (Heap.lt_size e) (by rw [hown b hb]; exact Nat.lt_irrefl _)) hb1 (hkp b o'' e)
    | _ => exact q1.elim
end Mine
end

section -- Dg
open PySem PySem.W PyProof.Rows PySem.Calls
namespace Mine
set_option maxRecDepth 100000
set_option linter.unusedVariables false
set_option linter.unusedSimpArgs false
variable {p : Bool}

noncomputable def dfBody : Stmt → List Stmt
  | .FunctionDef _ _ b _ _ _ _ _ _ _ => b
  | _ => []
noncomputable def dfScope : Stmt → Scope
  | .FunctionDef _ _ _ _ _ _ s _ _ _ => s
  | _ => default
noncomputable def dfParams : Stmt → Arguments
  | .FunctionDef _ a _ _ _ _ _ _ _ _ => a
  | _ => default
noncomputable def dfPos : Stmt → Pos
  | .FunctionDef _ _ _ _ _ _ _ _ _ q => q
  | _ => default

noncomputable abbrev dSt (w : World) : Stmt := stAt w 59 0
noncomputable abbrev dFd (w : World) (clos : List (Str × Addr)) (doc pm : Value) (c' : Addr) (ctv : Value) : FuncData :=
  fnX "inner" "_digits2int.<locals>.inner" (dfParams (dSt w)) (dfBody (dSt w)) (dfScope (dSt w)) clos .none .none doc pm none (.ref c') ctv

noncomputable abbrev imid (L R : Int) : Int := (L + R).fdiv (2 ^ (1 : Int).toNat)
noncomputable abbrev ρd (ds : List Sc) (fa : Addr) (n : Int) : Rho := [("digits", .lst ds), ("inner", .fn fa), ("n", I n)]
theorem d_inner (w : World) (hB : Heap) (k LL fa : Nat) (clos : List (Str × Addr)) (doc pm : Value) (c' : Addr) (ctv : Value) (ds : List Sc) (n L R : Int) (Q : V → Prop) :
    wpS w hB p k (callEnv (dFd w clos doc pm c' ctv) LL fa) 14 (dfBody (dSt w)) (("R", I R) :: ("L", I L) :: ρd ds fa n) (retQ Q) =
    condP (L + 1 == R) (itemSpec (.lst ds) (I L) Q)
      ((0 : Int) ≤ 1 ∧ (IntMulOk (imid L R - L) n ∧ CallSpec w hB p k (.ref fa) [I (imid L R), I R] fun d1 => litB .LShift d1 (I ((imid L R - L) * n)) fun d2 => CallSpec w hB p k (.ref fa) [I L, I (imid L R)] fun d3 => litB .Add d2 d3 Q)) := by
  kernel_rfl

/-! the number of given figures -/
noncomputable def valD (n : Nat) : List Int → Int
  | [] => 0
  | x :: r => x + 2 ^ n * valD n r
theorem valD_append (n : Nat) : ∀ (a b : List Int), valD n (a ++ b) = valD n a + 2 ^ (n * a.length) * valD n b
  | [], b => by simp [valD]
  | x :: a, b => by
    simp only [List.cons_append, valD, valD_append n a b, List.length_cons]
    rw [Nat.mul_add, Nat.mul_one, Nat.add_comm (n * a.length) n, Int.pow_add, Int.mul_add, ← Int.mul_assoc]
    lia
theorem two_pow_pos' (n : Nat) : (0 : Int) < 2 ^ n := by
  have := Nat.two_pow_pos n
  exact_mod_cast this
theorem valD_nonneg (n : Nat) : ∀ {l : List Int}, (∀ x ∈ l, 0 ≤ x) → 0 ≤ valD n l
  | [], _ => Int.le_refl _
  | x :: l, h => by
    have h1 := h x (.head _)
    have h2 := valD_nonneg n (l := l) fun y hy => h y (.tail _ hy)
    have h3 := Int.mul_nonneg (Int.le_of_lt (two_pow_pos' n)) h2
    simp only [valD]; lia
theorem valD_lt (n m : Nat) : ∀ {l : List Int}, (∀ x ∈ l, 0 ≤ x ∧ x < 2 ^ m) → valD n l < 2 ^ (m + (n + 1) * l.length)
  | [], _ => by simp only [valD]; exact two_pow_pos' _
  | x :: l, h => by
    have h1 := h x (.head _)
    have h2 := valD_lt n m (l := l) fun y hy => h y (.tail _ hy)
    have hp := two_pow_pos' n
    have h3 : (2 : Int) ^ n * valD n l < 2 ^ n * 2 ^ (m + (n + 1) * l.length) := Int.mul_lt_mul_of_pos_left h2 hp
    rw [← Int.pow_add] at h3
    have h4 : (2 : Int) ^ m ≤ 2 ^ (n + (m + (n + 1) * l.length)) := by
      exact_mod_cast Nat.pow_le_pow_right (by decide) (by lia)
    have e : m + (n + 1) * (l.length + 1) = (n + (m + (n + 1) * l.length)) + 1 := by
      rw [Nat.mul_add]; lia
    simp only [valD, List.length_cons]
    rw [e, Int.pow_succ]
    lia
theorem bits_le {x : Int} {m : Nat} (h0 : 0 ≤ x) (h : x < 2 ^ m) : Builtin.Int.intBits x ≤ m := by
  unfold Builtin.Int.intBits
  split
  · exact Nat.zero_le _
  · rename_i hx
    have hx : x.natAbs ≠ 0 := by
      intro e
      have : x = 0 := by lia
      simp [this] at hx
    have : x.natAbs < 2 ^ m := by
      have h' : ((x.natAbs : Nat) : Int) < ((2 ^ m : Nat) : Int) := by
        rw [Int.natAbs_of_nonneg h0]; exact_mod_cast h
      exact_mod_cast h'
    have := (Nat.log2_lt hx).mpr this
    lia

theorem imid_nat (L R : Nat) : imid (L : Int) (R : Int) = ((L + R) / 2 : Nat) := by
  unfold imid
  show ((L : Int) + R).fdiv (2 ^ 1) = _
  rw [Int.fdiv_eq_ediv_of_nonneg _ (by decide)]
  norm_cast
theorem item_nat {l : List Sc} {i : Nat} {x : Sc} {Q : V → Prop} (hx : l[i]? = some x) (hl : l.length ≤ 1000) (h : Q (.sc x)) : itemSpec (.lst l) (I (i : Int)) Q := by
  simp only [itemSpec, itemAt]
  rw [if_pos (Int.natCast_nonneg i), Int.toNat_natCast, hx]
  exact guardF_in (by simp; lia) h

structure DIn (w : World) (hB : Heap) (fa : Addr) (vs : List Int) (n : Nat) : Prop where
  fo : ∃ clos doc pm c' ctv, hB.get? fa = some (fnMade "inner" "_digits2int.<locals>.inner" (dfParams (dSt w)) (dfBody (dSt w)) (dfScope (dSt w)) clos doc pm c' ctv) ∧ hB.CodeRec (.ref c') "_digits2int.<locals>.inner" ∧
    (∃ c v, clos.lookup ("digits" : Str) = some c ∧ hB.IsCell c (some v) ∧ IsV hB (.lst (vs.map .int)) v) ∧ (∃ c, clos.lookup ("inner" : Str) = some c ∧ hB.IsCell c (some (.ref fa))) ∧ (∃ c t, clos.lookup ("n" : Str) = some c ∧ hB.IsCell c (some (.int n t)))

theorem d_call {w : World} {hB : Heap} {mg mb : Str → Option Value} (B : Bs w hB mg mb) {fa : Addr} {vs : List Int} {n : Nat} (D : DIn w hB fa vs n) (hn : n ≤ 1000) (hlen : vs.length ≤ 4) (hv : ∀ x ∈ vs, 0 ≤ x ∧ x < 2 ^ 1000) :
    ∀ (m k L R : Nat), L < R → R ≤ vs.length → R - L ≤ m → ∀ Q : V → Prop, Q (I (valD n ((vs.drop L).take (R - L)))) → CallSpec w hB p (k + m) (.ref fa) [I (L : Int), I (R : Int)] Q := by
  intro m
  induction m with
  | zero => intro k L R h1 h2 h3; lia
  | succ m ih =>
    intro k L R h1 h2 h3 Q hQ
    obtain ⟨clos, doc, pm, c', ctv, hfo, hcd, ⟨c1, v1, e1, i1, j1⟩, ⟨c2, e2, i2⟩, ⟨c3, t3, e3, i3⟩⟩ := D.fo
    refine call_clos B (n := 14) (names := ["L", "R"]) (ρc := ρd (vs.map .int) fa n) hfo rfl rfl hcd (by kernel_rfl) rfl (bind2 fun x y => by kernel_rfl) ?_ fun LL => ?_
    · intro y d e
      simp only [List.lookup_cons, List.lookup_nil] at e
      split at e
      · rename_i hy
        cases e
        rw [eq_of_beq hy]
        exact ⟨⟨by kernel_rfl, by kernel_rfl⟩, c1, v1, e1, i1, j1⟩
      · split at e
        · rename_i hy
          cases e
          rw [eq_of_beq hy]
          exact ⟨⟨by kernel_rfl, by kernel_rfl⟩, c2, _, e2, i2, rfl, _, _, hfo, rfl⟩
        · split at e
          · rename_i hy
            cases e
            rw [eq_of_beq hy]
            exact ⟨⟨by kernel_rfl, by kernel_rfl⟩, c3, _, e3, i3, t3, rfl⟩
          · cases e
    · show wpS w hB p (k + m) (callEnv (dFd w clos doc pm c' ctv) LL fa) 14 (dfBody (dSt w)) (("R", I R) :: ("L", I L) :: ρd (vs.map .int) fa n) (retQ Q)
      rw [d_inner]
      constructor
      · intro h
        have h : L + 1 = R := by
          have := eq_of_beq h
          lia
        have hL : L < vs.length := by lia
        refine item_nat (x := .int vs[L]) (by simp [hL]) (by simp; lia) ?_
        have e : (vs.drop L).take (R - L) = [vs[L]] := by
          rw [show R - L = 1 by lia, List.drop_eq_getElem_cons hL]; rfl
        rw [e] at hQ
        simpa [valD] using hQ
      · intro h
        have h : L + 1 ≠ R := fun e => by
          have : ((L : Int) + 1 == (R : Int)) = true := by simp; lia
          rw [this] at h; cases h
        rw [imid_nat]
        have hm1 : L < (L + R) / 2 := by lia
        have hm2 : (L + R) / 2 < R := by lia
        generalize hmid : (L + R) / 2 = mid at *
        have hsub : ((mid : Nat) : Int) - (L : Int) = ((mid - L : Nat) : Int) := by lia
        rw [hsub]
        refine ⟨by decide, .of_left ?_, ?_⟩
        · exact Nat.le_trans (bits_le (m := 10) (Int.natCast_nonneg _) (by norm_cast; show mid - L < 1024; lia)) (by decide)
        · refine ih k mid R hm2 h2 (by lia) _ ?_
          have hbd : ∀ (a b : Nat) (x : Int), x ∈ (vs.drop a).take b → 0 ≤ x ∧ x < 2 ^ 1000 := fun a b x hx => hv x (List.mem_of_mem_drop (List.mem_of_mem_take hx))
          have hhi0 := valD_nonneg n (l := (vs.drop mid).take (R - mid)) fun x hx => (hbd _ _ x hx).1
          have hhi := valD_lt n 1000 (l := (vs.drop mid).take (R - mid)) (hbd _ _)
          have hexp : 1000 + (n + 1) * ((vs.drop mid).take (R - mid)).length ≤ 6000 := by
            have : ((vs.drop mid).take (R - mid)).length ≤ 4 := by simp; lia
            have := Nat.mul_le_mul (show n + 1 ≤ 1001 by lia) this
            lia
          have hb := bits_le hhi0 hhi
          have hsh : (mid - L) * n ≤ 4000 := Nat.le_trans (Nat.mul_le_mul (show mid - L ≤ 4 by lia) hn) (by decide)
          have hsh' : ((mid - L : Nat) : Int) * (n : Int) = (((mid - L) * n : Nat) : Int) := by norm_cast
          rw [hsh']
          refine ⟨⟨Int.natCast_nonneg _, ?_⟩, ?_⟩
          · have : (2 : Int) ^ 27 = 134217728 := by decide
            rw [this]; lia
          · refine ih k L mid hm1 (by lia) (by lia) _ ?_
            rw [Int.toNat_natCast]
            have e : (vs.drop L).take (R - L) = (vs.drop L).take (mid - L) ++ (vs.drop mid).take (R - mid) := by
              have h1 : R - L = (mid - L) + (R - mid) := by lia
              rw [h1, List.take_add, List.drop_drop, show L + (mid - L) = mid by lia]
            rw [e, valD_append] at hQ
            have hl : ((vs.drop L).take (mid - L)).length = mid - L := by simp; lia
            rw [hl] at hQ
            have e2 : valD n ((vs.drop mid).take (R - mid)) * 2 ^ ((mid - L) * n) + valD n ((vs.drop L).take (mid - L)) = valD n ((vs.drop L).take (mid - L)) + 2 ^ (n * (mid - L)) * valD n ((vs.drop mid).take (R - mid)) := by
              rw [Nat.mul_comm (mid - L) n, Int.mul_comm, Int.add_comm]
            show Q (.sc (.int _))
            rw [e2]; exact hQ

theorem IsV.base {hB h : Heap} (g : Good hB h) : ∀ {d : V} {v : Value}, IsV h d v → IsV (baseOf h [54, 47]) d v := by
  have nm : ∀ {a : Addr}, a ≠ 54 ∧ a ≠ 47 → a ∉ ([54, 47] : List Addr) := fun h q => by
    simp only [List.mem_cons, List.mem_nil_iff, or_false] at q
    rcases q with q | q
    · exact h.1 q
    · exact h.2 q
  intro d v x
  cases d with
  | sc _ => exact x
  | raw _ => exact x
  | tup l =>
    obtain ⟨a, vs, e, ⟨o, e1, c, r⟩, q⟩ := x
    exact ⟨a, vs, e, ⟨o, base_of e1 (nm (g.ne e1 fun ps q => by rw [q] at c; cases c)), c, r⟩, q⟩
  | lst l =>
    obtain ⟨a, vs, e, ⟨o, e1, c, r⟩, q⟩ := x
    exact ⟨a, vs, e, ⟨o, base_of e1 (nm (g.ne e1 fun ps q => by rw [q] at c; cases c)), c, r⟩, q⟩
  | fn a =>
    obtain ⟨e, o, fd, e1, e2⟩ := x
    exact ⟨e, o, fd, base_of e1 (nm (g.ne e1 fun ps q => by rw [q] at e2; cases e2)), e2⟩
theorem cell_base {hB h : Heap} (g : Good hB h) {c : Addr} {v : Option Value} (x : h.IsCell c v) : (baseOf h [54, 47]).IsCell c v := by
  obtain ⟨o, e, d⟩ := x
  have := g.ne e fun ps q => by rw [q] at d; cases d
  exact ⟨o, base_of e (by simp; exact this), d⟩
theorem coderec_base {hB h : Heap} (g : Good hB h) {c : Addr} {q : Str} (x : h.CodeRec (.ref c) q) : (baseOf h [54, 47]).CodeRec (.ref c) q := by
  obtain ⟨ps, e, hps⟩ := tab_one g.td
  obtain ⟨ps', e', hps'⟩ := tab_one g.ti
  have h1 := coderec_ne x e hps
  have h2 := coderec_ne x e' hps'
  exact coderec_keeps x fun o eo => base_of eo (by simp; exact ⟨h1, h2⟩)
/-- a name that is a cell is held in its cell -/
theorem Fm.inCell {env : Env} {h : Heap} {ρ : Rho} (fm : Fm env h ρ) {x : Str} {d : V} (hx : ρ.lookup x = some d) (hk : env.kindOf x = some .cell) {c : Addr} (hc : env.cells.lookup x = some c) : ∃ v, h.IsCell c (some v) ∧ IsV h d v := by
  obtain ⟨m, hn, hl⟩ := fm.m
  obtain ⟨v, hh, hi⟩ := hl x d hx
  rcases hh with ⟨a, _⟩ | ⟨_, c', hc', hv⟩
  · rw [(okName_local a).1] at hk; cases hk
  · rw [hc] at hc'; cases hc'; exact ⟨v, hv, hi⟩

noncomputable abbrev envD (w : World) (L : Nat) : Env := callEnvC (fnAt w 59) L 59
theorem d_ret (w : World) (hB : Heap) (k L f : Nat) (ds : List Sc) (n : Int) (Q : V → Prop) :
    wpE w hB p k (envD w L) 10 (valOf (stAt w 59 1)) [("inner", .fn f), ("n", I n), ("digits", .lst ds)] Q =
    guardF (decide (1000 < ds.length)) (condP (!ds.isEmpty) (guardF (decide (1000 < ds.length)) (CallSpec w hB p k (.ref f) [I 0, I ds.length] Q)) (Q (I 0))) := by kernel_rfl
noncomputable def stPos : Stmt → Pos
  | .Return _ q => q
  | .FunctionDef _ _ _ _ _ _ _ _ _ q => q
  | .Assign _ _ q => q
  | .If _ _ _ q => q
  | .Expr _ q => q
  | _ => default
theorem d_body (w : World) : bodyAt w 59 = [.FunctionDef "inner" (dfParams (dSt w)) (dfBody (dSt w)) [] none [] (dfScope (dSt w)) none "inner" (dfPos (dSt w)), .Return (some (valOf (stAt w 59 1))) (stPos (stAt w 59 1))] := by kernel_rfl

theorem digits2int_call {w : World} {hB : Heap} {mg mb : Str → Option Value} (B : Bs w hB mg mb) {k : Nat} {vs : List Int} {n : Nat} (hn : n ≤ 1000) (hlen : vs.length ≤ 4) (hv : ∀ x ∈ vs, 0 ≤ x ∧ x < 2 ^ 1000) {Q : V → Prop} (hQ : Q (I (valD n vs))) :
    CallSpec w hB false (k + 4 + 1) (.ref 59) [.lst (vs.map .int), I (n : Int)] Q := by
  refine call_defE B (o := obAt w 59) (fd := fnAt w 59) (body := bodyAt w 59) (names := ["digits", "n"]) (by kernel_rfl) (by kernel_rfl) (by kernel_rfl) (by kernel_rfl) rfl (bind2 fun x y => by kernel_rfl) fun L ok hfr => ?_
  show ExecSpec w hB false (k + 4) (envD w L) (execs (bodyAt w 59) (envD w L)) [("n", I n), ("digits", .lst (vs.map .int))] (retQ Q)
  intro s g fm A r E R hR
  rw [d_body]
  refine wpAny_execs_cons (nestDef_K (by kernel_rfl) (by kernel_rfl) (by kernel_rfl) ?_)
  have eq : qualnameIn (envD w L) "inner" "inner" = "_digits2int.<locals>.inner" := by kernel_rfl
  have eqp : (dfPos (dSt w)).line = 48 ∧ (dfPos (dSt w)).col = 4 := ⟨by kernel_rfl, by kernel_rfl⟩
  rw [eq]
  refine make_fn B g (P := 54) (c := 58) (by kernel_rfl) (by kernel_rfl) B.c1 B.n1 (clos := [("n", L + 1 + 1), ("inner", L + 1 + 1 + 1), ("digits", L + 1)]) (by kernel_rfl) (by rw [eqp.1, eqp.2]; exact g.td) (fun h' kk t => by rw [eqp.1, eqp.2] at t; exact good_54 g B.n1 kk t) ?_
  intro f c' doc pm ctv h' tk hf hnew hkp g' hrec
  have k1 : Keep false s.heap h' := fun b o hb e => hkp b o (by rcases hb with hb | hb; cases hb; exact hb.1) e
  have fm' := fm.keep g k1
  refine store_sound (p := false) (s := { s with heap := h', toks := tk }) ok hfr (d := .fn f) g' fm' (by kernel_rfl) ⟨rfl, _, _, hf, rfl⟩ fun h₂ t₂ k2 g2 fm2 => ?_
  have hf2 : h₂.get? f = some _ := k2 f _ (fm'.not_own hf (fun _ _ q => by cases q) fun _ q => by cases q) (.inr (g'.ne hf fun ps q => by cases q)) hf
  have hrec2 : h₂.CodeRec (.ref c') "_digits2int.<locals>.inner" := by
    obtain ⟨ps, e, hps⟩ := tab_one g'.td
    obtain ⟨ps', e', hps'⟩ := tab_one g'.ti
    refine coderec_keeps hrec fun o eo => k2 c' o ?_ (.inr ⟨coderec_ne hrec e hps, coderec_ne hrec e' hps'⟩) eo
    obtain ⟨c2, o2, vs2, t2, q1, q2, q3, q4⟩ := hrec
    cases q1
    rw [eo] at q2; cases q2
    exact fm'.not_own eo (fun _ _ q => by rw [q3] at q; cases q) fun _ q => by rw [q3] at q; cases q
  have hx : ∀ b ∈ ([54, 47] : List Addr), hB.get? b = none := fun b hb => by
    simp only [List.mem_cons, List.mem_nil_iff, or_false] at hb
    rcases hb with rfl | rfl
    · exact B.n1
    · exact B.n2
  have B' := B.grow g2 hx (by simp) (by simp)
  have gb := g2.grow [54, 47]
  have D : DIn w (baseOf h₂ [54, 47]) f vs n := by
    obtain ⟨v1, a1, b1⟩ := fm2.inCell (x := "digits") (d := .lst (vs.map .int)) (c := L + 1) (by kernel_rfl) (by kernel_rfl) (by kernel_rfl)
    obtain ⟨v2, a2, b2⟩ := fm2.inCell (x := "n") (d := I n) (c := L + 1 + 1) (by kernel_rfl) (by kernel_rfl) (by kernel_rfl)
    obtain ⟨v3, a3, b3⟩ := fm2.inCell (x := "inner") (d := .fn f) (c := L + 1 + 1 + 1) (by kernel_rfl) (by kernel_rfl) (by kernel_rfl)
    obtain ⟨t2, rfl⟩ := b2
    obtain ⟨rfl, _⟩ := b3
    have hfn : f ∉ ([54, 47] : List Addr) := by simp; exact g2.ne hf2 fun ps q => by cases q
    exact ⟨_, doc, pm, c', ctv, base_of hf2 hfn, coderec_base g2 hrec2, ⟨L + 1, v1, by kernel_rfl, cell_base g2 a1, b1.base g2⟩, ⟨L + 1 + 1 + 1, by kernel_rfl, cell_base g2 a3⟩, ⟨L + 1 + 1, t2, by kernel_rfl, cell_base g2 a2⟩⟩
  refine wpAny_execs_cons (wpAny_Return_some ?_)
  refine (wpE_sound (p := false) B' ok 10).1 _ _ Q ?_ { s with heap := h₂, toks := t₂ } gb fm2 A r E _ fun v d h₃ t₃ k3 g3 i3 q3 => ?_
  · rw [d_ret]
    have hl1000 : decide (1000 < (vs.map Sc.int).length) = false := by simp; lia
    refine guardF_in hl1000 ⟨fun he => guardF_in hl1000 ?_, fun he => ?_⟩
    · have hne : 0 < vs.length := by
        cases vs with
        | nil => simp at he
        | cons x r => simp
      rw [List.length_map]
      refine d_call B' D hn hlen hv 4 k 0 vs.length hne (Nat.le_refl _) (by lia) Q ?_
      simpa using hQ
    · have : vs = [] := by
        cases vs with
        | nil => rfl
        | cons x r => simp at he
      subst this
      exact hQ
  · refine hR (.ret v) (.ret d) h₃ t₃ (((k1.toF _).trans k2).trans (k3.toF _)) (g2.shrink hx g3) ⟨v, rfl, i3⟩ q3
end Mine
end

section -- I2
open PySem PySem.W PyProof.Rows PySem.Calls
namespace Mine
set_option maxRecDepth 100000
set_option linter.unusedVariables false
set_option linter.unusedSimpArgs false
variable {p : Bool}

/-! [0] * m -/
theorem rep_arr (v : Value) : ∀ (m : Nat) (acc : Array Value), (List.replicate m #[v]).foldl (fun x1 x2 => x1 ++ x2) acc = acc ++ (List.replicate m v).toArray
  | 0, acc => by simp
  | m + 1, acc => by
    rw [List.replicate_succ, List.foldl_cons, rep_arr v m, List.replicate_succ]
    apply Array.toList_inj.mp
    simp
theorem mul_at {w : World} {s : Shared} {l : Addr} {items : Array Value} {k : Nat} {x : Int} {u : Tok} {A : Around} {E Q : Value → Shared → Prop}
    (hl : s.heap.get? l = some { cls := .type "list", dict := none, data := .seq items k, slots := #[] }) (h0 : 0 ≤ x) (h1 : x ≤ 1000) (hsz : items.size ≤ 10)
    (h : Q (.ref s.heap.objs.size) { s with heap := s.heap.push { cls := .type "list", data := .seq (List.foldl (fun x1 x2 => x1 ++ x2) #[] (List.replicate (if items.isEmpty = true then 0 else x.toNat) items)) } }) :
    wpAny (model prg w) A (binaryOp .Mult (.ref l) (.int x u)) Q E s := by
  have hm : items.size * x.toNat ≤ 2 ^ 24 := Nat.le_trans (Nat.mul_le_mul hsz (show x.toNat ≤ 1000 by lia)) (by decide)
  have f1 : Builtin.List.listFitsIndex x = true := by simp [Builtin.List.listFitsIndex]; lia
  have f2 : ¬ (Builtin.List.listTooLong (items.size * x.toNat) = true) := by simp [Builtin.List.listTooLong, sizeLine]; lia
  exact wpAny_binaryOp_repeat_ref (T := "list") (U := "int") (by decide) ⟨_, hl, rfl⟩ (fun s' => typeIs_int s' x u) noFill_list_mul F.fills_int_mul F.slot_int_rmul repeat_list F.slot_int_index.lookup
    (call_meets F.slot_int_rmul (typeIs_int s x u) F.entry_int_rmul (F.args_int_rmul_2 _ _) (int___rmul___int_list x u l items k)
      ⟨hl, rfl, ⟨_, hl, rfl⟩, call_meets F.slot_list_mul ⟨_, hl, rfl⟩ F.entry_list_mul (F.args_list_mul_2 _ _)
        (AutoListH.list___mul___list_int_3 l items k x u (by simp [Builtin.List.listFitsIndex]; lia) (by lia) (by simp [Builtin.List.listTooLong, sizeLine]; lia)) ⟨hl, h⟩⟩)
theorem scs_rep {a : Sc} {v : Value} (h : a.Is v) : ∀ m, ScsAre (List.replicate m a) (List.replicate m v)
  | 0 => trivial
  | m + 1 => ⟨h, scs_rep h m⟩

theorem listmul {w : World} {hB : Heap} {k : Nat} {env : Env} {kk : Nat} {q q2 q3 : Pos} {r : Expr} {ρ : Rho} {m : Nat} (hm : m ≤ 1000) (hr : EvalSpec w hB p k env r ρ (fun d => d = I m)) {Q : V → Prop} (hQ : Q (.lst (List.replicate m (.int 0)))) :
    EvalSpec w hB p k env (.BinOp (.List [.Constant (.int 0) kk q] q2) .Mult r q3) ρ Q := by
  intro s g fm A rm E R hR
  refine wpAny_BinOp (PyProof.Rows.List_ ?_)
  show wpAny _ A (spliced [(false, eval (.Constant (.int 0) kk q) env)]) _ E s
  refine Calls.spliced_cons (wpAny_Constant_int (Calls.spliced_nil ?_))
  refine wpAny_newList ?_ (show 1 ≤ sizeLine by decide)
  have kk1 : ∀ b o, s.heap.get? b = some o → (s.heap.push { cls := .type "list", data := .seq [Value.int 0 s.toks].toArray }).get? b = some o := fun b o e => Heap.get?_push_of_some _ e
  have g1 := g.keep_all kk1
  refine hr _ g1 (fm.keep (p := p) g (.of_all kk1)) A rm E _ fun v d h₂ t₂ k2 g2 i2 q2 => ?_
  subst q2
  obtain ⟨t, rfl⟩ := i2
  have hobj : (s.heap.push { cls := .type "list", data := .seq [Value.int 0 s.toks].toArray }).get? s.heap.objs.size = some { cls := .type "list", data := .seq [Value.int 0 s.toks].toArray } := Heap.get?_push_size _ rfl
  have hne := g1.ne hobj fun ps q => by cases q
  have hl : h₂.get? s.heap.objs.size = some { cls := .type "list", dict := none, data := .seq #[Value.int 0 s.toks] 0, slots := #[] } := k2 _ _ (.inr hne) hobj
  have hmn : ((m : Nat) : Int).toNat = m := Int.toNat_natCast m
  refine mul_at hl (Int.natCast_nonneg m) (by lia) (by simp) ?_
  have kk3 : ∀ b o, h₂.get? b = some o → (h₂.push { cls := .type "list", data := .seq (List.foldl (fun x1 x2 => x1 ++ x2) #[] (List.replicate (if (#[Value.int 0 s.toks] : Array Value).isEmpty = true then 0 else (m : Int).toNat) #[Value.int 0 s.toks])) }).get? b = some o := fun b o e => Heap.get?_push_of_some _ e
  refine hR _ (.lst (List.replicate m (.int 0))) _ t₂ (((Keep.of_all kk1).trans k2).trans (.of_all kk3)) (g2.keep_all kk3) ⟨_, List.replicate m (Value.int 0 s.toks), rfl, ⟨_, Heap.get?_push_size _ rfl, rfl, 0, ?_⟩, scs_rep (a := .int 0) ⟨_, rfl⟩ m⟩ hQ
  show Data.seq _ 0 = Data.seq _ 0
  rw [hmn]
  have : (if (#[Value.int 0 s.toks] : Array Value).isEmpty = true then 0 else m) = m := by simp
  rw [this, rep_arr]
  simp

/-! the def inside _int2digits -/
noncomputable abbrev iSt (w : World) : Stmt := stAt w 52 1
noncomputable abbrev iB (w : World) : List Stmt := dfBody (iSt w)
noncomputable abbrev iFd (w : World) (clos : List (Str × Addr)) (doc pm : Value) (c' : Addr) (ctv : Value) : FuncData :=
  fnX "inner" "_int2digits.<locals>.inner" (dfParams (iSt w)) (iB w) (dfScope (iSt w)) clos .none .none doc pm none (.ref c') ctv
noncomputable def testOf : Stmt → Expr
  | .If t _ _ _ => t
  | _ => default
theorem i_body (w : World) : ∃ q1 q2 q3 q4 q5 q6 q7 a1 a2 a3 a4 a5 b1 b2 b3 b4 b5 u1 u2, iB w = .If (testOf ((iB w).getD 0 default)) [.Assign [.Subscript (.Name "a_digits" q1) (.Name "L" q2) q3] (.Name "x" q4) q5, .Return none q6] [] q7 :: (((iB w).drop 1).take 4 ++
   [.Expr (.Call (.Name "inner" a1) [.Name "lower" a2, .Name "L" a3, .Name "mid" a4] [] a5) u1, .Expr (.Call (.Name "inner" b1) [.Name "upper" b2, .Name "mid" b3, .Name "R" b4] [] b5) u2]) :=
  ⟨_, _, _, _, _, _, _, _, _, _, _, _, _, _, _, _, _, _, _, rfl⟩

noncomputable abbrev ρi (fa : Addr) (n : Int) : Rho := [("inner", .fn fa), ("n", I n)]
noncomputable abbrev ρi0 (fa : Addr) (n x L R : Int) : Rho := ("R", I R) :: ("L", I L) :: ("x", I x) :: ρi fa n
noncomputable abbrev ishift (L R n : Int) : Int := (imid L R - L) * n
noncomputable abbrev iupper (x s : Int) : Int := x.fdiv (2 ^ s.toNat)
noncomputable abbrev ilower (x s : Int) : Int := Builtin.bitXor x (iupper x s * 2 ^ s.toNat)
noncomputable abbrev ρi4 (fa : Addr) (n x L R : Int) : Rho :=
  ("lower", I (ilower x (ishift L R n))) :: ("upper", I (iupper x (ishift L R n))) :: ("shift", I (ishift L R n)) :: ("mid", I (imid L R)) :: ρi0 fa n x L R
section
variable (w : World) (hB : Heap) (k LL fa : Nat) (clos : List (Str × Addr)) (doc pm : Value) (c' : Addr) (ctv : Value) (n x L R : Int)
noncomputable abbrev envI : Env := callEnv (iFd w clos doc pm c' ctv) LL fa
theorem i_test (Q : Bool → Prop) : wpT w hB p k (envI w LL fa clos doc pm c' ctv) 6 (testOf ((iB w).getD 0 default)) (ρi0 fa n x L R) Q = Q (L + 1 == R) := by kernel_rfl
theorem i_mids (Q : Out → Prop) : wpS w hB p k (envI w LL fa clos doc pm c' ctv) 12 (((iB w).drop 1).take 4) (ρi0 fa n x L R) Q =
    ((0 : Int) ≤ 1 ∧ (IntMulOk (imid L R - L) n ∧ (0 ≤ ishift L R n ∧ ((0 ≤ ishift L R n ∧ ib (iupper x (ishift L R n)) + ishift L R n ≤ 2 ^ 27) ∧ Q (.nxt (ρi4 fa n x L R)))))) := by kernel_rfl
theorem i_args1 (a2 a3 a4 : Pos) (Q : List V → Prop) : wpEs w hB p k (envI w LL fa clos doc pm c' ctv) 8 [.Name "lower" a2, .Name "L" a3, .Name "mid" a4] (ρi4 fa n x L R) Q = Q [I (ilower x (ishift L R n)), I L, I (imid L R)] := by kernel_rfl
theorem i_args2 (a2 a3 a4 : Pos) (Q : List V → Prop) : wpEs w hB p k (envI w LL fa clos doc pm c' ctv) 8 [.Name "upper" a2, .Name "mid" a3, .Name "R" a4] (ρi4 fa n x L R) Q = Q [I (iupper x (ishift L R n)), I (imid L R), I R] := by kernel_rfl
end

theorem execs_append_wp {M : Model} {Γ : Ctx} {E : Value → Pos → Shared → Prop} {env : Env} {b : List Stmt} {Q : Flow → Pos → Shared → Prop} : ∀ (a : List Stmt) (q : Pos) (s : Shared),
    Sem.wp M Γ (execs a env) (fun f p' s' => match f with | .next => Sem.wp M Γ (execs b env) Q E p' s' | f => Q f p' s') E q s → Sem.wp M Γ (execs (a ++ b) env) Q E q s
  | [], q, s, h => h
  | st :: a, q, s, h => by
    rw [execs_cons, Sem.wp_bind'] at h
    rw [List.cons_append, execs_cons, Sem.wp_bind']
    refine Sem.wp_mono M Γ _ (fun f p' s' h' => ?_) (fun _ _ _ h' => h') _ _ h
    cases f with
    | next => exact execs_append_wp a p' s' h'
    | brk => exact h'
    | cont => exact h'
    | ret v => exact h'
theorem execs_append {w : World} {A : Around} {E : Value → Shared → Prop} {env : Env} {a b : List Stmt} {s : Shared} {Q : Flow → Shared → Prop}
    (h : wpAny (model prg w) A (execs a env) (fun f s' => match f with | .next => wpAny (model prg w) A (execs b env) Q E s' | f => Q f s') E s) : wpAny (model prg w) A (execs (a ++ b) env) Q E s := fun Γ q hΓ => by
  refine execs_append_wp a q s (Sem.wp_mono _ Γ _ (fun f p' s' h' => ?_) (fun _ _ _ h' => h') _ _ (h Γ q hΓ))
  cases f with
  | next => exact h' Γ p' hΓ
  | brk => exact h'
  | cont => exact h'
  | ret v => exact h'

theorem enter_clos {w : World} {hB : Heap} {mg mb : Str → Option Value} (B : Bs w hB mg mb) {fa : Addr} {fo : Obj} {fd : FuncData} {body : List Stmt} {names : List Str} {ds : List V} {ρc : Rho}
    (hl : hB.get? fa = some fo) (hd : fo.data = .func fd) (hbody : fd.body = .stmts body) (hcd : hB.CodeRec fd.code fd.qualname) (hok : closOk fd names = true) (hlen : names.length = ds.length)
    (hbind : ∀ vals : List Value, vals.length = ds.length → bindArgs fd ⟨vals, []⟩ = pure (names.zip vals))
    (hfree : ∀ y d, ρc.lookup y = some d → (fd.scope.names.lookup y = some .free ∧ (x_ok y) = true) ∧ ∃ c v, fd.closure.lookup y = some c ∧ hB.IsCell c (some v) ∧ IsV hB d v)
    {s : Shared} {vals : List Value} (g : Good hB s.heap) (hv : VsAre s.heap ds vals) {A : Around} (hroom : A.depth < recursionLimit) {E R : Value → Shared → Prop}
    (h : ∀ (h₀ : Heap) (tk : Nat) (E' : Value → Shared → Prop), (∀ b o, s.heap.get? b = some o → h₀.get? b = some o) → Good hB h₀ → EnvOk (callEnv fd s.heap.objs.size fa) → EnvFr hB (callEnv fd s.heap.objs.size fa) → (∀ b, Own (callEnv fd s.heap.objs.size fa) b → b = s.heap.objs.size) → Fm (callEnv fd s.heap.objs.size fa) h₀ ((names.zip ds).reverse ++ ρc) →
      wpAny (model prg w) (A.deeper (callEnv fd s.heap.objs.size fa)) (execs body (callEnv fd s.heap.objs.size fa)) (fun fl s' => R (match fl with | .ret v => v | _ => .none) s') E' { s with heap := h₀, toks := tk }) :
    wpAny (model prg w) A (call (.ref fa) vals) R E s := by
  unfold closOk at hok
  simp only [Bool.and_eq_true, beq_iff_eq, Bool.not_eq_true', List.all_eq_true, bne_iff_ne] at hok
  obtain ⟨⟨⟨⟨⟨⟨hk, hco⟩, hgen⟩, hcell⟩, hgl⟩, hbl⟩, hnm⟩ := hok
  obtain ⟨tr, t1, t2, t3, t4⟩ := triples hlen hv
  have hvl := hv.length
  have hnn : ∀ x ∈ names.zip vals, fd.scope.names.lookup x.1 = some .local := fun x hx => (hnm x.1 (List.of_mem_zip (a := x.1) (b := x.2) hx).1).1
  refine wpAny_call (codeAny_call_def (body := body) (binds := names.zip vals) hroom (g.stays _ _ hl) hd (B.nl.keeps g.stays) (hcd.keeps g.stays) hbody (.of_eq (hbind vals hvl)) (fun x hx => hcell x hx) hnn (fun h₀ hns hkp => ?_) hco hgen hk)
  have g0 : Good hB h₀ := g.keep_all hkp
  have ok : EnvOk (callEnv fd s.heap.objs.size fa) := ⟨hk, hgl, hbl⟩
  have hown : ∀ b, Own (callEnv fd s.heap.objs.size fa) b → b = s.heap.objs.size := by
    rintro b (rfl | ⟨y, h1, h2⟩)
    · rfl
    · exact absurd h1 (lookup_not_cell hcell)
  refine h h₀ _ _ hkp g0 ok ⟨fun b hb => by rw [hown b hb]; exact fresh_size g (Nat.le_refl _), fun y x c h1 => absurd h1 (lookup_not_cell hcell)⟩ hown ?_
  refine ⟨⟨_, hns, ?_⟩, fun y c h1 h2 => absurd h1 (lookup_not_cell hcell)⟩
  intro y d e
  rw [List.lookup_append] at e
  cases hlk : (names.zip ds).reverse.lookup y with
  | some d' =>
    rw [hlk] at e
    simp only [Option.or_some, Option.some_or, Option.some.injEq] at e
    subst e
    rw [t1, ← List.map_reverse] at hlk
    obtain ⟨v, e1, e2, e3⟩ := look_par (h := s.heap) (fun t ht => t3 t (by simpa using ht)) hlk
    have hy : y ∈ names := by rw [← t4]; simpa using e3
    refine ⟨v, .inl ⟨?_, by rw [t2, ← List.map_reverse]; exact e1⟩, e2.keep (p := true) g (.of_all hkp)⟩
    unfold okName
    simp only [Bool.and_eq_true, beq_iff_eq, Bool.not_eq_true']
    exact hnm y hy
  | none =>
    rw [hlk] at e
    simp only [Option.none_or] at e
    obtain ⟨⟨h1, h2⟩, c, v, h3, h4, h5⟩ := hfree y d e
    have kk : ∀ b o, hB.get? b = some o → h₀.get? b = some o := fun b o e => hkp b o (g.stays b o e)
    refine ⟨v, .inr ⟨?_, c, h3, h4.keeps kk⟩, h5.stays kk⟩
    unfold okCell
    unfold x_ok at h2
    simp only [Bool.and_eq_true, Bool.or_eq_true, beq_iff_eq, Bool.not_eq_true'] at h2 ⊢
    exact ⟨.inr h1, h2⟩

/-! a list that is written -/
noncomputable def KeepD (D : Addr) (h h' : Heap) : Prop := ∀ b o, b ≠ D → b ≠ 54 → b ≠ 47 → h.get? b = some o → h'.get? b = some o
theorem KeepD.trans {D : Addr} {a b c : Heap} (x : KeepD D a b) (y : KeepD D b c) : KeepD D a c := fun q o h0 h1 h2 e => y q o h0 h1 h2 (x q o h0 h1 h2 e)
theorem KeepD.of_all {D : Addr} {a b : Heap} (x : ∀ q o, a.get? q = some o → b.get? q = some o) : KeepD D a b := fun q o _ _ _ e => x q o e
noncomputable def plainV : V → Bool
  | .sc _ => true
  | .raw _ => true
  | .fn _ => true
  | _ => false
theorem plain_all {ρ : Rho} (h : (ρ.all fun q => plainV q.2) = true) : ∀ x d, ρ.lookup x = some d → plainV d = true := by
  intro x d e
  induction ρ with
  | nil => cases e
  | cons q ρ ih =>
    obtain ⟨y, d'⟩ := q
    rw [List.all_cons, Bool.and_eq_true] at h
    rw [List.lookup_cons] at e
    by_cases hy : (x == y) = true
    · rw [hy] at e; cases e; exact h.1
    · rw [Bool.not_eq_true] at hy
      rw [hy] at e; exact ih h.2 e
theorem Fm.keepD {hB h h' : Heap} {env : Env} {ρ : Rho} {D : Addr} {its : Array Value} (fm : Fm env h ρ) (g : Good hB h) (hD : h.IsList D its) (k : KeepD D h h') (hp : ∀ x d, ρ.lookup x = some d → plainV d = true) : Fm env h' ρ := by
  obtain ⟨oD, eD, cD, nD, dD⟩ := hD
  have kd : ∀ b o, h.get? b = some o → (∀ its n, o.data ≠ .seq its n) → (∀ ps, o ≠ tabObj ps) → h'.get? b = some o := fun b o e h1 h2 => by
    have := g.ne e h2
    refine k b o ?_ this.1 this.2 e
    rintro rfl
    rw [e] at eD; cases eD
    exact h1 _ _ dD
  have kc : ∀ c v, h.IsCell c v → h'.IsCell c v := fun c v ⟨o, e, d⟩ => ⟨o, kd c o e (fun _ _ q => by rw [d] at q; cases q) (fun ps q => by rw [q] at d; cases d), d⟩
  obtain ⟨m, hn, hl⟩ := fm.m
  obtain ⟨o, es, ep, e, d, r⟩ := hn
  refine ⟨⟨m, ⟨o, es, ep, kd _ o e (fun _ _ q => by rw [d] at q; cases q) (fun ps q => by rw [q] at d; cases d), d, r⟩, ?_⟩, fun x c h1 h2 => let ⟨v, hv⟩ := fm.cells x c h1 h2; ⟨v, kc c v hv⟩⟩
  intro x dx hx
  obtain ⟨v, hh, hi⟩ := hl x dx hx
  refine ⟨v, ?_, ?_⟩
  · rcases hh with hh | ⟨a, c, b1, b2⟩
    · exact .inl hh
    · exact .inr ⟨a, c, b1, kc _ _ b2⟩
  · have := hp x dx hx
    cases dx with
    | sc _ => exact hi
    | raw _ => exact hi
    | fn a =>
      obtain ⟨e1, o1, fd, e2, e3⟩ := hi
      exact ⟨e1, o1, fd, kd _ _ e2 (fun _ _ q => by rw [e3] at q; cases q) (fun ps q => by rw [q] at e3; cases e3), e3⟩
    | tup _ => cases this
    | lst _ => cases this
end Mine
end

section -- I3
open PySem PySem.W PyProof.Rows PySem.Calls
namespace Mine
set_option maxRecDepth 100000
set_option linter.unusedVariables false
set_option linter.unusedSimpArgs false
variable {p : Bool}

/-! figures of a number -/
noncomputable def digs (n : Nat) : Nat → Nat → List Int
  | 0, _ => []
  | m + 1, x => ((x % 2 ^ n : Nat) : Int) :: digs n m (x / 2 ^ n)
theorem digs_length (n : Nat) : ∀ (m x : Nat), (digs n m x).length = m
  | 0, _ => rfl
  | m + 1, x => by simp [digs, digs_length n m]
theorem digs_split (n : Nat) : ∀ (a b x : Nat), digs n (a + b) x = digs n a (x % 2 ^ (n * a)) ++ digs n b (x / 2 ^ (n * a))
  | 0, b, x => by simp [digs]
  | a + 1, b, x => by
    rw [show a + 1 + b = (a + b) + 1 by lia]
    simp only [digs, List.cons_append]
    have e : 2 ^ (n * (a + 1)) = 2 ^ n * 2 ^ (n * a) := by rw [← Nat.pow_add]; congr 1; rw [Nat.mul_add]; lia
    rw [e, digs_split n a b (x / 2 ^ n), Nat.mod_mul_right_mod, Nat.mod_mul_right_div_self, Nat.div_div_eq_div_mul]
theorem xor_low (x s : Nat) : Builtin.bitXor (x : Int) ((x : Int).fdiv (2 ^ s) * 2 ^ s) = ((x % 2 ^ s : Nat) : Int) := by
  have e1 : (x : Int).fdiv (2 ^ s) * 2 ^ s = ((x / 2 ^ s * 2 ^ s : Nat) : Int) := by
    rw [Int.fdiv_eq_ediv_of_nonneg _ (Int.le_of_lt (two_pow_pos' s))]
    norm_cast
  rw [e1, bitXor_and, bitAnd_pp (Int.natCast_nonneg _) (Int.natCast_nonneg _), Int.toNat_natCast, Int.toNat_natCast]
  have e2 : x &&& (x / 2 ^ s * 2 ^ s) = x / 2 ^ s * 2 ^ s := by
    rw [← Nat.shiftRight_eq_div_pow, ← Nat.shiftLeft_eq]
    apply Nat.eq_of_testBit_eq
    intro i
    rw [Nat.testBit_and, Nat.testBit_shiftLeft, Nat.testBit_shiftRight]
    by_cases h : s ≤ i
    · simp [h]
    · simp [h]
  rw [e2]
  have := Nat.div_add_mod x (2 ^ s)
  have e3 : x / 2 ^ s * 2 ^ s = 2 ^ s * (x / 2 ^ s) := Nat.mul_comm _ _
  rw [e3]
  lia

noncomputable def setR (items : List Int) (L : Nat) (ds : List Int) : List Int := items.take L ++ ds ++ items.drop (L + ds.length)
theorem setR_len {items : List Int} {L : Nat} {ds : List Int} (h : L + ds.length ≤ items.length) : (setR items L ds).length = items.length := by
  unfold setR; simp; lia
theorem setR_setR {items : List Int} {L : Nat} {a b : List Int} (h : L + a.length + b.length ≤ items.length) : setR (setR items L a) (L + a.length) b = setR items L (a ++ b) := by
  unfold setR
  have h1 : (items.take L).length = L := by simp; lia
  have h2 : (items.take L ++ a).length = L + a.length := by simp; lia
  have e1 : ((items.take L ++ a) ++ items.drop (L + a.length)).take (L + a.length) = items.take L ++ a := by
    rw [List.take_append_of_le_length (by lia), List.take_of_length_le (by lia)]
  have e2 : ((items.take L ++ a) ++ items.drop (L + a.length)).drop (L + a.length + b.length) = items.drop (L + (a ++ b).length) := by
    rw [List.drop_append, List.drop_of_length_le (by lia), List.nil_append, List.drop_drop]
    congr 1
    rw [h2, List.length_append]; lia
  rw [e1, e2]
  simp

noncomputable def CallD (w : World) (hB : Heap) (D : Addr) (k : Nat) (fa : Addr) (x L R : Int) (items items' : List Int) : Prop :=
  ∀ (s : Shared) (vals vs : List Value), Good hB s.heap → VsAre s.heap [I x, I L, I R] vals → s.heap.IsList D vs.toArray → ScsAre (items.map .int) vs → ∀ A, Room k A → ∀ (E R' : Value → Shared → Prop),
    (∀ h' tk vs', KeepD D s.heap h' → Good hB h' → h'.IsList D vs'.toArray → ScsAre (items'.map .int) vs' → R' .none { s with heap := h', toks := tk }) → wpAny (model prg w) A (call (.ref fa) vals) R' E s

structure IIn (w : World) (hB : Heap) (fa D : Addr) (n : Nat) : Prop where
  fo : ∃ clos doc pm c' ctv, hB.get? fa = some (fnMade "inner" "_int2digits.<locals>.inner" (dfParams (iSt w)) (iB w) (dfScope (iSt w)) clos doc pm c' ctv) ∧ hB.CodeRec (.ref c') "_int2digits.<locals>.inner" ∧
    (∃ c, clos.lookup ("a_digits" : Str) = some c ∧ hB.IsCell c (some (.ref D))) ∧ (∃ c, clos.lookup ("inner" : Str) = some c ∧ hB.IsCell c (some (.ref fa))) ∧ (∃ c t, clos.lookup ("n" : Str) = some c ∧ hB.IsCell c (some (.int n t)))
  nD : hB.get? D = none

theorem good_D {hB h h' : Heap} {D : Addr} {its : Array Value} (g : Good hB h) (hD : h.IsList D its) (n : hB.get? D = none) (k : ∀ b o, b ≠ D → h.get? b = some o → h'.get? b = some o) : Good hB h' := by
  obtain ⟨o, e, c, nn, d⟩ := hD
  have := g.ne e fun ps q => by rw [q] at c; cases c
  exact g.keep_but k this.1 this.2 n fun o' vs e' q => by rw [e] at e'; cases e'; rw [d] at q; cases q

theorem scs_set {items : List Int} : ∀ {vs : List Value} {L : Nat} {x : Int} {t : Tok}, ScsAre (items.map .int) vs → L < items.length → ScsAre ((setR items L [x]).map .int) (vs.set L (.int x t)) := by
  intro vs L x t hs hL
  have key : ∀ {items : List Int} {vs : List Value} {L : Nat}, ScsAre (items.map .int) vs → L < items.length → ScsAre ((items.set L x).map .int) (vs.set L (.int x t)) := by
    intro items
    induction items with
    | nil => intro vs L _ h; simp at h
    | cons a r ih =>
      intro vs L hs hL
      cases vs with
      | nil => exact hs.elim
      | cons v vs =>
        cases L with
        | zero => exact ⟨⟨t, rfl⟩, hs.2⟩
        | succ L => exact ⟨hs.1, ih hs.2 (by simpa using hL)⟩
  have e : setR items L [x] = items.set L x := by
    unfold setR
    rw [List.set_eq_take_append_cons_drop, if_pos hL]
    simp
  rw [e]
  exact key hs hL

/-- a call of the inner def, as a statement -/
theorem i_expr {w : World} {hB : Heap} {mg mb : Str → Option Value} (B : Bs w hB mg mb) {env : Env} (ok : EnvOk env) {D fa k : Nat} {x L R : Int} {items items' : List Int} (hc : CallD w hB D k fa x L R items items') {e1 : Expr} {es : List Expr} {a1 a5 u : Pos} {ρ : Rho} {s : Shared} {vs : List Value}
    (hst : (notStar e1 && es.all notStar) = true) (hin : ρ.lookup ("inner" : Str) = some (V.fn fa)) (hargs : ∀ Q, Q [I x, I L, I R] → wpEs w hB true k env 8 (e1 :: es) ρ Q) (hi : interactive env = false)
    (g : Good hB s.heap) (fm : Fm env s.heap ρ) (hD : s.heap.IsList D vs.toArray) (hs : ScsAre (items.map .int) vs) {A : Around} (r : Room k A) {E : Value → Shared → Prop} {Q : Flow → Shared → Prop}
    (h : ∀ h' tk vs', KeepD D s.heap h' → Good hB h' → h'.IsList D vs'.toArray → ScsAre (items'.map .int) vs' → Q .next { s with heap := h', toks := tk }) :
    wpAny (model prg w) A (exec (.Expr (.Call (.Name "inner" a1) (e1 :: es) [] a5) u) env) Q E s := by
  simp only [Bool.and_eq_true] at hst
  refine wpAny_Expr ?_ hi rfl
  refine PyProof.Rows.Call_Name (trees := (false, eval e1 env) :: backTo a5 (starEach es env)) (by rw [starEach_cons hst.1, backTo_cons]) ?_
  have key := (wpE_sound (p := true) B ok 8).2 _ _ _ (hargs (fun ds => ds = [I x, I L, I R]) rfl) a5 s g fm A r
  rw [starEach_cons hst.1, backTo_cons] at key
  obtain ⟨m, hn, hloc⟩ := fm.m
  obtain ⟨v, hh, rfl, fo, fd, fe, fdd⟩ := hloc _ _ hin
  refine name_held ok hn hh ?_
  refine Calls.callWith_function (o := fo) (fd := fd) (Calls.evalArgs_plain ?_)
  refine key E _ fun vals ds h₁ t₁ k1 g1 i1 q1 => ⟨⟨k1 _ _ (.inl rfl) fe, fdd⟩, ?_⟩
  subst q1
  have ka : ∀ b o, s.heap.get? b = some o → h₁.get? b = some o := fun b o e => k1 b o (.inl rfl) e
  obtain ⟨oD, eD, rD⟩ := hD
  exact hc { s with heap := h₁, toks := t₁ } vals vs g1 i1 ⟨oD, ka _ _ eD, rD⟩ hs A r E _ fun h' tk vs' k2 g2 l2 s2 => h h' tk vs' ((KeepD.of_all ka).trans k2) g2 l2 s2

theorem i_call {w : World} {hB : Heap} {mg mb : Str → Option Value} (B : Bs w hB mg mb) {fa D : Addr} {n : Nat} (X : IIn w hB fa D n) (hn : n ≤ 1000) :
    ∀ (m k L R x : Nat) (items : List Int), L < R → R ≤ items.length → items.length ≤ 4 → R - L ≤ m → x < 2 ^ (n * (R - L)) → CallD w hB D (k + m) fa x L R items (setR items L (digs n (R - L) x)) := by
  intro m
  induction m with
  | zero => intro k L R x items h1 h2 _ h3; lia
  | succ m ih =>
    intro k L R x items h1 h2 h4 h3 hx s vals vs g hv hD hs A r E R' hR
    obtain ⟨clos, doc, pm, c', ctv, hfo, hcd, ⟨c1, e1, i1⟩, ⟨c2, e2, i2⟩, ⟨c3, t3, e3, i3⟩⟩ := X.fo
    refine enter_clos B (names := ["x", "L", "R"]) (ds := [I x, I L, I R]) (ρc := ρi fa n) hfo rfl rfl hcd (by kernel_rfl) rfl (bind3 fun x y z => by kernel_rfl) ?_ g hv (by have := r.2.1; lia) fun h₀ tk E' hkp g0 ok hfr hown fm0 => ?_
    · intro y d e
      simp only [List.lookup_cons, List.lookup_nil] at e
      split at e
      · rename_i hy
        cases e
        rw [eq_of_beq hy]
        exact ⟨⟨by kernel_rfl, by kernel_rfl⟩, c2, _, e2, i2, rfl, _, _, hfo, rfl⟩
      · split at e
        · rename_i hy
          cases e
          rw [eq_of_beq hy]
          exact ⟨⟨by kernel_rfl, by kernel_rfl⟩, c3, _, e3, i3, t3, rfl⟩
        · cases e
    · replace fm0 : Fm (envI w s.heap.objs.size fa clos doc pm c' ctv) h₀ (ρi0 fa n x L R) := fm0
      have r' : Room (k + m) (A.deeper (envI w s.heap.objs.size fa clos doc pm c' ctv)) := by
        refine ⟨r.1, ?_, ?_⟩
        · have := r.2.1; show A.depth + 1 + (k + m) < recursionLimit; lia
        · have := r.2.2; show A.units + 3 + 10 * (k + m) + 100 < cLine; lia
      obtain ⟨q1, q2, q3, q4, q5, q6, q7, a1, a2, a3, a4, a5, b1, b2, b3, b4, b5, u1, u2, hbody⟩ := i_body w
      rw [hbody]
      have hD0 : h₀.IsList D vs.toArray := by obtain ⟨o, e, q⟩ := hD; exact ⟨o, hkp _ _ e, q⟩
      have hlen := hs.length
      refine wpAny_execs_cons (wpAny_If ?_)
      refine wpT_sound (p := true) B ok 6 _ _ (fun b => b = ((L : Int) + 1 == (R : Int))) (by rw [i_test]) { s with heap := h₀, toks := tk } g0 fm0 _ r' E' _ fun b h₁ t₁ k1 g1 q1' => ?_
      subst q1'
      have ka1 : ∀ b o, h₀.get? b = some o → h₁.get? b = some o := fun b o e => k1 b o (.inl rfl) e
      have fm1 := fm0.keep g0 k1
      have hD1 : h₁.IsList D vs.toArray := by obtain ⟨o, e, q⟩ := hD0; exact ⟨o, ka1 _ _ e, q⟩
      by_cases hLR : L + 1 = R
      · have ht : ((L : Int) + 1 == (R : Int)) = true := by simp; lia
        rw [ht]
        simp only [if_true]
        have hRL : R - L = 1 := by lia
        have hxm : x % 2 ^ n = x := Nat.mod_eq_of_lt (by rw [hRL] at hx; simpa using hx)
        obtain ⟨mm, hnm, hloc⟩ := fm1.m
        obtain ⟨vx, hhx, tx, rfl⟩ := hloc "x" (I x) (by kernel_rfl)
        obtain ⟨vL, hhL, tL, rfl⟩ := hloc "L" (I L) (by kernel_rfl)
        refine wpAny_execs_cons (wpAny_Assign_Subscript ?_ rfl)
        refine name_held ok hnm hhx (name_held ok hnm (.inr ⟨by kernel_rfl, c1, e1, i1.keeps fun b o e => g1.stays b o e⟩) (name_held ok hnm hhL ?_))
        have hLv : L < vs.length := by rw [hlen, List.length_map]; lia
        refine wpAny_setItem_list hD1 (Int.natCast_nonneg _) (by lia) (by rw [List.size_toArray]; lia) fun h₂ hl2 hs2 => ?_
        rw [Int.toNat_natCast] at hl2
        have hl2' : h₂.IsList D (vs.set L (.int x tx)).toArray := by simpa using hl2
        refine wpAny_execs_cons (wpAny_Return_none ?_)
        have kd : KeepD D s.heap h₂ := fun b o hb _ _ e => (hs2.2 b hb).trans (ka1 b o (hkp b o e))
        refine hR h₂ t₁ _ kd (good_D g1 hD1 X.nD fun b o hb e => (hs2.2 b hb).trans e) hl2' ?_
        rw [hRL]
        simp only [digs, hxm]
        exact scs_set hs (by lia)
      · have ht : ((L : Int) + 1 == (R : Int)) = false := by simp; lia
        rw [ht]
        simp only [Bool.false_eq_true, if_false]
        refine wpAny_execs_nil ?_
        refine execs_append ?_
        -- the four stores
        have hm1 : L < (L + R) / 2 := by lia
        have hm2 : (L + R) / 2 < R := by lia
        generalize hmid : (L + R) / 2 = mid at hm1 hm2
        have em : imid (L : Int) (R : Int) = (mid : Int) := by rw [imid_nat, hmid]
        have es : ishift (L : Int) (R : Int) (n : Int) = (((mid - L) * n : Nat) : Int) := by
          show (imid (L : Int) (R : Int) - L) * n = _
          rw [em, show (mid : Int) - (L : Int) = ((mid - L : Nat) : Int) by lia]
          norm_cast
        have eu : iupper (x : Int) (ishift (L : Int) (R : Int) (n : Int)) = ((x / 2 ^ ((mid - L) * n) : Nat) : Int) := by
          rw [es]
          show (x : Int).fdiv (2 ^ (((mid - L) * n : Nat) : Int).toNat) = _
          rw [Int.toNat_natCast, Int.fdiv_eq_ediv_of_nonneg _ (Int.le_of_lt (two_pow_pos' _))]
          norm_cast
        have el : ilower (x : Int) (ishift (L : Int) (R : Int) (n : Int)) = ((x % 2 ^ ((mid - L) * n) : Nat) : Int) := by
          show Builtin.bitXor (x : Int) ((x : Int).fdiv (2 ^ (ishift (L : Int) (R : Int) (n : Int)).toNat) * 2 ^ (ishift (L : Int) (R : Int) (n : Int)).toNat) = _
          rw [es, Int.toNat_natCast, xor_low]
        have hsh : (mid - L) * n ≤ 4000 := Nat.le_trans (Nat.mul_le_mul (show mid - L ≤ 4 by lia) hn) (by decide)
        have hxb : x < 2 ^ 4000 := Nat.lt_of_lt_of_le hx (Nat.pow_le_pow_right (by decide) (Nat.le_trans (Nat.mul_le_mul hn (show R - L ≤ 4 by lia)) (by decide)))
        refine wpS_sound (p := true) B ok hfr 12 _ _ (fun o => o = .nxt (ρi4 fa n x L R)) ?_ { s with heap := h₁, toks := t₁ } g1 fm1 _ r' E' _ fun fl o h₂ t₂ k2 g2 o2 q2 => ?_
        · rw [i_mids]
          refine ⟨by decide, ?_, ?_, ⟨?_, ?_⟩, rfl⟩
          · rw [em, show (mid : Int) - (L : Int) = ((mid - L : Nat) : Int) by lia]
            exact .of_left (Nat.le_trans (bits_le (m := 10) (Int.natCast_nonneg _) (by norm_cast; show mid - L < 1024; lia)) (by decide))
          · rw [es]; exact Int.natCast_nonneg _
          · rw [es]; exact Int.natCast_nonneg _
          · rw [eu, es]
            have hb : Builtin.Int.intBits (((x / 2 ^ ((mid - L) * n) : Nat) : Int)) ≤ 4000 := bits_le (Int.natCast_nonneg _) (by
              have := Nat.lt_of_le_of_lt (Nat.div_le_self x (2 ^ ((mid - L) * n))) hxb
              exact_mod_cast this)
            have : (2 : Int) ^ 27 = 134217728 := by decide
            rw [this]
            show ((Builtin.Int.intBits _ : Nat) : Int) + _ ≤ _
            lia
        · subst q2
          obtain ⟨rfl, fm2⟩ := o2
          have kold : ∀ b o, s.heap.get? b = some o → h₂.get? b = some o := fun b o e => k2 b o (fun hb => absurd (Heap.lt_size e) (by rw [hown b hb]; exact Nat.lt_irrefl _)) (.inl rfl) (ka1 b o (hkp b o e))
          have hD2 : h₂.IsList D vs.toArray := by obtain ⟨o, e, q⟩ := hD; exact ⟨o, kold _ _ e, q⟩
          have hplain : ∀ y d, (ρi4 fa n x L R).lookup y = some d → plainV d = true := plain_all rfl
          have hexp : n * (R - L) = n * (mid - L) + n * (R - mid) := by rw [← Nat.mul_add]; congr 1; lia
          have hcomm : (mid - L) * n = n * (mid - L) := Nat.mul_comm _ _
          have c1' := ih k L mid (x % 2 ^ ((mid - L) * n)) items hm1 (by lia) h4 (by lia) (by rw [hcomm]; exact Nat.mod_lt _ (Nat.two_pow_pos _))
          have hlenS : (setR items L (digs n (mid - L) (x % 2 ^ ((mid - L) * n)))).length = items.length := setR_len (by rw [digs_length]; lia)
          have c2' := ih k mid R (x / 2 ^ ((mid - L) * n)) (setR items L (digs n (mid - L) (x % 2 ^ ((mid - L) * n)))) hm2 (by lia) (by lia) (by lia) (by
            rw [hcomm]
            refine Nat.div_lt_of_lt_mul ?_
            rw [← Nat.pow_add, ← hexp]; exact hx)
          refine wpAny_execs_cons (i_expr B ok (x := ilower (x : Int) (ishift (L : Int) (R : Int) (n : Int))) (L := L) (R := imid (L : Int) (R : Int)) (by rw [el, em]; exact c1') rfl (by kernel_rfl) (fun Q hq => by rw [i_args1]; exact hq) (by kernel_rfl) g2 fm2 hD2 hs r' fun h₃ t₃ vs₃ k3 g3 l3 s3 => ?_)
          have fm3 := fm2.keepD g2 hD2 k3 hplain
          refine wpAny_execs_cons (i_expr B ok (x := iupper (x : Int) (ishift (L : Int) (R : Int) (n : Int))) (L := imid (L : Int) (R : Int)) (R := R) (by rw [eu, em]; exact c2') rfl (by kernel_rfl) (fun Q hq => by rw [i_args2]; exact hq) (by kernel_rfl) (s := { s with heap := h₃, toks := t₃ }) g3 fm3 l3 s3 r' fun h₄ t₄ vs₄ k4 g4 l4 s4 => ?_)
          refine wpAny_execs_nil ?_
          refine hR h₄ t₄ vs₄ (((KeepD.of_all kold).trans k3).trans k4) g4 l4 ?_
          have e : setR (setR items L (digs n (mid - L) (x % 2 ^ ((mid - L) * n)))) mid (digs n (R - mid) (x / 2 ^ ((mid - L) * n))) = setR items L (digs n (R - L) x) := by
            have h5 : mid = L + (digs n (mid - L) (x % 2 ^ ((mid - L) * n))).length := by rw [digs_length]; lia
            have h6 := setR_setR (items := items) (L := L) (a := digs n (mid - L) (x % 2 ^ ((mid - L) * n))) (b := digs n (R - mid) (x / 2 ^ ((mid - L) * n))) (by rw [digs_length, digs_length]; lia)
            rw [← h5] at h6
            rw [h6, hcomm, ← digs_split, show mid - L + (R - mid) = R - L by lia]
          rw [← e]; exact s4
end Mine
end

section -- I4
open PySem PySem.W PyProof.Rows PySem.Calls
namespace Mine
set_option maxRecDepth 100000
set_option linter.unusedVariables false
set_option linter.unusedSimpArgs false
variable {p : Bool}

theorem listmulD {w : World} {hB : Heap} {k : Nat} {env : Env} {kk : Nat} {q q2 q3 : Pos} {r : Expr} {ρ : Rho} {m : Nat} (hm : m ≤ 1000) (hr : EvalSpec w hB p k env r ρ (fun d => d = I m)) {s : Shared} (g : Good hB s.heap) (fm : Fm env s.heap ρ) {A : Around} (rm : Room k A) {E R : Value → Shared → Prop}
    (hR : ∀ D vs h' tk, Keep p s.heap h' → Good hB h' → s.heap.get? D = none → h'.IsList D vs.toArray → ScsAre (List.replicate m (.int 0)) vs → R (.ref D) { s with heap := h', toks := tk }) :
    wpAny (model prg w) A (eval (.BinOp (.List [.Constant (.int 0) kk q] q2) .Mult r q3) env) R E s := by
  refine wpAny_BinOp (PyProof.Rows.List_ ?_)
  show wpAny _ A (spliced [(false, eval (.Constant (.int 0) kk q) env)]) _ E s
  refine Calls.spliced_cons (wpAny_Constant_int (Calls.spliced_nil ?_))
  refine wpAny_newList ?_ (show 1 ≤ sizeLine by decide)
  have kk1 : ∀ b o, s.heap.get? b = some o → (s.heap.push { cls := .type "list", data := .seq [Value.int 0 s.toks].toArray }).get? b = some o := fun b o e => Heap.get?_push_of_some _ e
  have g1 := g.keep_all kk1
  refine hr _ g1 (fm.keep (p := p) g (.of_all kk1)) A rm E _ fun v d h₂ t₂ k2 g2 i2 q2 => ?_
  subst q2
  obtain ⟨t, rfl⟩ := i2
  have hobj : (s.heap.push { cls := .type "list", data := .seq [Value.int 0 s.toks].toArray }).get? s.heap.objs.size = some { cls := .type "list", data := .seq [Value.int 0 s.toks].toArray } := Heap.get?_push_size _ rfl
  have hne := g1.ne hobj fun ps q => by cases q
  have hl : h₂.get? s.heap.objs.size = some { cls := .type "list", dict := none, data := .seq #[Value.int 0 s.toks] 0, slots := #[] } := k2 _ _ (.inr hne) hobj
  have hmn : ((m : Nat) : Int).toNat = m := Int.toNat_natCast m
  refine mul_at hl (Int.natCast_nonneg m) (by omega) (by simp) ?_
  have kk3 : ∀ b o, h₂.get? b = some o → (h₂.push { cls := .type "list", data := .seq (List.foldl (fun x1 x2 => x1 ++ x2) #[] (List.replicate (if (#[Value.int 0 s.toks] : Array Value).isEmpty = true then 0 else (m : Int).toNat) #[Value.int 0 s.toks])) }).get? b = some o := fun b o e => Heap.get?_push_of_some _ e
  refine hR _ (List.replicate m (Value.int 0 s.toks)) _ t₂ (((Keep.of_all kk1).trans k2).trans (.of_all kk3)) (g2.keep_all kk3) ?_ ⟨_, Heap.get?_push_size _ rfl, rfl, 0, ?_⟩ (scs_rep (a := .int 0) ⟨_, rfl⟩ m)
  · show s.heap.get? h₂.objs.size = none
    exact Heap.get?_none_of_le (Nat.le_of_lt (Heap.lt_size hl))
  · show Data.seq _ 0 = Data.seq _ 0
    rw [hmn]
    have : (if (#[Value.int 0 s.toks] : Array Value).isEmpty = true then 0 else m) = m := by simp
    rw [this, rep_arr]
    simp

noncomputable abbrev envJ (w : World) (L : Nat) : Env := callEnvC (fnAt w 52) L 52
noncomputable abbrev jN (w : World) : Expr := match valOf (stAt w 52 0) with
  | .BinOp _ _ r _ => r
  | _ => default
theorem j_body (w : World) : ∃ t0 p0 c0 c1 c2 c3 a1 a2 a3 a4 a5 a6 a7 a8 a9 q3 q4, bodyAt w 52 = [.Assign [.Name "a_digits" t0] (.BinOp (.List [.Constant (.int 0) c0 c1] c2) .Mult (jN w) c3) p0,
    .FunctionDef "inner" (dfParams (iSt w)) (iB w) [] none [] (dfScope (iSt w)) none "inner" (dfPos (iSt w)),
    .If (.Name "a" a1) [.Expr (.Call (.Name "inner" a2) [.Name "a" a3, .Constant (.int 0) 0 a4, .Call (.Name "len" a5) [.Name "a_digits" a6] [] a7] [] a8) a9] [] q3, .Return (some (.Name "a_digits" q4)) (stPos (stAt w 52 3))] :=
  ⟨_, _, _, _, _, _, _, _, _, _, _, _, _, _, _, _, _, rfl⟩
theorem j_n (w : World) (hB : Heap) (k L : Nat) (a n : Int) (Q : V → Prop) : wpE w hB p k (envJ w L) 8 (jN w) [("n", I n), ("a", I a)] Q = ((n ≠ 0 ∧ n.natAbs < 1073741824) ∧ Q (I ((ib a + n - 1).fdiv n))) := by kernel_rfl
theorem j_args (w : World) (hB : Heap) (k L f : Nat) (ds : List Sc) (a n : Int) (a3 a4 a5 a6 a7 : Pos) (Q : List V → Prop) :
    wpEs w hB p k (envJ w L) 8 [.Name "a" a3, .Constant (.int 0) 0 a4, .Call (.Name "len" a5) [.Name "a_digits" a6] [] a7] [("inner", .fn f), ("a_digits", .lst ds), ("n", I n), ("a", I a)] Q =
    guardF (decide (1000 < ds.length)) (Q [I a, I 0, I ds.length]) := by kernel_rfl

theorem base3 {hB h : Heap} {D : Addr} {its : Array Value} (g : Good hB h) (hD : h.IsList D its) {b : Addr} {o : Obj} (e : h.get? b = some o) (h1 : ∀ a n, o.data ≠ .seq a n) (h2 : ∀ ps, o ≠ tabObj ps) : (baseOf h [54, 47, D]).get? b = some o := by
  have := g.ne e h2
  refine base_of e ?_
  simp only [List.mem_cons, List.mem_nil_iff, or_false, not_or]
  refine ⟨this.1, this.2, ?_⟩
  rintro rfl
  obtain ⟨o', e', c, n, d⟩ := hD
  rw [e] at e'; cases e'; exact h1 _ _ d

theorem nat_bits (a : Nat) : a < 2 ^ (Builtin.Int.intBits (a : Int)) := by
  unfold Builtin.Int.intBits
  split
  · rename_i h
    have : a = 0 := by simpa using h
    subst this; decide
  · rename_i h
    have : a ≠ 0 := by simpa using h
    rw [Int.natAbs_natCast]
    exact Nat.lt_log2_self

theorem int2digits_call {w : World} {hB : Heap} {mg mb : Str → Option Value} (B : Bs w hB mg mb) {k : Nat} {a n m : Nat} (hn0 : 0 < n) (hn : n ≤ 1000) (hm : m = (Builtin.Int.intBits (a : Int) + n - 1) / n) (hm4 : m ≤ 4) {Q : V → Prop} (hQ : Q (.lst ((digs n m a).map .int))) :
    CallSpec w hB false (k + 4 + 1) (.ref 52) [I (a : Int), I (n : Int)] Q := by
  refine call_defE B (o := obAt w 52) (fd := fnAt w 52) (body := bodyAt w 52) (names := ["a", "n"]) (by kernel_rfl) (by kernel_rfl) (by kernel_rfl) (by kernel_rfl) rfl (bind2 fun x y => by kernel_rfl) fun L ok hfr => ?_
  show ExecSpec w hB false (k + 4) (envJ w L) (execs (bodyAt w 52) (envJ w L)) [("n", I n), ("a", I a)] (retQ Q)
  intro s g fm A r E R hR
  obtain ⟨t0, p0, c0, c1, c2, c3, a1, a2, a3, a4, a5, a6, a7, a8, a9, q3, q4, hbody⟩ := j_body w
  rw [hbody]
  -- the list of noughts
  have hmI : (ib (a : Int) + (n : Int) - 1).fdiv (n : Int) = (m : Int) := by
    rw [Int.fdiv_eq_ediv_of_nonneg _ (Int.natCast_nonneg _), hm]
    have : ib (a : Int) + (n : Int) - 1 = ((Builtin.Int.intBits (a : Int) + n - 1 : Nat) : Int) := by
      show ((Builtin.Int.intBits (a : Int) : Nat) : Int) + (n : Int) - 1 = _
      omega
    rw [this]
    norm_cast
  refine wpAny_execs_cons (wpAny_Assign_Name ?_ rfl)
  refine listmulD (p := false) (m := m) (by omega) ?_ g fm r fun D vs h₁ t₁ k1 g1 hnew hD1 hs1 => ?_
  · refine (wpE_sound (p := false) B ok 8).1 _ _ _ ?_
    rw [j_n]
    refine ⟨⟨by omega, by rw [Int.natAbs_natCast]; omega⟩, ?_⟩
    rw [hmI]
  refine store_sound2 (p := false) (s := { s with heap := h₁, toks := t₁ }) ok hfr (d := .lst (List.replicate m (.int 0))) g1 (fm.keep g k1) (by kernel_rfl) ⟨D, vs, rfl, hD1, hs1⟩ fun h₂ t₂ k2 g2 fm2 _ hcD2 => ?_
  replace hcD2 : h₂.IsCell (L + 1 + 1) (some (.ref D)) := hcD2 _ (by kernel_rfl) (by kernel_rfl)
  have hD2 : h₂.IsList D vs.toArray := by
    obtain ⟨o, e, c, n', d⟩ := hD1
    exact ⟨o, k2 _ _ ((fm.keep g k1).not_own e (fun _ _ q => by rw [d] at q; cases q) fun _ q => by rw [d] at q; cases q) (.inr (g1.ne e fun ps q => by rw [q] at c; cases c)) e, c, n', d⟩
  -- the inner def
  refine wpAny_execs_cons (nestDef_K (by kernel_rfl) (by kernel_rfl) (by kernel_rfl) ?_)
  have eq : qualnameIn (envJ w L) "inner" "inner" = "_int2digits.<locals>.inner" := by kernel_rfl
  have eqp : (dfPos (iSt w)).line = 33 ∧ (dfPos (iSt w)).col = 4 := ⟨by kernel_rfl, by kernel_rfl⟩
  rw [eq]
  refine make_fn B (s := { s with heap := h₂, toks := t₂ }) g2 (P := 47) (c := 51) (by kernel_rfl) (by kernel_rfl) B.c2 B.n2 (clos := [("n", L + 1), ("inner", L + 1 + 1 + 1), ("a_digits", L + 1 + 1)]) (by kernel_rfl) (by rw [eqp.1, eqp.2]; exact g2.ti) (fun h' kk t => by rw [eqp.1, eqp.2] at t; exact good_47 g2 B.n2 kk t) ?_
  intro f c' doc pm ctv h₃ t₃ hf hnew3 hkp3 g3 hrec
  have k3 : Keep false h₂ h₃ := fun b o hb e => hkp3 b o (by rcases hb with hb | hb; cases hb; exact hb.2) e
  have fm3 := fm2.keep g2 k3
  refine store_sound2 (p := false) (s := { s with heap := h₃, toks := t₃ }) ok hfr (d := .fn f) g3 fm3 (by kernel_rfl) ⟨rfl, _, _, hf, rfl⟩ fun h₄ t₄ k4 g4 fm4 hcs4 hcF4 => ?_
  replace hcF4 : h₄.IsCell (L + 1 + 1 + 1) (some (.ref f)) := hcF4 _ (by kernel_rfl) (by kernel_rfl)
  have aD : h₄.IsCell (L + 1 + 1) (some (.ref D)) := hcs4 "a_digits" _ _ (by decide) (by kernel_rfl) (isCell_keep g2 hcD2 k3)
  have keep34 : ∀ b o, (∀ es n, o.data ≠ .dict es n) → (∀ v, o.data ≠ .cell v) → b ≠ 54 ∧ b ≠ 47 → h₃.get? b = some o → h₄.get? b = some o := fun b o q1 q2 hb e => k4 b o (fm3.not_own e q1 q2) (.inr hb) e
  have hD4 : h₄.IsList D vs.toArray := by
    obtain ⟨o, e, c, n', d⟩ := isList_keep g2 hD2 k3
    exact ⟨o, keep34 _ _ (fun _ _ q => by rw [d] at q; cases q) (fun _ q => by rw [d] at q; cases q) (g3.ne e fun ps q => by rw [q] at c; cases c) e, c, n', d⟩
  have hf4 : h₄.get? f = some _ := keep34 f _ (fun _ _ q => by cases q) (fun _ q => by cases q) (g3.ne hf fun ps q => by cases q) hf
  have hrec4 : h₄.CodeRec (.ref c') "_int2digits.<locals>.inner" := by
    obtain ⟨ps, e, hps⟩ := tab_one g3.td
    obtain ⟨ps', e', hps'⟩ := tab_one g3.ti
    have n1 := coderec_ne hrec e hps
    have n2 := coderec_ne hrec e' hps'
    obtain ⟨cc, o2, vs2, t2, q1, q2, q3, q4⟩ := hrec
    cases q1
    exact ⟨_, o2, vs2, t2, rfl, keep34 _ _ (fun _ _ q => by rw [q3] at q; cases q) (fun _ q => by rw [q3] at q; cases q) ⟨n1, n2⟩ q2, q3, q4⟩
  have hDB : hB.get? D = none := by
    cases q : hB.get? D with
    | none => rfl
    | some o => rw [g.stays _ _ q] at hnew; cases hnew
  have hx : ∀ b ∈ ([54, 47, D] : List Addr), hB.get? b = none := fun b hb => by
    simp only [List.mem_cons, List.mem_nil_iff, or_false] at hb
    rcases hb with rfl | rfl | rfl
    · exact B.n1
    · exact B.n2
    · exact hDB
  have B' := B.grow g4 hx (by simp) (by simp)
  have gb := g4.grow [54, 47, D]
  have cb : ∀ c v, h₄.IsCell c v → (baseOf h₄ [54, 47, D]).IsCell c v := fun c v ⟨o, e, d⟩ => ⟨o, base3 g4 hD4 e (fun _ _ q => by rw [d] at q; cases q) (fun ps q => by rw [q] at d; cases d), d⟩
  have fresh4 : ∀ b o, s.heap.get? b = some o → b ≠ D := fun b o e q => by rw [q, hnew] at e; cases e
  have keepAll : KeepF false (envJ w L) s.heap h₄ := (((k1.toF _).trans k2).trans (k3.toF _)).trans k4
  obtain ⟨vN, aN, tN, rfl⟩ := fm4.inCell (x := "n") (d := I n) (c := L + 1) (by kernel_rfl) (by kernel_rfl) (by kernel_rfl)
  have X : IIn w (baseOf h₄ [54, 47, D]) f D n := by
    refine ⟨⟨_, doc, pm, c', ctv, base3 g4 hD4 hf4 (fun _ _ q => by cases q) (fun ps q => by cases q), ?_, ⟨L + 1 + 1, by kernel_rfl, cb _ _ aD⟩, ⟨L + 1 + 1 + 1, by kernel_rfl, cb _ _ hcF4⟩, ⟨L + 1, tN, by kernel_rfl, cb _ _ aN⟩⟩, base_none (by simp)⟩
    obtain ⟨ps, e, hps⟩ := tab_one g4.td
    obtain ⟨ps', e', hps'⟩ := tab_one g4.ti
    have n1 := coderec_ne hrec4 e hps
    have n2 := coderec_ne hrec4 e' hps'
    obtain ⟨cc, o2, vs2, t2, q1, q2, q3, q4⟩ := hrec4
    cases q1
    refine ⟨_, o2, vs2, t2, rfl, base_of q2 ?_, q3, q4⟩
    simp only [List.mem_cons, List.mem_nil_iff, or_false, not_or]
    refine ⟨n1, n2, ?_⟩
    rintro rfl
    obtain ⟨o', e', c, n', d⟩ := hD4
    rw [q2] at e'; cases e'; rw [q3] at d; cases d
  -- the end: the list by its name
  have fin : ∀ (h₅ : Heap) (t₅ : Nat) (vs' : List Value), KeepD D h₄ h₅ → Good (baseOf h₄ [54, 47, D]) h₅ → h₅.IsList D vs'.toArray → ScsAre ((digs n m a).map .int) vs' →
      wpAny (model prg w) A (execs [.Return (some (.Name "a_digits" q4)) (stPos (stAt w 52 3))] (envJ w L)) R E { s with heap := h₅, toks := t₅ } := by
    intro h₅ t₅ vs' kd g5 hl5 hs5
    refine wpAny_execs_cons (wpAny_Return_some ?_)
    have aD5 : h₅.IsCell (L + 1 + 1) (some (.ref D)) := (cb _ _ aD).keeps g5.stays
    obtain ⟨o, e, d⟩ := aD5
    refine wpAny_Name (wpAny_loadName_cell (c := L + 1 + 1) ok.kind (by kernel_rfl) (by kernel_rfl) ⟨o, e, d⟩ ?_) (by kernel_rfl)
    refine hR (.ret (.ref D)) (.ret (.lst ((digs n m a).map .int))) h₅ t₅ ?_ (g4.shrink hx g5) ⟨_, rfl, D, vs', rfl, hl5, hs5⟩ hQ
    intro b ob hb1 hb2 eb
    exact kd b ob (fresh4 b ob eb) (by rcases hb2 with q | q; cases q; exact q.1) (by rcases hb2 with q | q; cases q; exact q.2) (keepAll b ob hb1 hb2 eb)
  refine wpAny_execs_cons (wpAny_If ?_)
  refine wpT_sound (p := true) B' ok 6 _ _ (fun b => b = ((a : Int) != 0)) (by
    show wpT w _ true (k + 4) (envJ w L) 6 (.Name "a" a1) [("inner", .fn f), ("a_digits", .lst (List.replicate m (.int 0))), ("n", I n), ("a", I a)] _
    exact rfl) { s with heap := h₄, toks := t₄ } gb fm4 A r E _ fun b h₅ t₅ k5 g5 q5 => ?_
  subst q5
  have ka5 : ∀ b o, h₄.get? b = some o → h₅.get? b = some o := fun b o e => k5 b o (.inl rfl) e
  have hD5 : h₅.IsList D vs.toArray := by obtain ⟨o, e, q⟩ := hD4; exact ⟨o, ka5 _ _ e, q⟩
  by_cases ha : a = 0
  · have : ((a : Int) != 0) = false := by simp [ha]
    rw [this]
    simp only [Bool.false_eq_true, if_false]
    refine wpAny_execs_nil ?_
    have hm0 : m = 0 := by
      rw [hm, ha]
      have : Builtin.Int.intBits ((0 : Nat) : Int) = 0 := by decide
      rw [this]
      exact Nat.div_eq_of_lt (by omega)
    refine fin h₅ t₅ vs (KeepD.of_all ka5) g5 hD5 ?_
    rw [hm0] at hs1 ⊢
    exact hs1
  · have : ((a : Int) != 0) = true := by simp; omega
    rw [this]
    simp only [if_true]
    have hbits := nat_bits a
    have hb0 : 0 < Builtin.Int.intBits (a : Int) := by
      rcases Nat.eq_zero_or_pos (Builtin.Int.intBits (a : Int)) with q | q
      · rw [q] at hbits; omega
      · exact q
    have hm0 : 0 < m := by rw [hm]; exact Nat.div_pos (by omega) hn0
    have hle : Builtin.Int.intBits (a : Int) ≤ n * m := by
      have h1 := Nat.div_add_mod (Builtin.Int.intBits (a : Int) + n - 1) n
      have h2 := Nat.mod_lt (Builtin.Int.intBits (a : Int) + n - 1) hn0
      rw [← hm] at h1
      omega
    have halt : a < 2 ^ (n * m) := Nat.lt_of_lt_of_le hbits (Nat.pow_le_pow_right (by decide) hle)
    have ezeros : List.replicate m (Sc.int 0) = (List.replicate m (0 : Int)).map .int := by simp
    have fm5 := fm4.keep gb k5
    refine wpAny_execs_cons (i_expr B' ok (D := D) (fa := f) (k := k + 4) (x := a) (L := 0) (R := m) (items := List.replicate m 0) (items' := setR (List.replicate m 0) 0 (digs n (m - 0) a)) ?_ rfl (by kernel_rfl) (fun Q hq => by
        show wpEs w _ true (k + 4) (envJ w L) 8 [.Name "a" a3, .Constant (.int 0) 0 a4, .Call (.Name "len" a5) [.Name "a_digits" a6] [] a7] [("inner", .fn f), ("a_digits", .lst (List.replicate m (.int 0))), ("n", I n), ("a", I a)] _
        rw [j_args]
        refine guardF_in (by simp; omega) ?_
        rw [List.length_replicate]; exact hq) (by kernel_rfl) (s := { s with heap := h₅, toks := t₅ }) g5 fm5 hD5 (by rw [← ezeros]; exact hs1) r fun h₆ t₆ vs₆ k6 g6 l6 s6 => ?_)
    · exact i_call B' X hn 4 k 0 m a (List.replicate m 0) hm0 (by simp) (by simp; omega) (by omega) (by simpa using halt)
    · refine wpAny_execs_nil ?_
      refine fin h₆ t₆ vs₆ ((KeepD.of_all ka5).trans k6) g6 l6 ?_
      have e : setR (List.replicate m 0) 0 (digs n (m - 0) a) = digs n m a := by
        unfold setR
        rw [Nat.sub_zero, digs_length]
        simp
      rw [e] at s6; exact s6
end Mine
end

section -- Dv
open PySem PySem.W PyProof.Rows PySem.Calls
namespace Mine
set_option maxRecDepth 100000
set_option linter.unusedVariables false
set_option linter.unusedSimpArgs false
variable {p : Bool}

theorem div2_call {w : World} {hB : Heap} {mg mb : Str → Option Value} (B : Bs w hB mg mb) {k : Nat} {a b n : Int} {Q : V → Prop} (h1 : ib a - n ≤ 4000) (h2 : b ≠ 0) (h3 : b.natAbs.log2 < 9000) (h : Q (.tup [.int (a.fdiv b), .int (a.fmod b)])) :
    CallSpec w hB p (k + 1) (.ref 38) [I a, I b, I n] Q :=
  call_at B 12 38 ["a", "b", "n"] (by kernel_rfl) (by kernel_rfl) (by kernel_rfl) (by kernel_rfl) rfl (bind3 fun x y z => by kernel_rfl) fun L =>
    div_body w hB k L a b n Q ⟨by simpa using h1, ⟨h2, h3⟩, h⟩

/-! a for over a known walk -/
theorem for_walk {w : World} {A : Around} {I : Addr} {fp wr : List Addr} {n : Nat} {P : Nat → Value → Prop} {St : Nat → Heap → Prop} (W : Walks prg w A I fp wr n P St) (Inv : Nat → Shared → Prop) {x : Str} {px : Pos} {body : List Stmt} {env : Env} {R : Result → Shared → Prop} {s : Shared}
    (h0 : St 0 s.heap) (h1 : Inv 0 s)
    (turn : ∀ i s, i < n → St i s.heap → Inv i s → ∀ v h' tk, P i v → St (i + 1) h' → (∀ b o, b ∉ wr → s.heap.get? b = some o → h'.get? b = some o) → ∀ E' : Value → Shared → Prop,
      wpAny (model prg w) A (assign (.Name x px) env v) (fun _ s₂ => wpAny (model prg w) A (execs body env) (fun f s₃ => match f with
        | .next | .cont => St (i + 1) s₃.heap ∧ Inv (i + 1) s₃
        | .brk => False
        | .ret v => R (.ok (.ret v)) s₃) E' s₂) E' { s with heap := h', toks := tk })
    (fin : ∀ s, St n s.heap → Inv n s → ∀ h' tk, (∀ b o, b ∉ wr → s.heap.get? b = some o → h'.get? b = some o) → R (.ok .next) { s with heap := h', toks := tk }) :
    codeAny (model prg w) A (.forLoop (.Name x px) (.ref I) body [] env) R s := by
  refine codeAny_forLoop (fun m s => ∃ i, i ≤ n ∧ m = n - i ∧ St i s.heap ∧ Inv i s) (fun m s hI => ?_) n ⟨0, Nat.zero_le _, rfl, h0, h1⟩ (fun v => by rfl)
  obtain ⟨i, hi, rfl, hst, hinv⟩ := hI
  by_cases hin : i < n
  · refine W.item i s _ _ hin hst fun v h' tk hp hst' hk => ?_
    refine wpAny_mono (turn i s hin hst hinv v h' tk hp hst' hk _) (fun _ s₂ h₂ => wpAny_mono h₂ (fun f s₃ h₃ => ?_) fun _ _ e => e) fun _ _ e => e
    cases f with
    | next => exact ⟨n - (i + 1), by lia, i + 1, hin, rfl, h₃.1, h₃.2⟩
    | cont => exact ⟨n - (i + 1), by lia, i + 1, hin, rfl, h₃.1, h₃.2⟩
    | brk => exact h₃.elim
    | ret v => exact h₃
  · have : i = n := by lia
    subst this
    exact W.done s _ _ hst fun h' tk hk => wpAny_execs_nil (fin s hst hinv h' tk hk)

/-! the figures of a quotient -/
noncomputable def foldV (B : Int) (l : List Int) : Int := l.foldl (fun acc d => acc * B + d) 0
theorem foldV_snoc (B : Int) (l : List Int) (d : Int) : foldV B (l ++ [d]) = foldV B l * B + d := by simp [foldV]
theorem foldV_rev (n : Nat) : ∀ l : List Int, foldV (2 ^ n) l.reverse = valD n l
  | [] => rfl
  | x :: r => by
    rw [List.reverse_cons, foldV_snoc, foldV_rev n r]
    simp only [valD]
    rw [Int.mul_comm]; lia
theorem valD_digs (n : Nat) : ∀ (m x : Nat), x < 2 ^ (n * m) → valD n (digs n m x) = x
  | 0, x, h => by
    have : x = 0 := by simpa using h
    subst this; rfl
  | m + 1, x, h => by
    simp only [digs, valD]
    rw [valD_digs n m (x / 2 ^ n) (by
      refine Nat.div_lt_of_lt_mul ?_
      rw [← Nat.pow_add, show n + n * m = n * (m + 1) by rw [Nat.mul_add]; lia]; exact h)]
    have := Nat.div_add_mod x (2 ^ n)
    have e : ((x : Nat) : Int) = ((2 ^ n * (x / 2 ^ n) + x % 2 ^ n : Nat) : Int) := by rw [this]
    conv => rhs; rw [e]
    push_cast
    lia
theorem snoc_ind {P : List Int → Prop} (h0 : P []) (hs : ∀ l d, P l → P (l ++ [d])) (l : List Int) : P l := by
  have key : ∀ r : List Int, P r.reverse := fun r => by
    induction r with
    | nil => exact h0
    | cons x r ih => rw [List.reverse_cons]; exact hs _ _ ih
  have := key l.reverse
  rwa [List.reverse_reverse] at this
/-- the state behind some figures: the quotient's figures so far, the rest -/
noncomputable def dvGo (B b : Int) (st : List Int × Int) (d : Int) : List Int × Int := (st.1 ++ [(st.2 * B + d) / b], (st.2 * B + d) % b)
noncomputable def dvRun (B b : Int) (l : List Int) : List Int × Int := l.foldl (dvGo B b) ([], 0)
theorem dvRun_snoc (B b : Int) (l : List Int) (d : Int) : dvRun B b (l ++ [d]) = dvGo B b (dvRun B b l) d := by simp [dvRun]
theorem dv_len (B b : Int) (l : List Int) : (dvRun B b l).1.length = l.length := by
  refine snoc_ind (P := fun l => (dvRun B b l).1.length = l.length) rfl (fun l d ih => ?_) l
  rw [dvRun_snoc]; simp [dvGo, ih]
theorem dv_inv {B b : Int} (hB : 0 < B) (hb : 0 < b) (l : List Int) : (∀ d ∈ l, 0 ≤ d ∧ d < B) →
    0 ≤ (dvRun B b l).2 ∧ (dvRun B b l).2 < b ∧ foldV B l = foldV B (dvRun B b l).1 * b + (dvRun B b l).2 ∧ ∀ q ∈ (dvRun B b l).1, 0 ≤ q ∧ q < B := by
  refine snoc_ind (P := fun l => (∀ d ∈ l, 0 ≤ d ∧ d < B) → 0 ≤ (dvRun B b l).2 ∧ (dvRun B b l).2 < b ∧ foldV B l = foldV B (dvRun B b l).1 * b + (dvRun B b l).2 ∧ ∀ q ∈ (dvRun B b l).1, 0 ≤ q ∧ q < B) ?_ (fun l d ih => ?_) l
  · intro _
    exact ⟨Int.le_refl _, hb, by simp [foldV, dvRun], fun q hq => by simp [dvRun] at hq⟩
  · intro hl
    obtain ⟨i1, i2, i3, i4⟩ := ih fun d hd => hl d (by simp [hd])
    obtain ⟨d1, d2⟩ := hl d (by simp)
    rw [dvRun_snoc, foldV_snoc]
    generalize hr : (dvRun B b l).2 = r at *
    have hnum : 0 ≤ r * B + d := by have := Int.mul_nonneg i1 (Int.le_of_lt hB); lia
    have hlt : r * B + d < B * b := by
      have h1 : r * B ≤ (b - 1) * B := Int.mul_le_mul_of_nonneg_right (by lia) (Int.le_of_lt hB)
      have h2 : (b - 1) * B = B * b - B := by rw [Int.sub_mul, Int.one_mul, Int.mul_comm]
      lia
    have em := Int.emod_add_mul_ediv (r * B + d) b
    refine ⟨?_, ?_, ?_, ?_⟩
    · show 0 ≤ (_ * B + d) % b
      exact Int.emod_nonneg _ (by lia)
    · exact Int.emod_lt_of_pos _ hb
    · show _ = foldV B ((dvRun B b l).1 ++ [((dvRun B b l).2 * B + d) / b]) * b + ((dvRun B b l).2 * B + d) % b
      rw [foldV_snoc, i3, hr, Int.add_mul, Int.add_mul]
      have e1 : foldV B (dvRun B b l).1 * b * B = foldV B (dvRun B b l).1 * B * b := by rw [Int.mul_assoc, Int.mul_comm b B, ← Int.mul_assoc]
      have e2 : b * ((r * B + d) / b) = (r * B + d) / b * b := Int.mul_comm _ _
      rw [e1]
      lia
    · intro q hq
      have hq : q ∈ (dvRun B b l).1 ++ [((dvRun B b l).2 * B + d) / b] := hq
      rcases List.mem_append.mp hq with hq | hq
      · exact i4 q hq
      · simp only [List.mem_cons, List.mem_nil_iff, or_false] at hq
        rw [hr] at hq
        subst hq
        exact ⟨Int.ediv_nonneg hnum (Int.le_of_lt hb), Int.ediv_lt_of_lt_mul hb hlt⟩
theorem dv_whole {B b : Int} (hB : 0 < B) (hb : 0 < b) (l : List Int) (hl : ∀ d ∈ l, 0 ≤ d ∧ d < B) : foldV B (dvRun B b l).1 = foldV B l / b ∧ (dvRun B b l).2 = foldV B l % b := by
  obtain ⟨i1, i2, i3, _⟩ := dv_inv hB hb l hl
  have := Int.ediv_emod_unique (a := foldV B l) (b := b) (r := (dvRun B b l).2) (q := foldV B (dvRun B b l).1) hb
  have h := this.mpr ⟨by rw [i3, Int.mul_comm]; lia, i1, i2⟩
  exact ⟨h.1.symm, h.2.symm⟩
theorem digs_mem (n : Nat) : ∀ (m x : Nat) (d : Int), d ∈ digs n m x → 0 ≤ d ∧ d < 2 ^ n
  | 0, _, _, h => by simp [digs] at h
  | m + 1, x, d, h => by
    simp only [digs, List.mem_cons] at h
    rcases h with rfl | h
    · exact ⟨Int.natCast_nonneg _, by have := Nat.mod_lt x (Nat.two_pow_pos n); exact_mod_cast this⟩
    · exact digs_mem n m _ d h

/-! methods of a list of the call's own -/
theorem plainL_keep {hB h h' : Heap} (g : Good hB h) {a : Addr} {its : Array Value} (x : PlainL h a its) (k : Keep p h h') : PlainL h' a its := by
  obtain ⟨o, n, e, c, d1, d2⟩ := x
  have := g.ne e fun ps q => by rw [q] at c; cases c
  exact ⟨o, n, k _ _ (.inr this) e, c, d1, d2⟩
theorem plainL_keepF {hB h h' : Heap} {env : Env} {ρ : Rho} (g : Good hB h) (fm : Fm env h ρ) {a : Addr} {its : Array Value} (x : PlainL h a its) (k : KeepF p env h h') : PlainL h' a its := by
  obtain ⟨o, n, e, c, d1, d2⟩ := x
  have := g.ne e fun ps q => by rw [q] at c; cases c
  exact ⟨o, n, k _ _ (fm.not_own e (fun _ _ q => by rw [d2] at q; cases q) fun _ q => by rw [d2] at q; cases q) (.inr this) e, c, d1, d2⟩

theorem reverse_plain {w : World} {A : Around} {E : Value → Shared → Prop} {s : Shared} {l : Addr} {its : Array Value} {Q : Value → Shared → Prop}
    (hl : PlainL s.heap l its) (hQ : ∀ h', PlainL h' l its.reverse → Heap.SameBut l s.heap h' → Q .none { s with heap := h' }) (hsz : its.size ≤ 1000) :
    wpAny (model prg w) A (call (.builtin "list.reverse") [.ref l]) Q E s := by
  obtain ⟨o, n, ho, hc, hdn, hd⟩ := id hl
  obtain ⟨n', hd'⟩ := Obj.data_mapSeq hd (·.reverse)
  refine wpAny_call_entry PySem.F.slot_list_reverse hl.isList.typeIs PySem.F.entry_list_reverse ?_ (PySem.F.args_list_reverse_1 _)
  have hz : its.size ≤ sizeLine := Nat.le_trans hsz (by decide)
  have hz' : its.reverse.size ≤ sizeLine + 1 := by rw [Array.size_reverse]; lia
  show wpAny _ _ (updateSeq l (·.reverse) >>= fun _ => ret .none) _ _ s
  refine wpAny_bind ?_
  refine wpAny_updateSeq ho hd (wpAny_pure ⟨.none, rfl, hQ _ ?_ (Heap.SameBut.update ..)⟩) hz hz'
  refine ⟨_, n', Heap.get?_update_self _ ho (Obj.isFreed_of_seq hd'), (Obj.cls_mapSeq ..).trans hc, ?_, hd'⟩
  obtain ⟨c, d, dt, sl⟩ := o
  subst hd
  exact hdn
end Mine
end

section -- It
open PySem PySem.W PyProof.Rows PySem.Calls
namespace Mine
set_option maxRecDepth 100000
set_option linter.unusedVariables false
set_option linter.unusedSimpArgs false
variable {p : Bool}

/-- an iterator object is moved on: all else stands -/
theorem iter_ok {hB h h' : Heap} {env : Env} {ρ : Rho} {D : Addr} {o : Obj} {fs : Array Value} {T : String} (g : Good hB h) (fm : Fm env h ρ) (hD : h.get? D = some o) (hc : o.cls = .type T) (hT : T ≠ "tuple") (hd : o.data = .fields fs)
    (hf : ∀ q t, fs[1]? ≠ some (.str q t)) (hn : hB.get? D = none) (hTc : ∀ ps, o ≠ tabObj ps) (kd : ∀ b o, b ≠ D → h.get? b = some o → h'.get? b = some o) : Good hB h' ∧ Fm env h' ρ := by
  have hne := g.ne hD hTc
  refine ⟨g.keep_but kd hne.1 hne.2 hn fun o' vs e q => by rw [hD] at e; cases e; rw [hd] at q; cases q; exact hf, ?_⟩
  have k2 : ∀ b o', h.get? b = some o' → (∀ fs, o'.data ≠ .fields fs) → h'.get? b = some o' := fun b o' e q => kd b o' (by rintro rfl; rw [hD] at e; cases e; exact q _ hd) e
  have kc : ∀ c v, h.IsCell c v → h'.IsCell c v := fun c v ⟨o, e, d⟩ => ⟨o, k2 c o e (fun _ q => by rw [d] at q; cases q), d⟩
  obtain ⟨m, ⟨o1, es, ep, e, d, r⟩, hl⟩ := fm.m
  refine ⟨⟨m, ⟨o1, es, ep, k2 _ _ e (fun _ q => by rw [d] at q; cases q), d, r⟩, ?_⟩, fun x c h1 h2 => let ⟨v, hv⟩ := fm.cells x c h1 h2; ⟨v, kc c v hv⟩⟩
  intro x dx hx
  obtain ⟨v, hh, hi⟩ := hl x dx hx
  refine ⟨v, ?_, ?_⟩
  · rcases hh with hh | ⟨a, c, b1, b2⟩
    · exact .inl hh
    · exact .inr ⟨a, c, b1, kc _ _ b2⟩
  · cases dx with
    | sc _ => exact hi
    | raw _ => exact hi
    | fn a =>
      obtain ⟨e1, o1, fd, e2, e3⟩ := hi
      exact ⟨e1, o1, fd, k2 _ _ e2 (fun _ q => by rw [e3] at q; cases q), e3⟩
    | tup _ =>
      obtain ⟨a, vs, e, ⟨o, e1, c, n', dd⟩, r⟩ := hi
      exact ⟨a, vs, e, ⟨o, k2 _ _ e1 (fun _ q => by rw [dd] at q; cases q), c, n', dd⟩, r⟩
    | lst _ =>
      obtain ⟨a, vs, e, ⟨o, e1, c, n', dd⟩, r⟩ := hi
      exact ⟨a, vs, e, ⟨o, k2 _ _ e1 (fun _ q => by rw [dd] at q; cases q), c, n', dd⟩, r⟩
theorem revIter_ok {hB h h' : Heap} {env : Env} {ρ : Rho} {D l : Addr} {i : Int} (g : Good hB h) (fm : Fm env h ρ) (hD : h.IsRevIter D l i) (hn : hB.get? D = none) (kd : ∀ b o, b ∉ [D] → h.get? b = some o → h'.get? b = some o) : Good hB h' ∧ Fm env h' ρ := by
  obtain ⟨o, e, c, d⟩ := hD
  exact iter_ok g fm e c (by decide) d (fun q t => by simp [rawInt]) hn (fun ps q => by rw [q] at c; cases c) fun b o hb => kd b o (by simpa using hb)
theorem listIter_ok {hB h h' : Heap} {env : Env} {ρ : Rho} {D l : Addr} {i : Nat} (g : Good hB h) (fm : Fm env h ρ) (hD : h.IsListIter D l i) (hn : hB.get? D = none) (kd : ∀ b o, b ∉ [D] → h.get? b = some o → h'.get? b = some o) : Good hB h' ∧ Fm env h' ρ := by
  obtain ⟨o, e, c, d⟩ := hD
  exact iter_ok g fm e c (by decide) d (fun q t => by simp) hn (fun ps q => by rw [q] at c; cases c) fun b o hb => kd b o (by simpa using hb)
theorem listIter_keepF {hB h h' : Heap} {env : Env} {ρ : Rho} {bb l : Addr} {i : Nat} (g : Good hB h) (fm : Fm env h ρ) (kf : KeepF p env h h') (x : h.IsListIter bb l i) : h'.IsListIter bb l i := by
  obtain ⟨o, e, c, d⟩ := x
  exact ⟨o, kf bb o (fm.not_own e (fun _ _ q => by rw [d] at q; cases q) fun _ q => by rw [d] at q; cases q) (.inr (g.ne e fun ps q => by rw [q] at c; cases c)) e, c, d⟩
theorem revIter_keepF {hB h h' : Heap} {env : Env} {ρ : Rho} {bb l : Addr} {i : Int} (g : Good hB h) (fm : Fm env h ρ) (kf : KeepF p env h h') (x : h.IsRevIter bb l i) : h'.IsRevIter bb l i := by
  obtain ⟨o, e, c, d⟩ := x
  exact ⟨o, kf bb o (fm.not_own e (fun _ _ q => by rw [d] at q; cases q) fun _ q => by rw [d] at q; cases q) (.inr (g.ne e fun ps q => by rw [q] at c; cases c)) e, c, d⟩
theorem isList_keepF {hB h h' : Heap} {env : Env} {ρ : Rho} {bb : Addr} {its : Array Value} (g : Good hB h) (fm : Fm env h ρ) (kf : KeepF p env h h') (x : h.IsList bb its) : h'.IsList bb its := by
  obtain ⟨o, e, c, nn, d⟩ := x
  exact ⟨o, kf bb o (fm.not_own e (fun _ _ q => by rw [d] at q; cases q) fun _ q => by rw [d] at q; cases q) (.inr (g.ne e fun ps q => by rw [q] at c; cases c)) e, c, nn, d⟩
end Mine
end

section -- Dp
open PySem PySem.W PyProof.Rows PySem.Calls
namespace Mine
set_option maxRecDepth 100000
set_option linter.unusedVariables false
set_option linter.unusedSimpArgs false
variable {p : Bool}

noncomputable abbrev envP (w : World) (L : Nat) : Env := callEnvC (fnAt w 66) L 66
noncomputable def forBody : Stmt → List Stmt
  | .For _ _ b _ _ => b
  | _ => []
theorem p_body (w : World) : ∃ t3 q3 p3 t4 a4 b4 c4 p4 a5 b5 c5 p5, bodyAt w 66 = (bodyAt w 66).take 3 ++ [.Assign [.Name "q_digits" t3] (.List [] q3) p3, .For (.Name "a_digit" t4) (.Call (.Name "reversed" a4) [.Name "a_digits" b4] [] c4) (forBody (stAt w 66 4)) [] p4,
    .Expr (.Call (.Attribute (.Name "q_digits" a5) "reverse" b5) [] [] c5) p5] ++ (bodyAt w 66).drop 6 := ⟨_, _, _, _, _, _, _, _, _, _, _, _, rfl⟩
theorem p_fbody (w : World) : ∃ a b c d e, forBody (stAt w 66 4) = (forBody (stAt w 66 4)).take 1 ++ [.Expr (.Call (.Attribute (.Name "q_digits" a) "append" b) [.Name "q_digit" c] [] d) e] ∧ (b.endLine == d.line) = true := ⟨_, _, _, _, _, rfl, rfl⟩
theorem p_rev (w : World) : ∃ t3 q3 p3 t4 a4 b4 c4 p4 a5 b5 c5 p5, bodyAt w 66 = (bodyAt w 66).take 3 ++ [.Assign [.Name "q_digits" t3] (.List [] q3) p3, .For (.Name "a_digit" t4) (.Call (.Name "reversed" a4) [.Name "a_digits" b4] [] c4) (forBody (stAt w 66 4)) [] p4,
    .Expr (.Call (.Attribute (.Name "q_digits" a5) "reverse" b5) [] [] c5) p5] ++ (bodyAt w 66).drop 6 ∧ (b5.endLine == c5.line) = true := ⟨_, _, _, _, _, _, _, _, _, _, _, _, rfl, rfl⟩
section
variable (w : World) (hB : Heap) (k L : Nat) (a b n r d : Int) (ds : List Sc) (u : Value)
theorem p_first (Q : Out → Prop) : wpS w hB p k (envP w L) 10 ((bodyAt w 66).take 3) [("b", I b), ("a", I a)] Q =
    CallSpec w hB p k (.ref 52) [I a, I (ib b)] (fun d => Q (.nxt [("r", I 0), ("a_digits", d), ("n", I (ib b)), ("b", I b), ("a", I a)])) := by kernel_rfl
noncomputable abbrev ρp : Rho := [("q_digits", .raw u), ("r", I r), ("n", I n), ("b", I b)]
theorem p_turn (Q : Out → Prop) : wpS w hB p k (envP w L) 10 ((forBody (stAt w 66 4)).take 1) (("a_digit", I d) :: ρp b n r u) Q =
    ((0 ≤ n ∧ ib r + n ≤ 2 ^ 27) ∧ CallSpec w hB p k (.ref 38) [I (r * 2 ^ n.toNat + d), I b, I n] (unpackK ["q_digit", "r"] (("a_digit", I d) :: ρp b n r u) fun ρ' => Q (.nxt ρ'))) := by kernel_rfl
theorem p_last (Q : V → Prop) : wpS w hB p k (envP w L) 10 ((bodyAt w 66).drop 6) (("q_digits", .lst ds) :: ρp b n r u) (retQ Q) =
    CallSpec w hB p k (.ref 59) [.lst ds, I n] (fun d => match scsOf [d, I r] with | some l => guardF (decide (1000 < l.length)) (Q (.tup l)) | none => False) := by kernel_rfl
end

theorem scs_snoc {v : Value} {q : Int} (h : (Sc.int q).Is v) : ∀ {qs : List Int} {vs : List Value}, ScsAre (qs.map .int) vs → ScsAre ((qs ++ [q]).map .int) (vs ++ [v])
  | [], [], _ => ⟨h, trivial⟩
  | _ :: _, _ :: _, ⟨x, y⟩ => ⟨x, scs_snoc h y⟩
  | [], _ :: _, x => x.elim
  | _ :: _, [], x => x.elim
theorem scs_rev : ∀ {qs : List Int} {vs : List Value}, ScsAre (qs.map .int) vs → ScsAre (qs.reverse.map .int) vs.reverse
  | [], [], _ => trivial
  | q :: qs, v :: vs, ⟨x, y⟩ => by
    rw [List.reverse_cons, List.reverse_cons]
    exact scs_snoc x (scs_rev y)
  | [], _ :: _, x => x.elim
  | _ :: _, [], x => x.elim

theorem scs_get : ∀ {l : List Int} {vs : List Value} {j : Nat} {v : Value}, ScsAre (l.map .int) vs → vs[j]? = some v → (Sc.int (l.getD j 0)).Is v
  | [], [], _, _, _, h => by simp at h
  | x :: l, u :: vs, 0, v, ⟨a, _⟩, h => by
    simp at h; subst h; exact a
  | x :: l, u :: vs, j + 1, v, ⟨_, b⟩, h => by
    simp at h
    have := scs_get b h
    simpa using this
  | [], _ :: _, _, _, x, _ => x.elim
  | _ :: _, [], _, _, x, _ => x.elim
/-- an object of the call's own is written: all else stands -/
theorem write_ok {hB h h' : Heap} {env : Env} {ρ : Rho} {D : Addr} {its : Array Value} (g : Good hB h) (fm : Fm env h ρ) (hD : h.IsList D its) (hn : hB.get? D = none) (hs : Heap.SameBut D h h') (hp : ∀ x d, ρ.lookup x = some d → plainV d = true) :
    Good hB h' ∧ Fm env h' ρ := by
  have kd : ∀ b o, b ≠ D → h.get? b = some o → h'.get? b = some o := fun b o hb e => (hs.2 b hb).trans e
  exact ⟨good_D g hD hn kd, fm.keepD g hD (fun b o hb _ _ e => kd b o hb e) hp⟩

noncomputable def Agree (ρ ρ' : Rho) : List Str → Prop
  | [] => True
  | x :: l => ρ.lookup x = ρ'.lookup x ∧ Agree ρ ρ' l
theorem Agree.get {ρ ρ' : Rho} {x : Str} : ∀ {l : List Str}, Agree ρ ρ' l → x ∈ l → ρ.lookup x = ρ'.lookup x
  | _ :: _, h, hx => by
    rcases List.mem_cons.mp hx with rfl | hx
    · exact h.1
    · exact Agree.get h.2 hx
theorem lookup_key {x : Str} {d : V} : ∀ {ρ : Rho}, ρ.lookup x = some d → x ∈ ρ.map Prod.fst
  | (y, e) :: ρ, h => by
    rw [List.lookup_cons] at h
    by_cases q : (x == y) = true
    · simp [eq_of_beq q]
    · rw [Bool.not_eq_true] at q
      rw [q] at h
      exact List.mem_cons_of_mem _ (lookup_key h)
/-- fewer names, the same answers -/
theorem Fm.less {env : Env} {h : Heap} {ρ : Rho} (ρ' : Rho) (fm : Fm env h ρ) (hs : Agree ρ ρ' (ρ'.map Prod.fst)) : Fm env h ρ' :=
  fm.sub fun x d e => (hs.get (lookup_key e)).trans e

theorem divmod_pos_call {w : World} {hB : Heap} {mg mb : Str → Option Value} (B : Bs w hB mg mb) {k : Nat} {a b n m : Nat} (hb : 0 < b) (hn : n = Builtin.Int.intBits (b : Int)) (hn1 : n ≤ 900) (hm : m = (Builtin.Int.intBits (a : Int) + n - 1) / n) (hm4 : m ≤ 4) {Q : V → Prop}
    (hQ : Q (.tup [.int ((a / b : Nat) : Int), .int ((a % b : Nat) : Int)])) : CallSpec w hB false (k + 5 + 1) (.ref 66) [I (a : Int), I (b : Int)] Q := by
  have hbb := nat_bits b
  rw [← hn] at hbb
  have hn0 : 0 < n := by
    rcases Nat.eq_zero_or_pos n with q | q
    · rw [q] at hbb; lia
    · exact q
  have halt : a < 2 ^ (n * m) := by
    have h1 := Nat.div_add_mod (Builtin.Int.intBits (a : Int) + n - 1) n
    have h2 := Nat.mod_lt (Builtin.Int.intBits (a : Int) + n - 1) hn0
    rw [← hm] at h1
    exact Nat.lt_of_lt_of_le (nat_bits a) (Nat.pow_le_pow_right (by decide) (by lia))
  have ibb : ib (b : Int) = (n : Int) := by show ((Builtin.Int.intBits (b : Int) : Nat) : Int) = _; rw [hn]
  refine call_defE B (o := obAt w 66) (fd := fnAt w 66) (body := bodyAt w 66) (names := ["a", "b"]) (by kernel_rfl) (by kernel_rfl) (by kernel_rfl) (by kernel_rfl) rfl (bind2 fun x y => by kernel_rfl) fun L ok hfr => ?_
  show ExecSpec w hB false (k + 5) (envP w L) (execs (bodyAt w 66) (envP w L)) [("b", I b), ("a", I a)] (retQ Q)
  intro s g fm A r E R hR
  obtain ⟨t3, q3, p3, t4, a4, b4, c4, p4, a5, b5, c5, p5, hbody, hline5⟩ := p_rev w
  rw [hbody, List.append_assoc]
  refine execs_append ?_
  refine wpS_sound (p := false) B ok hfr 10 _ _ (fun o => o = .nxt [("r", I 0), ("a_digits", .lst ((digs n m a).map .int)), ("n", I n), ("b", I b), ("a", I a)]) ?_ s g fm A r E _ fun fl o h₁ t₁ k1 g1 o1 q1 => ?_
  · rw [p_first, ibb]
    exact int2digits_call B (k := k) hn0 (by lia) hm hm4 rfl
  subst q1
  obtain ⟨rfl, fm1⟩ := o1
  obtain ⟨vA, hvA, fm1⟩ := fm1.toRaw (x := "a_digits") (d := .lst ((digs n m a).map .int)) (by kernel_rfl)
  obtain ⟨aA, vsA, rfl, hlA1, hsA⟩ := hvA
  -- q_digits = []
  refine wpAny_execs_cons (wpAny_Assign_Name (PyProof.Rows.List_ (Calls.spliced_nil (wpAny_newList ?_ (Nat.zero_le _)))) rfl)
  have ka2 : ∀ b o, h₁.get? b = some o → (h₁.push { cls := .type "list", data := .seq ([] : List Value).toArray }).get? b = some o := fun b o e => Heap.get?_push_of_some _ e
  generalize hh2 : h₁.push { cls := .type "list", data := .seq ([] : List Value).toArray } = h₂ at ka2
  have hDq2 : PlainL h₂ h₁.objs.size #[] := by rw [← hh2]; exact ⟨_, 0, Heap.get?_push_size _ rfl, rfl, rfl, rfl⟩
  have hDnew : h₁.get? h₁.objs.size = none := Heap.get?_none_of_le (Nat.le_refl _)
  generalize h₁.objs.size = Dq at hDq2 hDnew
  have g2 := g1.keep_all ka2
  have fm2 := fm1.keep (p := false) g1 (.of_all ka2)
  have hDB : hB.get? Dq = none := by
    cases q : hB.get? Dq with
    | none => rfl
    | some o => rw [g1.stays _ _ q] at hDnew; cases hDnew
  refine store_sound (p := false) (s := { s with heap := h₂, toks := t₁ }) ok hfr (x := "q_digits") (d := .raw (.ref Dq)) g2 fm2 (by kernel_rfl) rfl fun h₃ t₃ k3 g3 fm3 => ?_
  have hDq3 := plainL_keepF g2 fm2 hDq2 k3
  -- what stood before the call, apart from Dq
  have old3 : KeepF false (envP w L) s.heap h₃ := (k1.trans ((Keep.of_all ka2).toF _)).trans k3
  have hDs : ∀ b o, s.heap.get? b = some o → (¬ Own (envP w L) b) → b ≠ Dq := by
    intro bb o e hno q
    subst q
    by_cases h5447 : bb ≠ 54 ∧ bb ≠ 47
    · have := k1 bb o hno (.inr h5447) e
      rw [hDnew] at this; cases this
    · obtain ⟨o', n', e', c, _⟩ := hDq3
      exact h5447 (g3.ne e' fun ps q => by rw [q] at c; cases c)
  -- the loop
  obtain ⟨m3, hn3, hloc3⟩ := fm3.m
  obtain ⟨vA, hhA, hvA⟩ := hloc3 "a_digits" (.raw (.ref aA)) (by kernel_rfl)
  have hvA : vA = .ref aA := hvA
  subst hvA
  have hADq : aA ≠ Dq := by
    rintro rfl
    obtain ⟨o, e, _⟩ := hlA1
    rw [hDnew] at e; cases e
  have hlA : h₃.IsList aA vsA.toArray := isList_keepF g2 fm2 k3 (by obtain ⟨o, e, q⟩ := hlA1; exact ⟨o, ka2 _ _ e, q⟩)
  have hlenA := hsA.length
  rw [List.length_map, digs_length] at hlenA
  refine wpAny_execs_cons (wpAny_For ?_ (fun x => by kernel_rfl))
  refine PyProof.Rows.Call_Name (trees := [(false, eval (.Name "a_digits" b4) (envP w L))]) (by kernel_rfl) ?_
  have hgl := bTab_all B ("reversed", .type "reversed") (by simp [bTab])
  refine name_global (s := { s with heap := h₃, toks := t₃ }) B ok g3 (by kernel_rfl) (.inr hgl.1) ?_
  refine callee_with (.inr (.inl ⟨_, rfl⟩)) rfl (Calls.spliced_cons (name_held ok hn3 hhA (Calls.spliced_nil ⟨g3.stays, ?_⟩)))
  refine call_reversed_list hlA ?_
  have hIt : h₃.get? h₃.objs.size = none := Heap.get?_none_of_le (Nat.le_refl _)
  have ka4 : ∀ b o, h₃.get? b = some o → (h₃.push (revObj aA ((vsA.toArray.size : Int) - 1))).get? b = some o := fun b o e => Heap.get?_push_of_some _ e
  have hRev : (h₃.push (revObj aA ((vsA.toArray.size : Int) - 1))).IsRevIter h₃.objs.size aA ((vsA.toArray.size : Int) - 1) := ⟨_, Heap.get?_push_size _ rfl, rfl, rfl⟩
  have hltA : aA ≠ h₃.objs.size := by obtain ⟨o, ho, _⟩ := hlA; exact Nat.ne_of_lt (Heap.lt_size ho)
  have hltD : Dq ≠ h₃.objs.size := Nat.ne_of_lt hDq3.lt
  refine wpAny_pyIter_revIter hRev ?_
  generalize hh4 : h₃.push (revObj aA ((vsA.toArray.size : Int) - 1)) = h₄ at ka4 hRev
  generalize hIt0 : h₃.objs.size = It at hIt hRev hltA hltD
  have g4 := g3.keep_all ka4
  have hplainρ : ∀ (r' : Int) x d, (ρp (b : Int) (n : Int) r' (.ref Dq)).lookup x = some d → plainV d = true := fun r' => plain_all rfl
  have fm4 : Fm (envP w L) h₄ (ρp b n 0 (.ref Dq)) := (fm3.keep (p := false) g3 (.of_all ka4)).less (ρp b n 0 (.ref Dq)) ⟨rfl, rfl, rfl, rfl, trivial⟩
  have hDq4 := hDq3.keeps ka4
  have hlA4 : h₄.IsList aA vsA.toArray := by obtain ⟨o, e, q⟩ := hlA; exact ⟨o, ka4 _ _ e, q⟩
  have old4 : ∀ bb o, ¬ Own (envP w L) bb → bb ≠ 54 → bb ≠ 47 → s.heap.get? bb = some o → h₄.get? bb = some o := fun bb o h1 h2 h3 e => ka4 _ _ (old3 bb o h1 (.inr ⟨h2, h3⟩) e)
  have oldIt : ∀ bb o, ¬ Own (envP w L) bb → bb ≠ 54 → bb ≠ 47 → s.heap.get? bb = some o → bb ≠ It := fun bb o h1 h2 h3 e q => by
    have := old3 bb o h1 (.inr ⟨h2, h3⟩) e
    rw [q, hIt] at this; cases this
  have hrl : ∀ i, i < m → vsA.toArray[vsA.toArray.size - 1 - i]? = vsA[m - 1 - i]? := fun i _ => by
    simp [hlenA]
  have hBn : (0 : Int) < 2 ^ n := two_pow_pos' n
  have hb' : (0 : Int) < (b : Int) := by lia
  have hdmem : ∀ d ∈ (digs n m a).reverse, 0 ≤ d ∧ d < (2 : Int) ^ n := fun d hd => digs_mem n m a d (List.mem_reverse.mp hd)
  have hItB : hB.get? It = none := by
    cases q : hB.get? It with
    | none => rfl
    | some o => rw [g3.stays _ _ q] at hIt; cases hIt
  have hgoal : ∀ h t vs, Good hB h → Fm (envP w L) h (ρp b n (dvRun (2 ^ n) b (digs n m a).reverse).2 (.ref Dq)) → PlainL h Dq vs.toArray → ScsAre ((dvRun (2 ^ n) b (digs n m a).reverse).1.map .int) vs →
      (∀ bb o, ¬ Own (envP w L) bb → bb ≠ 54 → bb ≠ 47 → s.heap.get? bb = some o → h.get? bb = some o) →
      wpAny (model prg w) A (execs (Stmt.Expr (.Call (.Attribute (.Name "q_digits" a5) "reverse" b5) [] [] c5) p5 :: (bodyAt w 66).drop 6) (envP w L)) R E { s with heap := h, toks := t } := by
    intro h t vs g fm hl hs old
    refine wpAny_execs_cons (wpAny_Expr ?_ (by kernel_rfl) rfl)
    refine wpAny_Call_method (by rfl) (by rfl) hline5 PySem.F.plainAttrs_list PySem.F.slot_list_reverse PySem.F.type_list_reverse ?_
    obtain ⟨m6, hn6, hloc6⟩ := fm.m
    obtain ⟨vq, hhq, hvq⟩ := hloc6 "q_digits" (.raw (.ref Dq)) (by kernel_rfl)
    have hvq : vq = .ref Dq := hvq
    subst hvq
    have hvl : vs.length ≤ m := by
      have := hs.length
      rw [List.length_map, dv_len, List.length_reverse, digs_length] at this
      lia
    refine name_held (s := { s with heap := h, toks := t }) ok hn6 hhq ⟨hl.isList.typeIs, fun a' q => by cases q; obtain ⟨o, n, e, c, d, _⟩ := hl; exact ⟨o, e, d⟩, ?_⟩
    refine Calls.callWith_builtin (args := []) rfl (PySem.evalArgs_none ?_)
    refine reverse_plain (s := { s with heap := h, toks := t }) hl ?_ (by rw [List.size_toArray]; lia)
    intro h₇ hl7 hs7
    obtain ⟨g7, fm7⟩ := write_ok g fm hl.isList hDB hs7 (hplainρ _)
    have hds := dv_inv hBn hb' (digs n m a).reverse hdmem
    have hw := dv_whole hBn hb' (digs n m a).reverse hdmem
    rw [foldV_rev, valD_digs n m a halt] at hw
    have hqf := foldV_rev n (dvRun (2 ^ n) (b : Int) (digs n m a).reverse).1.reverse
    rw [List.reverse_reverse, hw.1] at hqf
    have hql := dv_len (2 ^ n) (b : Int) (digs n m a).reverse
    rw [List.length_reverse, digs_length] at hql
    generalize (dvRun (2 ^ n) (b : Int) (digs n m a).reverse).2 = rr at *
    generalize (dvRun (2 ^ n) (b : Int) (digs n m a).reverse).1 = qq at *
    have fm8 := fm7.retype (x := "q_digits") (d := .lst (qq.reverse.map .int)) (by kernel_rfl) ⟨Dq, vs.reverse, rfl, by
      have := hl7.isList
      simpa using this, scs_rev hs⟩
    have hfin : wpS w hB false (k + 5) (envP w L) 10 ((bodyAt w 66).drop 6) (("q_digits", .lst (qq.reverse.map .int)) :: ρp b n rr (.ref Dq)) (retQ Q) := by
      rw [p_last]
      refine digits2int_call B (k := k) (n := n) (vs := qq.reverse) ?_ ?_ ?_ ?_
      · lia
      · rw [List.length_reverse]; lia
      · intro x hx
        have := hds.2.2.2 x (List.mem_reverse.mp hx)
        have h2 : (2 : Int) ^ n ≤ 2 ^ 1000 := by exact_mod_cast Nat.pow_le_pow_right (by decide) (show n ≤ 1000 by lia)
        lia
      · rw [← hqf, hw.2]
        exact hQ
    refine wpS_sound (p := false) B ok hfr 10 _ _ _ hfin { s with heap := h₇, toks := t } g7 fm8 A r E _ fun fl o h₈ t₈ k8 g8 o8 q8 => ?_
    refine hR fl o h₈ t₈ ?_ g8 o8 q8
    intro bb o h1 h2 e
    have h2' : bb ≠ 54 ∧ bb ≠ 47 := by rcases h2 with q | q; cases q; exact q
    exact k8 bb o h1 h2 ((hs7.2 bb (hDs bb o e h1)).trans (old bb o h1 h2'.1 h2'.2 e))
  refine for_walk (Walks.listRev (prog := prg) (w := w) (A := A) r.1 It aA hltA vsA.toArray) (fun i s' => ∃ h t vs, s' = { s with heap := h, toks := t } ∧ Good hB h ∧ Fm (envP w L) h (ρp b n (dvRun (2 ^ n) b ((digs n m a).reverse.take i)).2 (.ref Dq)) ∧ PlainL h Dq vs.toArray ∧
      ScsAre ((dvRun (2 ^ n) b ((digs n m a).reverse.take i)).1.map .int) vs ∧ (∀ bb o, ¬ Own (envP w L) bb → bb ≠ 54 → bb ≠ 47 → s.heap.get? bb = some o → h.get? bb = some o)) ?_ ?_ ?_ ?_
  · exact ⟨Nat.zero_le _, by simpa using hRev, hlA4⟩
  · exact ⟨h₄, t₃, [], rfl, g4, fm4, hDq4, trivial, old4⟩
  · rintro i s' hi hst ⟨h, t, vs, rfl, gi, fmi, hli, hsi, oldi⟩ v h' tk hv hst' hk E'
    have hi' : i < m := by simpa [hlenA] using hi
    obtain ⟨gi2, fmi2⟩ := revIter_ok gi fmi hst.2.1 hItB hk
    have hli2 : PlainL h' Dq vs.toArray := by obtain ⟨o, n, e, q⟩ := hli; exact ⟨o, n, hk _ _ (by simpa using hltD) e, q⟩
    have hvs : (Sc.int ((digs n m a).reverse.getD i 0)).Is v := by
      have h0 := hrl i hi'
      rw [hv] at h0
      have h1 := scs_get (scs_rev hsA) (j := i) (v := v) (by
        rw [List.getElem?_reverse (by lia), hlenA]; exact h0.symm)
      exact h1
    refine wpAny_assign_Name (?_)
    refine store_sound (p := false) (s := { s with heap := h', toks := tk }) ok hfr (x := "a_digit") (d := I ((digs n m a).reverse.getD i 0)) gi2 fmi2 (by kernel_rfl) hvs fun h₅ t₅ k5 g5 fm5 => ?_
    obtain ⟨f1, f2, f3, f4, f5, hfb, hfl⟩ := p_fbody w
    rw [hfb]
    refine execs_append ?_
    have hdl : (digs n m a).reverse.take (i + 1) = (digs n m a).reverse.take i ++ [(digs n m a).reverse.getD i 0] := by
      have hlt : i < (digs n m a).reverse.length := by rw [List.length_reverse, digs_length]; exact hi'
      rw [List.take_succ_eq_append_getElem hlt, List.getD_eq_getElem?_getD, List.getElem?_eq_getElem hlt, Option.getD_some]
    have hdm : 0 ≤ (digs n m a).reverse.getD i 0 ∧ (digs n m a).reverse.getD i 0 < (2 : Int) ^ n := by
      have hlt : i < (digs n m a).reverse.length := by rw [List.length_reverse, digs_length]; exact hi'
      rw [List.getD_eq_getElem?_getD, List.getElem?_eq_getElem hlt, Option.getD_some]
      exact hdmem _ (List.getElem_mem _)
    obtain ⟨r1, r2, _, _⟩ := dv_inv hBn hb' ((digs n m a).reverse.take i) fun d hd => hdmem d (List.mem_of_mem_take hd)
    generalize hd0 : (digs n m a).reverse.getD i 0 = d at *
    generalize hr0 : (dvRun (2 ^ n) (b : Int) ((digs n m a).reverse.take i)).2 = rr at *
    have hbn : (b : Int) < 2 ^ n := by exact_mod_cast hbb
    have hnum0 : 0 ≤ rr * 2 ^ n + d := by have := Int.mul_nonneg r1 (Int.le_of_lt hBn); lia
    have hnum1 : rr * 2 ^ n + d < 2 ^ (n + n) := by
      have h1 : rr * 2 ^ n ≤ ((2 : Int) ^ n - 1) * 2 ^ n := Int.mul_le_mul_of_nonneg_right (by lia) (Int.le_of_lt hBn)
      have h2 : ((2 : Int) ^ n - 1) * 2 ^ n = 2 ^ (n + n) - 2 ^ n := by rw [Int.sub_mul, Int.one_mul, Int.pow_add]
      lia
    have hib : ib (rr * 2 ^ n + d) ≤ ((n + n : Nat) : Int) := by
      show ((Builtin.Int.intBits _ : Nat) : Int) ≤ _
      exact_mod_cast bits_le hnum0 hnum1
    have hir : ib rr ≤ (n : Int) := by
      show ((Builtin.Int.intBits _ : Nat) : Int) ≤ _
      exact_mod_cast bits_le r1 (Int.lt_trans r2 hbn)
    refine wpS_sound (p := false) B ok hfr 10 _ _ (fun o => o = .nxt (("r", I ((rr * 2 ^ n + d) % b)) :: ("q_digit", I ((rr * 2 ^ n + d) / b)) :: ("a_digit", I d) :: ρp b n rr (.ref Dq))) ?_ { s with heap := h₅, toks := t₅ } g5 fm5 A r E' _ fun fl o h₆ t₆ k6 g6 o6 q6 => ?_
    · rw [p_turn]
      refine ⟨⟨Int.natCast_nonneg _, ?_⟩, ?_⟩
      · have : (2 : Int) ^ 27 = 134217728 := by decide
        rw [this]; lia
      · rw [Int.toNat_natCast]
        refine div2_call (k := k + 4) B (by lia) (by lia) ?_ ?_
        · rw [Int.natAbs_natCast]
          rcases Nat.eq_zero_or_pos b with q | q
          · lia
          · have := (Nat.log2_lt (by lia)).mpr hbb
            lia
        · show (Out.nxt _ = Out.nxt _)
          rw [Int.fdiv_eq_ediv_of_nonneg _ (Int.le_of_lt hb'), Int.fmod_eq_emod_of_nonneg _ (Int.le_of_lt hb')]
    · subst q6
      obtain ⟨rfl, fm6⟩ := o6
      have fm5b := fm5
      have hl6 := plainL_keepF g5 fm5b (plainL_keepF gi2 fmi2 hli2 k5) k6
      obtain ⟨m6, hn6, hloc6⟩ := fm6.m
      obtain ⟨vq, hhq, hvq⟩ := hloc6 "q_digits" (.raw (.ref Dq)) (by kernel_rfl)
      have hvq : vq = .ref Dq := hvq
      subst hvq
      obtain ⟨vd, hhd, hvd⟩ := hloc6 "q_digit" (I ((rr * 2 ^ n + d) / b)) (by kernel_rfl)
      refine wpAny_execs_cons (wpAny_Expr ?_ (by kernel_rfl) rfl)
      refine wpAny_Call_append (by rfl) (by rfl) hfl (by rfl) ?_
      refine name_held (s := { s with heap := h₆, toks := t₆ }) ok hn6 hhq ⟨Dq, vs.toArray, rfl, hl6, ?_⟩
      refine name_held (s := { s with heap := h₆, toks := t₆ }) ok hn6 hhd ?_
      have hvl : vs.length ≤ m := by
        have := hsi.length
        rw [List.length_map, dv_len, List.length_take, List.length_reverse, digs_length] at this
        lia
      refine list_append_plainL (s := { s with heap := h₆, toks := t₆ }) hl6 ?_ (by
        rw [List.size_toArray]
        exact Nat.le_trans (Nat.le_trans hvl hm4) (by decide))
      · intro h₇ hl7 hs7
        refine wpAny_execs_nil ?_
        have fm6' := fm6.less (ρp b n ((rr * 2 ^ n + d) % b) (.ref Dq)) ⟨rfl, rfl, rfl, rfl, trivial⟩
        obtain ⟨g7, fm7⟩ := write_ok g6 fm6' hl6.isList hDB hs7 (hplainρ _)
        have kIt : ∀ bb ∈ [It, aA], ∀ o, h'.get? bb = some o → h₇.get? bb = some o := by
          have kk : ∀ bb o, h'.get? bb = some o → bb ≠ Dq → (∀ es n, o.data ≠ .dict es n) → (∀ v, o.data ≠ .cell v) → (∀ ps, o ≠ tabObj ps) → h₇.get? bb = some o := fun bb o e q1 q2 q3 q4 => by
            have hne := gi2.ne e q4
            have hno := fmi2.not_own e q2 q3
            exact (hs7.2 bb q1).trans (k6 bb o hno (.inr hne) (k5 bb o hno (.inr hne) e))
          intro bb hbb o e
          rcases List.mem_cons.mp hbb with rfl | hbb
          · obtain ⟨o', e', c, dd⟩ := hst'.2.1
            rw [e] at e'; cases e'
            exact kk bb o e (Ne.symm hltD) (fun _ _ q => by rw [dd] at q; cases q) (fun _ q => by rw [dd] at q; cases q) (fun ps q => by rw [q] at c; cases c)
          · have hbb : bb = aA := by simpa using hbb
            subst hbb
            obtain ⟨o', e', c, nn, dd⟩ := hst'.2.2
            rw [e] at e'; cases e'
            exact kk bb o e hADq (fun _ _ q => by rw [dd] at q; cases q) (fun _ q => by rw [dd] at q; cases q) (fun ps q => by rw [q] at c; cases c)
        refine ⟨(Walks.listRev (prog := prg) (w := w) (A := A) r.1 It aA hltA vsA.toArray).frame _ _ _ hst' kIt, h₇, t₆, vs ++ [vd], rfl, g7, ?_, ?_, ?_, ?_⟩
        · rw [hdl, dvRun_snoc]
          show Fm _ _ (ρp _ _ (((dvRun (2 ^ n) (b : Int) ((digs n m a).reverse.take i)).2 * 2 ^ n + d) % b) _)
          rw [hr0]; exact fm7
        · have : (vs ++ [vd]).toArray = vs.toArray.push vd := by simp
          rw [this]; exact hl7
        · rw [hdl, dvRun_snoc]
          show ScsAre (((dvRun (2 ^ n) (b : Int) ((digs n m a).reverse.take i)).1 ++ [((dvRun (2 ^ n) (b : Int) ((digs n m a).reverse.take i)).2 * 2 ^ n + d) / b]).map .int) _
          rw [hr0]
          exact scs_snoc hvd hsi
        · intro bb o h1 h2 h3 e
          refine (hs7.2 bb (hDs bb o e h1)).trans (k6 bb o h1 (.inr ⟨h2, h3⟩) (k5 bb o h1 (.inr ⟨h2, h3⟩) (hk _ _ (by simpa using oldIt bb o h1 h2 h3 e) (oldi bb o h1 h2 h3 e))))
  · rintro s' hst ⟨h, t, vs, rfl, gi, fmi, hli, hsi, oldi⟩ h' tk hk
    obtain ⟨gi2, fmi2⟩ := revIter_ok gi fmi hst.2.1 hItB hk
    have hli2 : PlainL h' Dq vs.toArray := by obtain ⟨o, n, e, q⟩ := hli; exact ⟨o, n, hk _ _ (by simpa using hltD) e, q⟩
    have ht : (digs n m a).reverse.take vsA.toArray.size = (digs n m a).reverse := by
      rw [List.take_of_length_le]
      simp [hlenA, digs_length]
    rw [ht] at fmi2 hsi
    exact hgoal h' tk vs gi2 fmi2 hli2 hsi fun bb o h1 h2 h3 e => hk _ _ (by simpa using oldIt bb o h1 h2 h3 e) (oldi bb o h1 h2 h3 e)
end Mine
end

section -- Im
open PySem PySem.W PyProof.Rows PySem.Calls
namespace Mine
set_option maxRecDepth 100000
set_option linter.unusedVariables false
set_option linter.unusedSimpArgs false
set_option exponentiation.threshold 5000
variable {p : Bool}

noncomputable abbrev envIm (w : World) (L : Nat) : Env := callEnvC (fnAt w 73) L 73
noncomputable def ifElse : Stmt → List Stmt
  | .If _ _ b _ => b
  | _ => []
section
variable (w : World) (hB : Heap) (k L : Nat) (a b : Int)
noncomputable abbrev ρdm : Rho := [("b", I b), ("a", I a)]
theorem im_body (Q : V → Prop) : wpS w hB p k (envIm w L) 16 (bodyAt w 73) (ρdm a b) (retQ Q) =
   condP (b == 0) (wpS w hB p k (envIm w L) 15 (ifBody (stAt w 73 0)) (ρdm a b) (seqOut (fun ρ' => wpS w hB p k (envIm w L) 15 [] ρ' (retQ Q)) (retQ Q)))
    (condP (decide (b < 0)) (wpS w hB p k (envIm w L) 14 (ifBody ((ifElse (stAt w 73 0)).getD 0 default)) (ρdm a b) (seqOut (fun ρ' => wpS w hB p k (envIm w L) 14 [] ρ' (seqOut (fun ρ' => wpS w hB p k (envIm w L) 15 [] ρ' (retQ Q)) (retQ Q))) (seqOut (fun ρ' => wpS w hB p k (envIm w L) 15 [] ρ' (retQ Q)) (retQ Q))))
      (condP (decide (a < 0)) (CallSpec w hB p k (.ref 73) [I (Builtin.bitNot a), I b] (unpackK ["q", "r"] (ρdm a b) fun ρ' => wpS w hB p k (envIm w L) 12 ((ifBody ((ifElse ((ifElse (stAt w 73 0)).getD 0 default)).getD 0 default)).drop 1) ρ' (retQ Q)))
        (CallSpec w hB p k (.ref 66) [I a, I b] Q))) := by kernel_rfl
theorem im_neg (q r : Int) (Q : V → Prop) : wpS w hB p k (envIm w L) 12 ((ifBody ((ifElse ((ifElse (stAt w 73 0)).getD 0 default)).getD 0 default)).drop 1) (("r", I r) :: ("q", I q) :: ρdm a b) (retQ Q) =
    guardF (decide (1000 < 2)) (Q (.tup [.int (Builtin.bitNot q), .int (b + Builtin.bitNot r)])) := by kernel_rfl
end

theorem intdm_pos {w : World} {hB : Heap} {mg mb : Str → Option Value} (B : Bs w hB mg mb) {k : Nat} {a b : Nat} (hb : 0 < b) (hn1 : b < 2 ^ 900) (ha : a < 2 ^ (4 * Builtin.Int.intBits (b : Int))) {Q : V → Prop}
    (hQ : Q (.tup [.int ((a : Int) / (b : Int)), .int ((a : Int) % (b : Int))])) : CallSpec w hB false (k + 7) (.ref 73) [I (a : Int), I (b : Int)] Q := by
  refine call_at B 16 73 ["a", "b"] (by kernel_rfl) (by kernel_rfl) (by kernel_rfl) (by kernel_rfl) rfl (bind2 fun x y => by kernel_rfl) fun L => ?_
  show wpS w hB false (k + 6) (envIm w L) 16 (bodyAt w 73) (ρdm a b) (retQ Q)
  rw [im_body]
  refine ⟨fun h => ?_, fun _ => ⟨fun h => ?_, fun _ => ⟨fun h => ?_, fun _ => ?_⟩⟩⟩
  · have : (b : Int) = 0 := eq_of_beq h
    lia
  · have := of_decide_eq_true h; lia
  · have := of_decide_eq_true h; lia
  · have hbb : Builtin.Int.intBits (b : Int) ≤ 900 := bits_le (Int.natCast_nonneg _) (by exact_mod_cast hn1)
    have hb0 : 0 < Builtin.Int.intBits (b : Int) := by
      have := nat_bits b
      rcases Nat.eq_zero_or_pos (Builtin.Int.intBits (b : Int)) with q | q
      · rw [q] at this; lia
      · exact q
    have hab : Builtin.Int.intBits (a : Int) ≤ 4 * Builtin.Int.intBits (b : Int) := bits_le (Int.natCast_nonneg _) (by exact_mod_cast ha)
    refine divmod_pos_call B (k := k) hb rfl hbb rfl ?_ ?_
    · have := Nat.div_lt_of_lt_mul (m := Builtin.Int.intBits (a : Int) + Builtin.Int.intBits (b : Int) - 1) (n := Builtin.Int.intBits (b : Int)) (k := 5) (by lia)
      lia
    · exact hQ

theorem neg_div {a b : Int} (hb : 0 < b) : Builtin.bitNot (Builtin.bitNot a / b) = a / b ∧ b + Builtin.bitNot (Builtin.bitNot a % b) = a % b := by
  show -((-a - 1) / b) - 1 = a / b ∧ b + (-((-a - 1) % b) - 1) = a % b
  have h1 := Int.emod_add_mul_ediv (-a - 1) b
  have h2 := Int.emod_nonneg (-a - 1) (show b ≠ 0 by lia)
  have h3 := Int.emod_lt_of_pos (-a - 1) hb
  have := (Int.ediv_emod_unique (a := a) (b := b) (r := b + (-((-a - 1) % b) - 1)) (q := -((-a - 1) / b) - 1) hb).mpr ⟨by
    rw [Int.mul_sub, Int.mul_neg, Int.mul_one]; lia, by lia, by lia⟩
  exact ⟨this.1.symm, this.2.symm⟩

/-- int_divmod, divisor above nought -/
theorem intdm_call {w : World} {hB : Heap} {mg mb : Str → Option Value} (B : Bs w hB mg mb) {k : Nat} {a : Int} {b : Nat} (hb : 0 < b) (hn1 : b < 2 ^ 900) (ha : a.natAbs < 2 ^ (4 * Builtin.Int.intBits (b : Int))) {Q : V → Prop}
    (hQ : Q (.tup [.int (a / (b : Int)), .int (a % (b : Int))])) : CallSpec w hB false (k + 8) (.ref 73) [I a, I (b : Int)] Q := by
  by_cases h0 : 0 ≤ a
  · obtain ⟨a, rfl⟩ := Int.eq_ofNat_of_zero_le h0
    exact intdm_pos B (k := k + 1) hb hn1 (by simpa using ha) hQ
  · refine call_at B 16 73 ["a", "b"] (by kernel_rfl) (by kernel_rfl) (by kernel_rfl) (by kernel_rfl) rfl (bind2 fun x y => by kernel_rfl) fun L => ?_
    show wpS w hB false (k + 7) (envIm w L) 16 (bodyAt w 73) (ρdm a b) (retQ Q)
    rw [im_body]
    refine ⟨fun h => ?_, fun _ => ⟨fun h => ?_, fun _ => ⟨fun h => ?_, fun h => ?_⟩⟩⟩
    · have : (b : Int) = 0 := eq_of_beq h
      lia
    · have := of_decide_eq_true h; lia
    · have hnn : 0 ≤ Builtin.bitNot a := by show 0 ≤ -a - 1; lia
      have hnn1 : (Builtin.bitNot a).natAbs < 2 ^ (4 * Builtin.Int.intBits (b : Int)) := Nat.lt_of_le_of_lt (by show (-a - 1).natAbs ≤ a.natAbs; lia) ha
      have hnd := neg_div (a := a) (b := b) (by lia)
      obtain ⟨a', ha'⟩ := Int.eq_ofNat_of_zero_le hnn
      rw [ha'] at hnd hnn1 ⊢
      refine intdm_pos B (k := k) hb hn1 (by simpa using hnn1) ?_
      have key := im_neg (p := false) w hB (k + 7) L a b ((a' : Int) / (b : Int)) ((a' : Int) % (b : Int)) Q
      refine Eq.mpr key (guardF_in (by decide) ?_)
      rw [hnd.1, hnd.2]
      exact hQ
    · have := of_decide_eq_false h; lia
end Mine
end

section -- Nx
open PySem PySem.W PyProof.Rows PySem.Calls
namespace Mine
set_option maxRecDepth 100000
set_option linter.unusedVariables false
set_option linter.unusedSimpArgs false
set_option exponentiation.threshold 5000
variable {p : Bool}

noncomputable abbrev envN (w : World) (L : Nat) : Env := callEnvC (fnAt w 154) L 154
noncomputable def pairQ (Q : V → Prop) (a b : V) : Prop := match scsOf [a, b] with
  | some l => guardF (decide (1000 < l.length)) (Q (.tup l))
  | none => False
noncomputable def tgtPos : Stmt → Pos
  | .Assign [.Name _ q] _ _ => q
  | _ => default
/-- x = [.. for y in ..], its parts named -/
noncomputable def compAssign (x y : Str) (st : Stmt) : Stmt :=
  .Assign [.Name x (tgtPos st)] (.ListComp (cElt (valOf st)) [⟨.Name y (cTgtPos (valOf st)), cIter (valOf st), [], 0⟩] (cScope (valOf st)) (cPos (valOf st))) (stPos st)
section
variable (w : World) (hB : Heap) (k L : Nat) (rest both a b c deed base dv : Int) (Q : V → Prop)
noncomputable abbrev ρn : Rho := [("divisor", I dv), ("base", I base), ("deed", I deed), ("parts", L3 a b c), ("both", I both), ("rest", I rest)]
theorem nx0 : wpS w hB p k (envN w L) 40 (bodyAt w 154) (ρn rest both a b c deed base dv) (retQ Q) =
    condP (deed == 0) (IntMulOk rest (base + 1) ∧ CallSpec w hB p k (.ref 73) [I (rest * (base + 1)), I dv] fun d => itemSpec d (I 1) fun x => pairQ Q x (I both))
      (condP (deed == 1) (IntMulOk (-base) rest ∧ CallSpec w hB p k (.ref 73) [I (-base * rest), I dv] fun d => itemSpec d (I 1) fun x => pairQ Q x (I both))
        (condP (deed == 2) (pairQ Q (I rest) (I (32 - both)))
          (wpS w hB p k (envN w L) 37 ((bodyAt w 154).drop 3) (ρn rest both a b c deed base dv) (retQ Q)))) := by kernel_rfl
theorem nx3 : wpS w hB p k (envN w L) 37 ((bodyAt w 154).drop 3) (ρn rest both a b c deed base dv) (retQ Q) =
    condP (deed == 3) (wpS w hB p k (envN w L) 36 (ifBody (stAt w 154 3)) (ρn rest both a b c deed base dv) (seqOut (fun ρ' => wpS w hB p k (envN w L) 36 ((bodyAt w 154).drop 4) ρ' (retQ Q)) (retQ Q)))
      (condP (deed == 4) (CallSpec w hB p k (.ref 73) [I (-rest), I dv] fun d => itemSpec d (I 1) fun x => pairQ Q x (I (32 - both)))
        (CallSpec w hB p k (.ref 73) [I (-rest), I dv] fun d => itemSpec d (I 1) fun x => pairQ Q x (I both))) := by kernel_rfl
theorem nx3b : wpS w hB p k (envN w L) 36 (ifBody (stAt w 154 3)) (ρn rest both a b c deed base dv) (seqOut (fun ρ' => wpS w hB p k (envN w L) 36 ((bodyAt w 154).drop 4) ρ' (retQ Q)) (retQ Q)) =
    ExecSpec w hB p k (envN w L) (exec ((ifBody (stAt w 154 3)).getD 0 default) (envN w L)) (ρn rest both a b c deed base dv) (seqOut (fun ρ' => wpS w hB p k (envN w L) 35 ((ifBody (stAt w 154 3)).drop 1) ρ' (seqOut (fun ρ' => wpS w hB p k (envN w L) 36 ((bodyAt w 154).drop 4) ρ' (retQ Q)) (retQ Q))) (seqOut (fun ρ' => wpS w hB p k (envN w L) 36 ((bodyAt w 154).drop 4) ρ' (retQ Q)) (retQ Q))) := by kernel_rfl
noncomputable abbrev nxS : Stmt := (ifBody (stAt w 154 3)).getD 0 default
theorem nx_comp : (ifBody (stAt w 154 3)).getD 0 default = compAssign "put" "part" (nxS w) := by kernel_rfl
theorem nx_iter (R : V → Prop) : wpE w hB p k (envN w L) 5 (cIter (valOf (nxS w))) (ρn rest both a b c deed base dv) R = R (L3 a b c) := by kernel_rfl
theorem nx_elt (C : Addr) (cl : List (Str × Addr)) (i : Int) (R : V → Prop) : wpE w hB p k (compEnvC (cScope (valOf (nxS w))) cl C (envN w L)) 6 (cElt (valOf (nxS w))) [("part", I i)] R =
    R (I (if i < 1 then i else 1)) := by kernel_rfl
theorem nx_ret (x y z : Int) (P : Rho → Prop) : wpS w hB p k (envN w L) 35 ((ifBody (stAt w 154 3)).drop 1) (("put", L3 x y z) :: ρn rest both a b c deed base dv) (seqOut P (retQ Q)) =
    (IntMulOk y base ∧ IntMulOk z base ∧ IntMulOk (z * base) base ∧ CallSpec w hB p k (.ref 73) [I (rest + x + y * base + z * base * base), I dv] fun d => itemSpec d (I 1) fun u => pairQ Q u (I (both + imax3 x y z + imin3 x y z))) := by kernel_rfl
end

/-! numbers -/
noncomputable def isOne (x : Int) : Int := if x < 1 then x else 1
noncomputable def nextR (rest both a b c deed base dv : Int) : Int × Int :=
  if deed = 0 then ((rest * (base + 1)) % dv, both)
  else if deed = 1 then ((-base * rest) % dv, both)
  else if deed = 2 then (rest, 32 - both)
  else if deed = 3 then ((rest + isOne a + isOne b * base + isOne c * base * base) % dv, both + imax3 (isOne a) (isOne b) (isOne c) + imin3 (isOne a) (isOne b) (isOne c))
  else if deed = 4 then ((-rest) % dv, 32 - both)
  else ((-rest) % dv, both)
noncomputable def put1 : Sc → Sc
  | .int i => .int (isOne i)
  | a => a

theorem fits4 {d : Nat} {x : Int} (hd : 0 < d) (hx : x.natAbs ≤ d * d) : x.natAbs < 2 ^ (4 * Builtin.Int.intBits (d : Int)) := by
  have h1 := nat_bits d
  generalize Builtin.Int.intBits (d : Int) = m at h1 ⊢
  have h2 : d * d ≤ d * d * (d * d) := Nat.le_mul_of_pos_right _ (Nat.mul_pos hd hd)
  have h3 : d * d < 2 ^ m * 2 ^ m := Nat.mul_lt_mul'' h1 h1
  have h4 : d * d * (d * d) ≤ 2 ^ m * 2 ^ m * (2 ^ m * 2 ^ m) := Nat.mul_le_mul (Nat.le_of_lt h3) (Nat.le_of_lt h3)
  have h5 : 2 ^ (4 * m) = 2 ^ m * 2 ^ m * (2 ^ m * 2 ^ m) := by
    rw [← Nat.pow_add, ← Nat.pow_add]; congr 1; lia
  have h6 : 2 ^ m * 2 ^ m ≤ 2 ^ m * 2 ^ m * (2 ^ m * 2 ^ m) := Nat.le_mul_of_pos_right _ (Nat.mul_pos (Nat.two_pow_pos m) (Nat.two_pow_pos m))
  rw [h5]
  lia
theorem bits_leA {x : Int} {m : Nat} (h : x.natAbs < 2 ^ m) : Builtin.Int.intBits x ≤ m := by
  unfold Builtin.Int.intBits
  split
  · exact Nat.zero_le _
  · rename_i hx
    have hx : x.natAbs ≠ 0 := by
      intro e
      apply hx
      have : x = 0 := by lia
      simp [this]
    have := (Nat.log2_lt hx).mpr h
    lia
theorem mulOk_lt {a b : Int} (ha : a.natAbs < 2 ^ 900) (hb : b.natAbs < 2 ^ 900) : IntMulOk a b := .of_bits (Nat.le_trans (bits_leA ha) (by decide)) (Nat.le_trans (bits_leA hb) (by decide))

theorem isOne_bd {x : Int} (h : 0 ≤ x) : 0 ≤ isOne x ∧ isOne x ≤ 1 := by unfold isOne; split <;> lia

theorem one_mul_bd {x : Int} {base : Nat} (h0 : 0 ≤ x) (h1 : x ≤ 1) : 0 ≤ x * (base : Int) ∧ x * (base : Int) ≤ ((base : Nat) : Int) := by
  rcases (show x = 0 ∨ x = 1 by lia) with rfl | rfl <;> constructor <;> lia
theorem one_mul_bd2 {x : Int} {base : Nat} (h0 : 0 ≤ x) (h1 : x ≤ 1) : 0 ≤ x * (base : Int) * base ∧ x * (base : Int) * base ≤ ((base * base : Nat) : Int) := by
  rcases (show x = 0 ∨ x = 1 by lia) with rfl | rfl
  · rw [Int.zero_mul, Int.zero_mul]; exact ⟨Int.le_refl _, Int.natCast_nonneg _⟩
  · rw [Int.one_mul]; push_cast; exact ⟨Int.mul_nonneg (Int.natCast_nonneg _) (Int.natCast_nonneg _), Int.le_refl _⟩
theorem next_call {w : World} {hB : Heap} {mg mb : Str → Option Value} (B : Bs w hB mg mb) {k : Nat} {rest both a b c deed : Int} {base : Nat} (h2 : 2 ≤ base) (hb : base < 2 ^ 200) (ha : 0 ≤ a) (hb0 : 0 ≤ b) (hc : 0 ≤ c) (hr : 0 ≤ rest) (hr1 : rest < (base * base + base + 1 : Nat)) {Q : V → Prop}
    (hQ : Q (.tup [.int (nextR rest both a b c deed base (base * base + base + 1 : Nat)).1, .int (nextR rest both a b c deed base (base * base + base + 1 : Nat)).2])) :
    CallSpec w hB false (k + 9) (.ref 154) [I rest, I both, L3 a b c, I deed, I base, I (base * base + base + 1 : Nat)] Q := by
  refine call_defE B (o := obAt w 154) (fd := fnAt w 154) (body := bodyAt w 154) (names := ["rest", "both", "parts", "deed", "base", "divisor"]) (by kernel_rfl) (by kernel_rfl) (by kernel_rfl) (by kernel_rfl) rfl (fun vals hv => by
    obtain ⟨x1, l1, rfl, hv1⟩ := lenC hv
    obtain ⟨x2, l2, rfl, hv2⟩ := lenC hv1
    obtain ⟨x3, l3, rfl, hv3⟩ := lenC hv2
    obtain ⟨x4, l4, rfl, hv4⟩ := lenC hv3
    obtain ⟨x5, l5, rfl, hv5⟩ := lenC hv4
    obtain ⟨x6, l6, rfl, hv6⟩ := lenC hv5
    cases lenN hv6
    kernel_rfl) fun L ok hfr => wpS_sound B ok hfr 40 _ _ _ ?_
  have hdv : 0 < base * base + base + 1 := Nat.succ_pos _
  have hbb : base * base ≥ base * 2 := Nat.mul_le_mul_left _ h2
  have hbig : base * base + base + 1 < 2 ^ 900 := by
    have : base * base < 2 ^ 200 * 2 ^ 200 := Nat.mul_lt_mul'' hb hb
    have h3 : 2 ^ 200 * 2 ^ 200 + 2 ^ 200 + 1 < 2 ^ 900 := by decide
    lia
  have hdd : (base * base + base + 1) * 2 ≤ (base * base + base + 1) * (base * base + base + 1) := Nat.mul_le_mul_left _ (by lia)
  have hbase : (base : Int).natAbs < 2 ^ 900 := by
    rw [Int.natAbs_natCast]; lia
  have hcast : ((base * base + base + 1 : Nat) : Int) = (base : Int) * base + base + 1 := by push_cast; rfl
  generalize hD : base * base + base + 1 = D at *
  have hrest : rest.natAbs < 2 ^ 900 := by lia
  show wpS w hB false (k + 8) (envN w L) 40 (bodyAt w 154) (ρn rest both a b c deed base D) (retQ Q)
  have fin : ∀ x : Int, x.natAbs ≤ D * D → ∀ bo, Q (.tup [.int (x % (D : Int)), .int bo]) → CallSpec w hB false (k + 8) (.ref 73) [I x, I (D : Int)] fun d => itemSpec d (I 1) fun x => pairQ Q x (I bo) := fun x hx bo hq =>
    intdm_call B (k := k) hdv hbig (fits4 hdv hx) hq
  unfold nextR at hQ
  rw [nx0]
  refine ⟨fun h => ?_, fun h => ⟨fun h' => ?_, fun h' => ⟨fun h'' => ?_, fun h'' => ?_⟩⟩⟩
  · rw [if_pos (eq_of_beq h)] at hQ
    refine ⟨mulOk_lt hrest (by lia), fin _ ?_ _ hQ⟩
    rw [Int.natAbs_mul]
    exact Nat.mul_le_mul (by lia) (by lia)
  · rw [if_neg (by simpa using h), if_pos (eq_of_beq h')] at hQ
    refine ⟨mulOk_lt (by lia) hrest, fin _ ?_ _ hQ⟩
    rw [Int.natAbs_mul]
    exact Nat.mul_le_mul (by lia) (by lia)
  · rw [if_neg (by simpa using h), if_neg (by simpa using h'), if_pos (eq_of_beq h'')] at hQ
    exact hQ
  · rw [if_neg (by simpa using h), if_neg (by simpa using h'), if_neg (by simpa using h'')] at hQ
    rw [nx3]
    refine ⟨fun h3 => ?_, fun h3 => ⟨fun h4 => ?_, fun h4 => ?_⟩⟩
    · rw [if_pos (eq_of_beq h3)] at hQ
      rw [nx3b, nx_comp]
      refine assign_comp_sound ok hfr (ρc := []) (cl := []) (compOk0 (by kernel_rfl) (by kernel_rfl)) put1 [.int a, .int b, .int c] (by simp) (by kernel_rfl) (by kernel_rfl) ?_ ?_ (fun v => by kernel_rfl) ?_
      · refine (wpE_sound B ok 5).1 _ _ _ ?_
        rw [nx_iter]; exact .inl rfl
      · intro q hq C
        have okc : EnvOk (compEnvC (cScope (valOf (nxS w))) [] C (envN w L)) := ⟨by kernel_rfl, by kernel_rfl, by kernel_rfl⟩
        refine (wpE_sound B okc 6).1 _ _ _ ?_
        have : ∃ i : Int, q = .int i := by
          simp only [List.mem_cons, List.mem_nil_iff, or_false] at hq
          rcases hq with rfl | rfl | rfl <;> exact ⟨_, rfl⟩
        obtain ⟨i, rfl⟩ := this
        show wpE _ _ _ _ _ 6 _ [("part", I i)] _
        rw [nx_elt]
        rfl
      · show wpS w hB false (k + 8) (envN w L) 35 ((ifBody (stAt w 154 3)).drop 1) (("put", L3 (isOne a) (isOne b) (isOne c)) :: ρn rest both a b c deed base D) (seqOut _ (retQ Q))
        obtain ⟨a1, a2⟩ := isOne_bd ha
        obtain ⟨b1, b2⟩ := isOne_bd hb0
        obtain ⟨c1, c2⟩ := isOne_bd hc
        have e1 := one_mul_bd (base := base) b1 b2
        have e2 := one_mul_bd (base := base) c1 c2
        have e3 := one_mul_bd2 (base := base) c1 c2
        rw [nx_ret]
        refine ⟨mulOk_lt (by lia) hbase, mulOk_lt (by lia) hbase, mulOk_lt (by lia) hbase, fin _ ?_ _ hQ⟩
        have hDD : D * 2 ≤ D * D := hdd
        clear hQ fin hcast hdd hbig h h' h'' h3 hrest hbase
        refine Nat.le_trans ?_ hDD
        lia
    · rw [if_neg (by simpa using h3), if_pos (eq_of_beq h4)] at hQ
      exact fin _ (by lia) _ hQ
    · rw [if_neg (by simpa using h3), if_neg (by simpa using h4)] at hQ
      exact fin _ (by lia) _ hQ
end Mine
end

section -- Rd
open PySem PySem.W PyProof.Rows PySem.Calls
namespace Mine
set_option maxRecDepth 100000
set_option linter.unusedVariables false
set_option linter.unusedSimpArgs false
set_option exponentiation.threshold 5000
variable {p : Bool}

noncomputable abbrev envR (w : World) (L : Nat) : Env := callEnvC (fnAt w 159) L 159
section
variable (w : World) (hB : Heap) (k L : Nat) (rest both base dv : Int) (Q : V → Prop)
noncomputable abbrev ρr : Rho := [("divisor", I dv), ("base", I base), ("both", I both), ("rest", I rest)]
theorem rd0 : wpS w hB p k (envR w L) 40 (bodyAt w 159) (ρr rest both base dv) (retQ Q) =
    (IntMulOk 2 rest ∧ condP (decide (dv < 2 * rest)) (wpS w hB p k (envR w L) 39 ((bodyAt w 159).drop 1) (("rest", I (rest - dv)) :: ρr rest both base dv) (retQ Q)) (wpS w hB p k (envR w L) 39 ((bodyAt w 159).drop 1) (ρr rest both base dv) (retQ Q))) := by kernel_rfl
variable (ρ : Rho) (r2 : Int)
theorem rd1 : wpS w hB p k (envR w L) 39 ((bodyAt w 159).drop 1) (("rest", I r2) :: ρr rest both base dv) (retQ Q) =
    (((2 : Int) ≠ 0 ∧ (2 : Int).natAbs < 1073741824) ∧ CallSpec w hB p k (.ref 73) [I (r2 + base.fdiv 2), I base] (unpackK ["green", "red"] (("rest", I r2) :: ρr rest both base dv) fun ρ' => wpS w hB p k (envR w L) 38 ((bodyAt w 159).drop 2) ρ' (retQ Q))) := by kernel_rfl
theorem rd1' : wpS w hB p k (envR w L) 39 ((bodyAt w 159).drop 1) (ρr rest both base dv) (retQ Q) =
    (((2 : Int) ≠ 0 ∧ (2 : Int).natAbs < 1073741824) ∧ CallSpec w hB p k (.ref 73) [I (rest + base.fdiv 2), I base] (unpackK ["green", "red"] (ρr rest both base dv) fun ρ' => wpS w hB p k (envR w L) 38 ((bodyAt w 159).drop 2) ρ' (retQ Q))) := by kernel_rfl
variable (x y : Int)
noncomputable abbrev ρr2 : Rho := ("red", I x) :: ("green", I y) :: ρr rest both base dv
theorem rd2 : wpS w hB p k (envR w L) 38 ((bodyAt w 159).drop 2) (ρr2 rest both base dv x y) (retQ Q) =
    (((2 : Int) ≠ 0 ∧ (2 : Int).natAbs < 1073741824) ∧ guardF (decide (1000 < 3)) (((2 : Int) ≠ 0 ∧ (2 : Int).natAbs < 1073741824) ∧ EvalSpec w hB p k (envR w L) (valOf (stAt w 159 4)) (("blue", I ((both - imax3 (x - base.fdiv 2) y 0 - imin3 (x - base.fdiv 2) y 0).fdiv 2)) :: ("ways", L3 (x - base.fdiv 2) y 0) :: ρr2 rest both base dv x y) Q)) := by kernel_rfl
noncomputable abbrev ρr3 : Rho := ("red", I x) :: ("green", I y) :: ("rest", I r2) :: ρr rest both base dv
theorem rd2' : wpS w hB p k (envR w L) 38 ((bodyAt w 159).drop 2) (ρr3 rest both base dv r2 x y) (retQ Q) =
    (((2 : Int) ≠ 0 ∧ (2 : Int).natAbs < 1073741824) ∧ guardF (decide (1000 < 3)) (((2 : Int) ≠ 0 ∧ (2 : Int).natAbs < 1073741824) ∧ EvalSpec w hB p k (envR w L) (valOf (stAt w 159 4)) (("blue", I ((both - imax3 (x - base.fdiv 2) y 0 - imin3 (x - base.fdiv 2) y 0).fdiv 2)) :: ("ways", L3 (x - base.fdiv 2) y 0) :: ρr3 rest both base dv r2 x y) Q)) := by kernel_rfl
theorem rd_comp : valOf (stAt w 159 4) = .ListComp (cElt (valOf (stAt w 159 4))) [⟨.Name "way" (cTgtPos (valOf (stAt w 159 4))), cIter (valOf (stAt w 159 4)), [], 0⟩] (cScope (valOf (stAt w 159 4))) (cPos (valOf (stAt w 159 4))) := by
  kernel_rfl
theorem rd_iter (u v z b : Int) (R : V → Prop) : wpE w hB p k (envR w L) 5 (cIter (valOf (stAt w 159 4))) (("blue", I b) :: ("ways", L3 u v z) :: ρ) R = R (L3 u v z) := by kernel_rfl
theorem rd_elt (C : Addr) (cl : List (Str × Addr)) (i b : Int) (R : V → Prop) : wpE w hB p k (compEnvC (cScope (valOf (stAt w 159 4))) cl C (envR w L)) 5 (cElt (valOf (stAt w 159 4))) [("way", I i), ("blue", I b)] R =
    R (I (b + i)) := by kernel_rfl
theorem rd_clos : closureFor (cScope (valOf (stAt w 159 4))) (envR w L) = (pure ([("blue", L + 1)] : List (Str × Addr)) : Sem _) := by kernel_rfl
end
noncomputable def addB (b : Int) : Sc → Sc
  | .int i => .int (b + i)
  | a => a
theorem read_comp {w : World} {hB : Heap} {mg mb : Str → Option Value} (B : Bs w hB mg mb) {k L : Nat} {ρ : Rho} {u v z b : Int} {Q : V → Prop} (ok : EnvOk (envR w L)) (hQ : Q (L3 (b + u) (b + v) (b + z))) :
    EvalSpec w hB p k (envR w L) (valOf (stAt w 159 4)) (("blue", I b) :: ("ways", L3 u v z) :: ρ) Q := by
  rw [rd_comp]
  refine comp_sound ok (ρc := [("blue", I b)]) (cl := [("blue", L + 1)]) (compOk_of (rd_clos w L) (by kernel_rfl) ?_ ?_) (addB b) [.int u, .int v, .int z] (by simp) ?_ ?_ (fun v => by kernel_rfl) hQ
  · intro y d e
    rw [List.lookup_cons] at e
    by_cases q : (y == ("blue" : Str)) = true
    · have := eq_of_beq q
      subst this
      cases e
      exact ⟨rfl, by kernel_rfl, fun C => by kernel_rfl, by kernel_rfl⟩
    · rw [Bool.not_eq_true] at q
      rw [q] at e
      cases e
  · intro C y c h1 h2
    rw [List.lookup_cons] at h2
    by_cases q : (y == ("blue" : Str)) = true
    · have := eq_of_beq q
      subst this
      cases h2
      exact ⟨by kernel_rfl, by kernel_rfl⟩
    · rw [Bool.not_eq_true] at q
      rw [q] at h2
      cases h2
  · refine (wpE_sound B ok 5).1 _ _ _ ?_
    rw [rd_iter]; exact .inl rfl
  · intro q hq C
    have okc : EnvOk (compEnvC (cScope (valOf (stAt w 159 4))) [("blue", L + 1)] C (envR w L)) := ⟨by kernel_rfl, by kernel_rfl, by kernel_rfl⟩
    refine (wpE_sound B okc 5).1 _ _ _ ?_
    have : ∃ i : Int, q = .int i := by
      simp only [List.mem_cons, List.mem_nil_iff, or_false] at hq
      rcases hq with rfl | rfl | rfl <;> exact ⟨_, rfl⟩
    obtain ⟨i, rfl⟩ := this
    show wpE _ _ _ _ _ 5 _ [("way", I i), ("blue", I b)] _
    rw [rd_elt]
    rfl

/-- the residue nearest nought -/
noncomputable def near (rest dv : Int) : Int := if dv < 2 * rest then rest - dv else rest
noncomputable def readR (rest both base dv : Int) : Int × Int × Int :=
  let t := near rest dv + base / 2
  let x := t % base - base / 2
  let y := t / base
  let b := (both - imax3 x y 0 - imin3 x y 0) / 2
  (b + x, b + y, b)
theorem read_call {w : World} {hB : Heap} {mg mb : Str → Option Value} (B : Bs w hB mg mb) {k : Nat} {rest both : Int} {base : Nat} (h2 : 2 ≤ base) (hb : base < 2 ^ 200) (hr : 0 ≤ rest) (hr1 : rest < (base * base + base + 1 : Nat)) {Q : V → Prop}
    (hQ : Q (L3 (readR rest both base (base * base + base + 1 : Nat)).1 (readR rest both base (base * base + base + 1 : Nat)).2.1 (readR rest both base (base * base + base + 1 : Nat)).2.2)) :
    CallSpec w hB false (k + 9) (.ref 159) [I rest, I both, I base, I (base * base + base + 1 : Nat)] Q := by
  refine call_defE B (o := obAt w 159) (fd := fnAt w 159) (body := bodyAt w 159) (names := ["rest", "both", "base", "divisor"]) (by kernel_rfl) (by kernel_rfl) (by kernel_rfl) (by kernel_rfl) rfl (fun vals hv => by
    obtain ⟨x1, l1, rfl, hv1⟩ := lenC hv
    obtain ⟨x2, l2, rfl, hv2⟩ := lenC hv1
    obtain ⟨x3, l3, rfl, hv3⟩ := lenC hv2
    obtain ⟨x4, l4, rfl, hv4⟩ := lenC hv3
    cases lenN hv4
    kernel_rfl) fun L ok hfr => wpS_sound B ok hfr 40 _ _ _ ?_
  have hdv : 0 < base := by lia
  have hbb : base * base ≥ base * 2 := Nat.mul_le_mul_left _ h2
  have hbig : base < 2 ^ 900 := Nat.lt_trans hb (by decide)
  have hcast : ((base * base + base + 1 : Nat) : Int) = (base : Int) * base + base + 1 := by push_cast; rfl
  generalize hD : base * base + base + 1 = D at *
  have hf2 : (base : Int).fdiv 2 = (base : Int) / 2 := Int.fdiv_eq_ediv_of_nonneg _ (by decide)
  have h20 : (2 : Int) ≠ 0 ∧ (2 : Int).natAbs < 1073741824 := by decide
  show wpS w hB false (k + 8) (envR w L) 40 (bodyAt w 159) (ρr rest both base D) (retQ Q)
  have h16 : D ≤ base * base * (base * base) := by
    have h4 : base * base * 4 ≤ base * base * (base * base) := Nat.mul_le_mul_left _ (by lia)
    lia
  have fit : ∀ x : Int, x.natAbs ≤ D → x.natAbs < 2 ^ (4 * Builtin.Int.intBits (base : Int)) := fun x hx => by
    have h1 := nat_bits base
    generalize Builtin.Int.intBits (base : Int) = m at h1 ⊢
    have h3 : base * base < 2 ^ m * 2 ^ m := Nat.mul_lt_mul'' h1 h1
    have h4 : base * base * (base * base) < 2 ^ m * 2 ^ m * (2 ^ m * 2 ^ m) := Nat.mul_lt_mul'' h3 h3
    have h5 : 2 ^ (4 * m) = 2 ^ m * 2 ^ m * (2 ^ m * 2 ^ m) := by
      rw [← Nat.pow_add, ← Nat.pow_add]; congr 1; lia
    rw [h5]
    lia
  unfold readR near at hQ
  rw [rd0]
  refine ⟨.of_left (by decide), fun h => ?_, fun h => ?_⟩
  · have h := of_decide_eq_true h
    simp only [if_pos h] at hQ
    rw [rd1, hf2]
    refine ⟨h20, intdm_call B (k := k) hdv hbig (fit _ (by lia)) ?_⟩
    refine Eq.mpr (rd2' w hB (k + 8) L rest both base D Q (rest - D) ((rest - D + (base : Int) / 2) % base) ((rest - D + (base : Int) / 2) / base)) ?_
    refine ⟨h20, guardF_in (by decide) ⟨h20, read_comp B ok ?_⟩⟩
    rw [hf2, Int.fdiv_eq_ediv_of_nonneg _ (show (0 : Int) ≤ 2 by decide), Int.add_zero]
    exact hQ
  · have h := of_decide_eq_false h
    simp only [if_neg h] at hQ
    rw [rd1', hf2]
    refine ⟨h20, intdm_call B (k := k) hdv hbig (fit _ (by lia)) ?_⟩
    refine Eq.mpr (rd2 w hB (k + 8) L rest both base D Q ((rest + (base : Int) / 2) % base) ((rest + (base : Int) / 2) / base)) ?_
    refine ⟨h20, guardF_in (by decide) ⟨h20, read_comp B ok ?_⟩⟩
    rw [hf2, Int.fdiv_eq_ediv_of_nonneg _ (show (0 : Int) ≤ 2 by decide), Int.add_zero]
    exact hQ
end Mine
end

section -- Fg
open PySem PySem.W PyProof.Rows PySem.Calls
namespace Mine
set_option maxRecDepth 100000
set_option linter.unusedVariables false
set_option linter.unusedSimpArgs false
set_option exponentiation.threshold 5000
variable {p : Bool}

noncomputable abbrev envF (w : World) (L : Nat) : Env := callEnvC (fnAt w 166) L 166
noncomputable def whTest : Stmt → Expr
  | .While t _ _ _ => t
  | _ => default
theorem fg_body (w : World) : ∃ t0 a0 b0 c0 p0 a1 b1 c1 p1 p2 a3 p3, bodyAt w 166 = [.Assign [.Name "figures" t0] (.Call (.Name "list" a0) [.Name "parts" b0] [] c0) p0,
    .While (whTest (stAt w 166 1)) [.Expr (.Call (.Attribute (.Name "figures" a1) "pop" b1) [] [] c1) p1] [] p2, .Return (some (.Name "figures" a3)) p3] ∧ (b1.endLine == c1.line) = true := ⟨_, _, _, _, _, _, _, _, _, _, _, _, rfl, rfl⟩
section
variable (w : World) (hB : Heap) (k L : Nat) (l : List Sc) (ρ : Rho)
theorem fg_test (Q : Bool → Prop) : wpT w hB p k (envF w L) 8 (whTest (stAt w 166 1)) (("figures", .lst l) :: ρ) Q =
    litC .NotEq (.lst l) (.lst []) (fun c => condP c (itemSpec (.lst l) (I (-1)) fun d => litC .Eq d (I 0) Q) (Q false)) := by kernel_rfl
end
theorem intsOf_map : ∀ xs : List Int, intsOf (xs.map .int) = some xs
  | [] => rfl
  | x :: r => by simp [intsOf, intsOf_map r]

/-- the figures without the noughts at the end -/
noncomputable def strip0 : List Int → List Int
  | [] => []
  | x :: r => match strip0 r with
    | [] => if x = 0 then [] else [x]
    | y :: t => x :: y :: t
theorem strip0_snoc0 : ∀ l : List Int, strip0 (l ++ [0]) = strip0 l
  | [] => rfl
  | x :: r => by simp [strip0, strip0_snoc0 r]
theorem strip0_snoc : ∀ (l : List Int) (x : Int), x ≠ 0 → strip0 (l ++ [x]) = l ++ [x]
  | [], x, h => by simp [strip0, h]
  | y :: r, x, h => by
    show strip0 (y :: (r ++ [x])) = _
    unfold strip0
    rw [strip0_snoc r x h]
    cases r <;> rfl

noncomputable def FullL (h : Heap) (D : Addr) (its : Array Value) : Prop := ∃ n, h.get? D = some { cls := .type "list", dict := none, data := .seq its n, slots := #[] }
theorem FullL.isList {h : Heap} {D : Addr} {its : Array Value} (x : FullL h D its) : h.IsList D its := let ⟨n, e⟩ := x; ⟨_, e, rfl, n, rfl⟩
theorem fullL_keepF {hB h h' : Heap} {env : Env} {ρ : Rho} (g : Good hB h) (fm : Fm env h ρ) {a : Addr} {its : Array Value} (x : FullL h a its) (k : KeepF p env h h') : FullL h' a its := by
  obtain ⟨n, e⟩ := x
  exact ⟨n, k _ _ (fm.not_own e (fun _ _ q => by cases q) fun _ q => by cases q) (.inr (g.ne e fun ps q => by cases q)) e⟩

theorem scs_init {q : Int} : ∀ {qs : List Int} {vs : List Value}, ScsAre ((qs ++ [q]).map .int) vs → ∃ us v, vs = us ++ [v] ∧ ScsAre (qs.map .int) us ∧ (Sc.int q).Is v
  | [], [v], ⟨x, _⟩ => ⟨[], v, rfl, trivial, x⟩
  | [], [], x => x.elim
  | [], _ :: _ :: _, ⟨_, x⟩ => x.elim
  | _ :: _, [], x => x.elim
  | a :: qs, v :: vs, ⟨x, y⟩ => by
    obtain ⟨us, u, rfl, h1, h2⟩ := scs_init (qs := qs) y
    exact ⟨v :: us, u, rfl, ⟨x, h1⟩, h2⟩
theorem last_case (l : List Int) : l = [] ∨ ∃ q x, l = q ++ [x] := by
  rcases List.eq_nil_or_concat l with h | ⟨q, x, h⟩
  · exact .inl h
  · exact .inr ⟨q, x, by simpa using h⟩

theorem figures_call {w : World} {hB : Heap} {mg mb : Str → Option Value} (B : Bs w hB mg mb) {k : Nat} {xs : List Int} (hlen : xs.length ≤ 100) {Q : V → Prop} (hQ : Q (.lst ((strip0 xs).map .int))) : CallSpec w hB p (k + 1) (.ref 166) [.lst (xs.map .int)] Q := by
  refine call_defE B (o := obAt w 166) (fd := fnAt w 166) (body := bodyAt w 166) (names := ["parts"]) (by kernel_rfl) (by kernel_rfl) (by kernel_rfl) (by kernel_rfl) rfl (bind1 fun x => by kernel_rfl) fun L ok hfr => ?_
  show ExecSpec w hB p k (envF w L) (execs (bodyAt w 166) (envF w L)) [("parts", .lst (xs.map .int))] (retQ Q)
  intro s g fm A r E R hR
  obtain ⟨t0, a0, b0, c0, p0, a1, b1, c1, p1, p2, a3, p3, hbody, hline⟩ := fg_body w
  rw [hbody]
  obtain ⟨m0, hn0, hloc0⟩ := fm.m
  obtain ⟨vA, hhA, aA, vsA, rfl, hlA, hsA⟩ := hloc0 "parts" (.lst (xs.map .int)) (by kernel_rfl)
  refine wpAny_execs_cons (wpAny_Assign_Name ?_ rfl)
  refine PyProof.Rows.Call_Name (trees := [(false, eval (.Name "parts" b0) (envF w L))]) (by kernel_rfl) ?_
  have hgl := bTab_all B ("list", .type "list") (by simp [bTab])
  refine name_global B ok g (by kernel_rfl) (.inr hgl.1) ?_
  refine callee_with (.inr (.inl ⟨_, rfl⟩)) rfl (Calls.spliced_cons (name_held ok hn0 hhA (Calls.spliced_nil ⟨g.stays, ?_⟩)))
  obtain ⟨oA, eA, cA, nA, dA⟩ := hlA
  have hszA : vsA.length ≤ 100 := by rw [hsA.length, List.length_map]; exact hlen
  refine call_list_seq aA (.inl rfl) eA cA dA (fun h₁ c' ka hD => ?_) (by rw [List.size_toArray]; exact Nat.le_trans hszA (by decide))
  have hDnew : s.heap.get? s.heap.objs.size = none := Heap.get?_none_of_le (Nat.le_refl _)
  generalize s.heap.objs.size = D at hD hDnew
  have g1 := g.keep_all ka
  have fm1 := fm.keep (p := p) g (.of_all ka)
  have hF1 : FullL h₁ D vsA.toArray := ⟨c', hD⟩
  have hDB : hB.get? D = none := by
    cases q : hB.get? D with
    | none => rfl
    | some o => rw [g.stays _ _ q] at hDnew; cases hDnew
  refine store_sound (p := p) (s := { s with heap := h₁ }) ok hfr (x := "figures") (d := .raw (.ref D)) g1 fm1 (by kernel_rfl) rfl fun h₂ t₂ k2 g2 fm2 => ?_
  have hF2 := fullL_keepF g1 fm1 hF1 k2
  have fm2' := fm2.less [("figures", .raw (.ref D))] ⟨rfl, trivial⟩
  have hDs : ∀ b o, s.heap.get? b = some o → b ≠ D := by
    rintro b o e rfl
    rw [e] at hDnew; cases hDnew
  have hplain : ∀ x d, List.lookup x ([("figures", .raw (.ref D))] : Rho) = some d → plainV d = true := plain_all rfl
  refine wpAny_execs_cons (wpAny_While ?_)
  refine codeAny_whileLoop (fun n s' => ∃ h t ys vs, s' = { s with heap := h, toks := t } ∧ ys.length = n ∧ Good hB h ∧ Fm (envF w L) h [("figures", .raw (.ref D))] ∧ FullL h D vs.toArray ∧ ScsAre (ys.map .int) vs ∧ strip0 ys = strip0 xs ∧ ys.length ≤ 100 ∧
    (∀ b o, ¬ Own (envF w L) b → (p = true ∨ (b ≠ 54 ∧ b ≠ 47)) → s.heap.get? b = some o → h.get? b = some o)) ?_ xs.length ⟨h₂, t₂, xs, vsA, rfl, rfl, g2, fm2', hF2, hsA, rfl, hlen, fun b o h1 h2 e => k2 b o h1 h2 (ka b o e)⟩
  rintro n s' ⟨h, t, ys, vs, rfl, rfl, gi, fmi, hFi, hsi, hst, hyl, old⟩
  have fmt := fmi.retype (x := "figures") (d := .lst (ys.map .int)) (by kernel_rfl) ⟨D, vs, rfl, hFi.isList, hsi⟩
  refine wpT_sound (p := true) B ok 8 _ _ (fun b => b = true ∧ (∃ q, ys = q ++ [0]) ∨ b = false ∧ strip0 ys = ys) ?_ { s with heap := h, toks := t } gi fmt A r _ _ fun b h₃ t₃ k3 g3 q3 => ?_
  · rw [fg_test]
    unfold litC
    dsimp only
    rw [intsOf_map]
    show condP (!decide (ys = [])) _ _
    rcases last_case ys with rfl | ⟨q, x, rfl⟩
    · exact ⟨fun h => by simp at h, fun _ => .inr ⟨rfl, rfl⟩⟩
    · refine ⟨fun _ => ?_, fun h => by simp at h⟩
      have hit : itemAt ((q ++ [x]).map .int) (-1) = some (.int x) := by
        unfold itemAt
        rw [if_neg (by decide), if_pos (by simp; lia)]
        have : (-1 + (((q ++ [x]).map Sc.int).length : Int)).toNat = q.length := by simp; lia
        rw [this]
        simp
      unfold itemSpec
      dsimp only
      rw [hit]
      refine guardF_in (by simp at hyl ⊢; lia) ?_
      show ((x == 0) = true ∧ _) ∨ ((x == 0) = false ∧ _)
      by_cases hx : x = 0
      · subst hx; exact .inl ⟨rfl, q, rfl⟩
      · exact .inr ⟨by simp [hx], strip0_snoc q x hx⟩
  · have ka3 : ∀ b o, h.get? b = some o → h₃.get? b = some o := fun b o e => k3 b o (.inl rfl) e
    have fm3 := fmi.keep (p := true) gi k3
    have hF3 : FullL h₃ D vs.toArray := let ⟨n, e⟩ := hFi; ⟨n, ka3 _ _ e⟩
    obtain ⟨m3, hn3, hloc3⟩ := fm3.m
    obtain ⟨vq, hhq, hvq⟩ := hloc3 "figures" (.raw (.ref D)) (by kernel_rfl)
    have hvq : vq = .ref D := hvq
    subst hvq
    rcases q3 with ⟨rfl, q, rfl⟩ | ⟨rfl, hend⟩
    · simp only [if_true]
      obtain ⟨us, v, rfl, hu, hv⟩ := scs_init hsi
      refine wpAny_execs_cons (wpAny_Expr ?_ (by kernel_rfl) rfl)
      refine wpAny_Call_method (by rfl) (by rfl) hline PySem.F.plainAttrs_list PySem.F.slot_list_pop PySem.F.type_list_pop ?_
      refine name_held (s := { s with heap := h₃, toks := t₃ }) ok hn3 hhq ⟨hF3.isList.typeIs, fun a' q => by cases q; obtain ⟨n, e⟩ := hF3; exact ⟨_, e, rfl⟩, ?_⟩
      obtain ⟨tv, rfl⟩ := hv
      obtain ⟨n3, e3⟩ := hF3
      refine PySem.P.pop_list (s := { s with heap := h₃, toks := t₃ }) (y := .int 0 tv) e3 (by simp) ?_ (by
        have := hsi.length
        rw [List.length_map] at this
        rw [List.size_toArray, this]
        exact Nat.le_trans hyl (by decide))
      have hsame : Heap.SameBut D h₃ (h₃.update D (Obj.mapSeq fun xs => xs.eraseIdxIfInBounds ((us ++ [Value.int 0 tv]).toArray.size - 1))) := Heap.SameBut.update ..
      have hnew : FullL (h₃.update D (Obj.mapSeq fun xs => xs.eraseIdxIfInBounds ((us ++ [Value.int 0 tv]).toArray.size - 1))) D us.toArray := by
        have h0 := Heap.get?_update_self (Obj.mapSeq fun xs => xs.eraseIdxIfInBounds ((us ++ [Value.int 0 tv]).toArray.size - 1)) e3 rfl
        have : ((us ++ [Value.int 0 tv]).toArray.eraseIdxIfInBounds ((us ++ [Value.int 0 tv]).toArray.size - 1)) = us.toArray := by
          apply Array.toList_inj.mp
          simp [Array.eraseIdxIfInBounds]
          rw [List.eraseIdx_append_of_length_le (by simp)]
          simp
        obtain ⟨n', hd'⟩ := Obj.data_mapSeq (o := { cls := .type "list", dict := none, data := .seq (us ++ [Value.int 0 tv]).toArray n3, slots := #[] }) rfl fun xs => xs.eraseIdxIfInBounds ((us ++ [Value.int 0 tv]).toArray.size - 1)
        refine ⟨n', h0.trans ?_⟩
        rw [this] at hd'
        rw [← hd']
        rfl
      generalize h₃.update D (Obj.mapSeq fun xs => xs.eraseIdxIfInBounds ((us ++ [Value.int 0 tv]).toArray.size - 1)) = h₄ at hsame hnew ⊢
      obtain ⟨g4, fm4⟩ := write_ok g3 fm3 (D := D) ⟨_, e3, rfl, n3, rfl⟩ hDB hsame hplain
      refine wpAny_execs_nil ⟨q.length, by simp, h₄, t₃, q, us, rfl, rfl, g4, fm4, hnew, hu, ?_, by simp at hyl; lia, ?_⟩
      · rw [← hst, strip0_snoc0]
      · exact fun b o h1 h2 e => (hsame.2 b (hDs b o e)).trans (ka3 _ _ (old b o h1 h2 e))
    · simp only [Bool.false_eq_true, if_false]
      refine wpAny_execs_nil ?_
      refine wpAny_execs_cons (wpAny_Return_some ?_)
      refine name_held (s := { s with heap := h₃, toks := t₃ }) ok hn3 hhq ?_
      refine hR (.ret (.ref D)) (.ret (.lst ((strip0 xs).map .int))) h₃ t₃ (fun b o h1 h2 e => ka3 _ _ (old b o h1 h2 e)) g3 ⟨_, rfl, D, vs, rfl, hF3.isList, ?_⟩ hQ
      rw [← hst, hend]; exact hsi
end Mine
end

section -- Ec
open PySem PySem.W PyProof.Rows PySem.Calls
namespace Mine
set_option maxRecDepth 100000
set_option linter.unusedVariables false
set_option linter.unusedSimpArgs false
set_option exponentiation.threshold 5000
variable {p : Bool}

noncomputable def mapI (f : Nat → Sc → Sc) : Nat → List Sc → List Sc
  | _, [] => []
  | i, x :: r => f i x :: mapI f (i + 1) r
theorem mapI_snoc (f : Nat → Sc → Sc) : ∀ (l : List Sc) (j : Nat) (x : Sc), mapI f j (l ++ [x]) = mapI f j l ++ [f (j + l.length) x]
  | [], j, x => rfl
  | y :: r, j, x => by
    show f j y :: mapI f (j + 1) (r ++ [x]) = f j y :: (mapI f (j + 1) r ++ _)
    rw [mapI_snoc f r (j + 1) x, List.length_cons, show j + 1 + r.length = j + (r.length + 1) by lia]
theorem mapI_len (f : Nat → Sc → Sc) : ∀ (l : List Sc) (j : Nat), (mapI f j l).length = l.length
  | [], _ => rfl
  | _ :: r, j => by simp [mapI, mapI_len f r (j + 1)]
theorem scs_snocS {v : Value} {q : Sc} (h : q.Is v) : ∀ {qs : List Sc} {vs : List Value}, ScsAre qs vs → ScsAre (qs ++ [q]) (vs ++ [v]) := fun x => scs_append x ⟨h, trivial⟩

theorem n_ne (b N j : Nat) (h : b < N) : b ≠ N + j := by lia
theorem n_nj (N i j : Nat) (h : i ≠ j) : N + i ≠ N + j := by lia
theorem n_n0 (N i : Nat) (h : i ≠ 0) : N + i ≠ N := by lia
theorem enum_comp {w : World} {hB : Heap} {mg mb : Str → Option Value} (B : Bs w hB mg mb) {k : Nat} {env : Env} (ok : EnvOk env) {scope : Scope} {cl : List (Str × Addr)} {a b : Str} {pa pb tp : Pos} {kk : Nat} {q1 q2 : Pos} {arg : Expr} {pos : Pos} {ρ ρc : Rho} (hc : CompOk env scope cl a ρ ρc)
    (hb : scope.names.lookup b = some .local) (hbd : (b == ("__debug__" : Str)) = false) (hab : ¬ a = b) {elt : Expr} (f : Nat → Sc → Sc) (l : List Sc) (hsz : l.length ≤ 1000) (hgl : isGlob env "enumerate" = true) (hns : notStar arg = true)
    (hiter : EvalSpec w hB p k env arg ρ (fun d => d = .lst l))
    (helt : ∀ (i : Nat) x, l[i]? = some x → ∀ C, EvalSpec w hB true k (compEnvC scope cl C env) elt ((b, .sc x) :: (a, I (i : Int)) :: ρc) (fun d => d = .sc (f i x)))
    (hs : ∀ x, foldedSetIterable (.Call (.Name "enumerate" q1) [arg] [] q2) env x = pure x) {Q : V → Prop} (hQ : Q (.lst (mapI f 0 l))) :
    EvalSpec w hB p k env (.ListComp elt [⟨.Tuple [.Name a pa, .Name b pb] kk tp, .Call (.Name "enumerate" q1) [arg] [] q2, [], 0⟩] scope pos) ρ Q := by
  intro s g fm A r E R hR
  rw [eval_ListComp]
  refine wpAny_comprehension_free (use := none) rfl hs hc.clos hc.kind hc.names ?_
  refine PyProof.Rows.Call_Name (trees := [(false, eval arg env)]) (by rw [starEach_cons hns]; rfl) ?_
  have hgb := bTab_all B ("enumerate", .type "enumerate") (by simp [bTab])
  refine name_global B ok g (by unfold isGlob at hgl; exact hgl) (.inr hgb.1) ?_
  refine callee_with (.inr (.inl ⟨_, rfl⟩)) rfl (Calls.spliced_cons (hiter s g fm A r E _ fun v d h₁ t₁ k1 g1 i1 qv => Calls.spliced_nil ⟨g1.stays, ?_⟩))
  subst qv
  obtain ⟨aL, vs, rfl, hl, hsv⟩ := i1
  have fm1 := fm.keep g k1
  refine call_enumerate_list (s := { s with heap := h₁, toks := t₁ }) hl fun h₂ he hit hz2 hk2 => ?_
  refine wpAny_pyIter_enum (s := { s with heap := h₂, toks := t₁ }) he ?_
  refine wpAny_newObj_type (wpAny_newFunctionEnv hc.cell (by intro y hy; simp at hy) (fun h₃ hns₃ hsb₃ => ?_) hc.kind)
  dsimp only at hns₃ hsb₃ hz2 he hit hk2 ⊢
  have hlen := hsv.length
  have haL : aL < h₁.objs.size := by obtain ⟨o, ho, _⟩ := hl; exact Heap.lt_size ho
  generalize hH2 : h₂.push { cls := .type "list", dict := none, data := .seq ([] : List Value).toArray } = H2 at hns₃ hsb₃ ⊢
  have hC : H2.objs.size = h₁.objs.size + 3 := by rw [← hH2, Heap.size_push, hz2]
  have hD0 : h₃.get? (h₁.objs.size + 2) = some { cls := .type "list", data := .seq ([] : List Value).toArray } := by
    refine (hsb₃.extBut _ _ (by rw [hC]; exact Nat.ne_of_lt (Nat.lt_succ_self _)) (Heap.get?_push_of_some _ ?_))
    rw [← hH2, ← hz2]; exact Heap.get?_push_size _ rfl
  have ka3 : ∀ b o, h₁.get? b = some o → h₃.get? b = some o := fun b o e => hsb₃.extBut b o (Nat.ne_of_lt (Nat.lt_of_lt_of_le (Heap.lt_size e) (by lia))) (Heap.get?_push_of_some _ (hH2 ▸ Heap.get?_push_of_some _ (hk2 b o e)))
  have kb3 : ∀ b o, h₂.get? b = some o → h₃.get? b = some o := fun b o e => hsb₃.extBut b o (Nat.ne_of_lt (Nat.lt_of_lt_of_le (Heap.lt_size e) (by lia))) (Heap.get?_push_of_some _ (hH2 ▸ Heap.get?_push_of_some _ e))
  rw [hC] at hns₃
  rw [hz2, hC]
  have hNlt : ∀ b o, h₁.get? b = some o → b < h₁.objs.size := fun b o e => Heap.lt_size e
  clear hz2 hsb₃ hC hH2
  generalize h₁.objs.size = N at *
  have W := WalksT.enumerate (prog := prg) (w := w) (A := A) r.1 (N + 1) N aL (Nat.succ_ne_self _) (Nat.ne_of_lt (Nat.lt_succ_of_lt haL)) (Nat.ne_of_lt haL) vs.toArray
  have loop : ∀ s₃ : Shared, s₃ = { s with heap := h₃, toks := t₁ + ([] : List (Str × Value)).length } →
      codeAny (model prg w) A (.compLoop (.ListComp elt [⟨.Tuple [.Name a pa, .Name b pb] kk tp, .Call (.Name "enumerate" q1) [arg] [] q2, [], 0⟩] scope pos) 0 (.ref (N + 1)) (.ref (N + 2)) (compEnvC scope cl (N + 3) env))
        (compPost (model prg w) A E none R (.ref (N + 2)) (N + 3)) s₃ := by
    rintro s₃ rfl
    refine kcp_loop (fun n s' => ∃ h t i ys c, s' = { s with heap := h, toks := t } ∧ i ≤ l.length ∧ n = l.length + 1 - i ∧ ((∃ o, IsEnum h (N + 1) N (i : Nat) o) ∧ h.IsListIter N aL i ∧ h.IsList aL vs.toArray) ∧ (∃ m', h.Ns (N + 3) m') ∧
      h.get? (N + 2) = some { cls := .type "list", data := .seq (List.toArray ys) c } ∧ ScsAre (mapI f 0 (l.take i)) ys ∧ (∀ b o, h₁.get? b = some o → h.get? b = some o)) ?_ (l.length + 1)
      ⟨h₃, _, 0, [], 0, rfl, Nat.zero_le _, rfl, ⟨⟨.none, kb3 _ _ he⟩, by obtain ⟨o, e, q⟩ := hit; exact ⟨o, kb3 _ _ e, q⟩, by obtain ⟨o, e, q⟩ := hl; exact ⟨o, ka3 _ _ e, q⟩⟩, ⟨_, hns₃⟩, hD0, by simp [mapI, ScsAre], ka3⟩
    rintro n s' ⟨h, t, i, ys, c, rfl, hi, rfl, hst, ⟨m', hnC⟩, hD, hys, hold⟩
    by_cases hlt : i < l.length
    · refine W.item i _ _ _ (by simpa [hlen] using hlt) hst fun T vals h' tk hv hTn hT hMd hk => ?_
      refine W.go _ _ _ i T _ _ _ hMd fun h'' hst' hk' => ?_
      have hTw := W.apart _ _ _ hMd
      obtain ⟨ti, x, hx, rfl⟩ := hv
      have hkN : ∀ b o, b ≠ N + 1 → b ≠ N → h.get? b = some o → h''.get? b = some o := fun b o e1 e2 e => hk' b o (by simp [e1, e2]) (hk b o (by simp [e1, e2]) e)
      have hT'' : h''.IsTuple T #[.int i ti, x] := by obtain ⟨o, e, q⟩ := hT; exact ⟨o, hk' _ _ hTw e, q⟩
      refine kcp_assign (env := compEnvC scope cl (N + 3) env) (s := { s with heap := h'', toks := tk }) r.1 hT'' (lookup_relabel_local hc.hx) (lookup_relabel_local hb) (by simp [compEnvC, relabel, hc.kind]) (hnC.at' fun o e => hkN _ o (n_nj _ 3 1 (by decide)) (n_n0 _ 3 (by decide)) e) fun h₅ t₅ hn₅ hs₅ => ?_
      have hk5 : ∀ b o, h₁.get? b = some o → h₅.get? b = some o := fun b o e => by
        have := hNlt b o e
        exact hs₅ b o (n_ne _ _ 3 this) (hkN b o (n_ne _ _ 1 this) (n_ne _ _ 0 this) (hold b o e))
      have g5 := g1.keep_all hk5
      have hxv : vs[i]? = some x := by simpa using hx
      have hav : (l[i]'hlt).Is x := by
        obtain ⟨v', hv', hav⟩ := hsv.get (List.getElem?_eq_getElem hlt)
        rw [hv'] at hxv; cases hxv; exact hav
      obtain ⟨m, hnm, hloc⟩ := fm1.m
      have fmc : Fm (compEnvC scope cl (N + 3) env) h₅ ((b, .sc l[i]) :: (a, I (i : Int)) :: ρc) := by
        refine ⟨⟨_, hn₅, ?_⟩, ?_⟩
        · intro y d e
          rw [List.lookup_cons] at e
          by_cases hy : y = b
          · subst hy
            simp only [beq_self_eq_true] at e
            cases e
            refine ⟨x, .inl ⟨?_, by simp⟩, hav⟩
            unfold okName
            simp only [Bool.and_eq_true, beq_iff_eq, Bool.not_eq_true']
            exact ⟨lookup_relabel_local hb, hbd⟩
          · rw [beq_false_of_ne hy, List.lookup_cons] at e
            by_cases hya : y = a
            · subst hya
              simp only [beq_self_eq_true] at e
              cases e
              refine ⟨.int i ti, .inl ⟨?_, by simp [hab]⟩, ⟨_, rfl⟩⟩
              unfold okName
              simp only [Bool.and_eq_true, beq_iff_eq, Bool.not_eq_true']
              exact ⟨lookup_relabel_local hc.hx, hc.hd⟩
            · rw [beq_false_of_ne hya] at e
              obtain ⟨h1, h2, h3, h4⟩ := hc.free y d e
              obtain ⟨vy, hh, hi'⟩ := hloc y d h1
              have hoc := (okCell_is h2).1
              rcases hh with ⟨hh, _⟩ | ⟨_, c, hcc, hic⟩
              · have := (okName_local hh).1
                rw [this] at hoc
                rcases hoc with q | q <;> cases q
              · refine ⟨vy, .inr ⟨h3 _, c, by show cl.lookup y = some c; rw [h4]; exact hcc, hic.keeps hk5⟩, hi'.keep (p := true) g1 (.of_all hk5)⟩
        · intro y c h1 h2
          obtain ⟨q1, q2⟩ := hc.cells _ y c h1 h2
          obtain ⟨vy, hvy⟩ := fm1.cells y c q1 q2
          exact ⟨vy, hvy.keeps hk5⟩
      refine helt i l[i] (List.getElem?_eq_getElem hlt) (N + 3) { s with heap := h₅, toks := t₅ } g5 fmc A r _ _ fun y d h₆ t₆ k6 g6 i6 q6 => ?_
      subst q6
      have k6a : ∀ b o, h₅.get? b = some o → h₆.get? b = some o := fun b o e => k6 b o (.inl rfl) e
      have hD6 := k6a _ _ (hs₅ _ _ (n_nj _ 2 3 (by decide)) (hkN _ _ (n_nj _ 2 1 (by decide)) (n_n0 _ 2 (by decide)) hD))
      have hyl : ys.length = i := by
        have := hys.length
        rw [mapI_len, List.length_take] at this; lia
      refine append_at (s := { s with heap := h₆, toks := t₆ }) hD6 (fun h₇ hs7 hD7 => ?_) (by rw [List.size_toArray, hyl]; exact Nat.le_trans (Nat.le_of_lt hlt) (Nat.le_trans hsz (by decide)))
      have k7 : ∀ b o, b ≠ N + 2 → b ≠ N + 3 → h''.get? b = some o → h₇.get? b = some o := fun b o e1 e2 e => hs7.extBut b o e1 (k6a _ _ (hs₅ b o e2 e))
      refine ⟨l.length + 1 - (i + 1), by lia, h₇, t₆, i + 1, ys ++ [y], c + 1, rfl, hlt, rfl, W.frame _ _ _ hst' fun b hb o e => ?_, ⟨_, (hn₅.keeps k6a).at' fun o e => hs7.extBut _ o (n_nj _ 3 2 (by decide)) e⟩, ?_, ?_, ?_⟩
      · have hbN : b ≠ N + 2 ∧ b ≠ N + 3 := by
          simp only [List.mem_cons, List.mem_nil_iff, or_false] at hb
          rcases hb with rfl | rfl | rfl
          · exact ⟨n_nj _ 1 2 (by decide), n_nj _ 1 3 (by decide)⟩
          · exact ⟨Ne.symm (n_n0 _ 2 (by decide)), Ne.symm (n_n0 _ 3 (by decide))⟩
          · exact ⟨n_ne _ _ 2 haL, n_ne _ _ 3 haL⟩
        exact k7 b o hbN.1 hbN.2 e
      · have : (ys ++ [y]).toArray = ys.toArray.push y := by simp
        rw [this]; exact hD7
      · rw [List.take_succ_eq_append_getElem hlt, mapI_snoc]
        refine scs_snocS ?_ hys
        have : 0 + (l.take i).length = i := by rw [List.length_take]; lia
        rw [this]; exact i6
      · exact fun b o e => by
          have := hNlt b o e
          exact k7 b o (n_ne _ _ 2 this) (n_ne _ _ 3 this) (hkN b o (n_ne _ _ 1 this) (n_ne _ _ 0 this) (hold b o e))
    · have hin : i = l.length := by lia
      subst hin
      refine W.done _ _ _ (by simpa [hlen] using hst) fun h' tk hk => ?_
      have hkN : ∀ b o, b ≠ N + 1 → b ≠ N → h.get? b = some o → h'.get? b = some o := fun b o e1 e2 => hk b o (by simp [e1, e2])
      refine ⟨m', hnC.at' fun o e => hkN _ o (n_nj _ 3 1 (by decide)) (n_n0 _ 3 (by decide)) e, fun h'' hsm => ?_⟩
      have hk2' : ∀ b o, h₁.get? b = some o → h''.get? b = some o := fun b o e => by
        have := hNlt b o e
        exact hsm.extBut b o (n_ne _ _ 3 this) (hkN b o (n_ne _ _ 1 this) (n_ne _ _ 0 this) (hold b o e))
      refine hR (.ref (N + 2)) (.lst (mapI f 0 l)) h'' tk (k1.trans (.of_all hk2')) (g1.keep_all hk2') ⟨N + 2, ys, rfl, ⟨_, hsm.extBut _ _ (n_nj _ 2 3 (by decide)) (hkN _ _ (n_nj _ 2 1 (by decide)) (n_n0 _ 2 (by decide)) hD), rfl, c, rfl⟩, ?_⟩ hQ
      rw [List.take_length] at hys; exact hys
  exact codeAny_compStart_list (loop _ rfl) (wpAny_pyIter_enum (s := { s with heap := h₃, toks := t₁ + ([] : List (Str × Value)).length }) (kb3 _ _ he) (loop _ rfl))
end Mine
end

section -- Ml
open PySem PySem.W PyProof.Rows PySem.Calls
namespace Mine
set_option maxRecDepth 100000
set_option linter.unusedVariables false
set_option linter.unusedSimpArgs false
set_option exponentiation.threshold 5000
variable {p : Bool}

noncomputable abbrev envL (w : World) (L : Nat) : Env := callEnvC (fnAt w 149) L 149
noncomputable def binR : Expr → Expr
  | .BinOp _ _ r _ => r
  | _ => default
noncomputable def callArg : Expr → Expr
  | .Call _ (a :: _) _ _ => a
  | _ => default
section
variable (w : World) (hB : Heap) (k L : Nat) (b : Int) (es ps : List Sc) (Q : V → Prop)
noncomputable abbrev ρl : Rho := [("begin", I b), ("ends", .tup es), ("parts", .lst ps)]
theorem ml0 : wpS w hB p k (envL w L) 20 (bodyAt w 149) (ρl b es ps) (retQ Q) =
    EvalSpec w hB p k (envL w L) (binR (valOf (stAt w 149 0))) (ρl b es ps) (fun d => litB .Add (.lst [.str "a"]) d fun rows => EvalSpec w hB p k (envL w L) (valOf (stAt w 149 1)) (("rows", rows) :: ρl b es ps) Q) := by kernel_rfl
theorem ml_c1 : binR (valOf (stAt w 149 0)) = .ListComp (cElt (binR (valOf (stAt w 149 0)))) [⟨.Name "part" (cTgtPos (binR (valOf (stAt w 149 0)))), cIter (binR (valOf (stAt w 149 0))), [], 0⟩] (cScope (binR (valOf (stAt w 149 0)))) (cPos (binR (valOf (stAt w 149 0)))) := by kernel_rfl
theorem ml_i1 (R : V → Prop) : wpE w hB p k (envL w L) 5 (cIter (binR (valOf (stAt w 149 0)))) (ρl b es ps) R = R (.lst ps) := by kernel_rfl
theorem ml_e1 (C : Addr) (cl : List (Str × Addr)) (i : Int) (R : V → Prop) : wpE w hB p k (compEnvC (cScope (binR (valOf (stAt w 149 0)))) cl C (envL w L)) 6 (cElt (binR (valOf (stAt w 149 0)))) [("part", I i)] R =
    (MulOk "." i ∧ (Txt.mul "." i).length + ("a" : Str).length ≤ 1048576 ∧ R (.sc (.str (Txt.mul "." i ++ "a")))) := by kernel_rfl
theorem ml_join : ∃ kk q1 q2 q3, valOf (stAt w 149 1) = .Call (.Attribute (.Constant (.str "") kk q1) "join" q2) [callArg (valOf (stAt w 149 1))] [] q3 ∧ (q2.endLine == q3.line) = true := ⟨_, _, _, _, rfl, rfl⟩
theorem ml_c2 : ∃ pa pb kk tp q1 q2 q3, callArg (valOf (stAt w 149 1)) = .ListComp (cElt (callArg (valOf (stAt w 149 1)))) [⟨.Tuple [.Name "j" pa, .Name "row" pb] kk tp, .Call (.Name "enumerate" q1) [.Name "rows" q2] [] q3, [], 0⟩] (cScope (callArg (valOf (stAt w 149 1)))) (cPos (callArg (valOf (stAt w 149 1)))) := ⟨_, _, _, _, _, _, _, rfl⟩
theorem ml_e2 (C : Addr) (cl : List (Str × Addr)) (j : Int) (r : Str) (R : V → Prop) : wpE w hB p k (compEnvC (cScope (callArg (valOf (stAt w 149 1)))) cl C (envL w L)) 9 (cElt (callArg (valOf (stAt w 149 1)))) [("row", .sc (.str r)), ("j", I j), ("begin", I b), ("ends", .tup es)] R =
    guardF (decide (1000 < es.length)) ((es.length : Int) ≠ 0 ∧ itemSpec (.tup es) (I ((b + j).fmod es.length)) fun d => litB .Add (.sc (.str r)) d R) := by kernel_rfl
theorem ml_rows (c2 : Pos) (d : V) (ρ : Rho) (R : V → Prop) : wpE w hB p k (envL w L) 3 (.Name "rows" c2) (("rows", d) :: ρ) R = R d := by kernel_rfl
theorem ml_clos : closureFor (cScope (callArg (valOf (stAt w 149 1)))) (envL w L) = (pure ([("ends", L + 1), ("begin", L + 2)] : List (Str × Addr)) : Sem _) := by kernel_rfl
end

noncomputable def rowOf : Sc → Sc
  | .int i => .str (Txt.mul "." i ++ "a")
  | x => x
noncomputable def endAt (es : List Str) (b : Int) (j : Nat) : Str := es.getD ((b + j) % es.length).toNat ""
noncomputable def lineOf (es : List Str) (b : Int) (j : Nat) : Sc → Sc
  | .str r => .str (r ++ endAt es b j)
  | x => x
noncomputable def txtOf : Sc → Str
  | .str r => r
  | _ => ""
/-- what _law_mail writes -/
noncomputable def mailP (xs : List Int) (es : List Str) (b : Int) : Str := Txt.join "" ((mapI (lineOf es b) 0 (.str "a" :: (xs.map Sc.int).map rowOf)).map txtOf)

theorem dot_mulN : ∀ n : Nat, n < 17 → MulOk "." (n : Int) ∧ (Txt.mul "." (n : Int)).length ≤ 100 := by
  unfold MulOk
  decide +kernel
theorem dot_mul {i : Int} (h0 : 0 ≤ i) (h1 : i ≤ 16) : MulOk "." i ∧ (Txt.mul "." i).length ≤ 100 := by
  obtain ⟨n, rfl⟩ := Int.eq_ofNat_of_zero_le h0
  exact dot_mulN n (by lia)
theorem mapI_mem {f : Nat → Sc → Sc} {P : Sc → Prop} : ∀ {l : List Sc} {j : Nat}, (∀ (i : Nat) x, x ∈ l → P (f i x)) → ∀ y ∈ mapI f j l, P y
  | [], _, _, y, hy => by simp [mapI] at hy
  | x :: r, j, h, y, hy => by
    rcases List.mem_cons.mp hy with rfl | hy
    · exact h _ _ (.head _)
    · exact mapI_mem (l := r) (fun i z hz => h i z (.tail _ hz)) y hy
theorem strs_are : ∀ {l : List Sc} {vs : List Value}, ScsAre l vs → (∀ x ∈ l, ∃ r, x = .str r) → ∃ ts : List (Str × Tok), vs = strValues ts ∧ ts.map (·.1) = l.map txtOf
  | [], [], _, _ => ⟨[], rfl, rfl⟩
  | x :: l, v :: vs, ⟨a, b⟩, h => by
    obtain ⟨ts, rfl, h2⟩ := strs_are b fun y hy => h y (.tail _ hy)
    obtain ⟨r, rfl⟩ := h x (.head _)
    obtain ⟨t, rfl⟩ := a
    exact ⟨(r, t) :: ts, rfl, by simp [h2, txtOf]⟩
  | [], _ :: _, x, _ => x.elim
  | _ :: _, [], x, _ => x.elim

theorem ends_at {es : List Str} {b : Int} {j : Nat} (h0 : 0 < es.length) : itemAt (es.map .str) ((b + j).fmod (es.map Sc.str).length) = some (.str (endAt es b j)) := by
  have hp : (0 : Int) < es.length := by lia
  rw [List.length_map, Int.fmod_eq_emod_of_nonneg _ (by lia)]
  have h1 := Int.emod_nonneg (b + j) (show (es.length : Int) ≠ 0 by lia)
  have h2 := Int.emod_lt_of_pos (b + j) hp
  unfold itemAt endAt
  rw [if_pos h1]
  have h3 : ((b + (j : Int)) % (es.length : Int)).toNat < es.length := by lia
  rw [List.getElem?_map, List.getD_eq_getElem?_getD, List.getElem?_eq_getElem h3]
  rfl

theorem mail_call {w : World} {hB : Heap} {mg mb : Str → Option Value} (B : Bs w hB mg mb) {k : Nat} {xs : List Int} {es : List Str} {b : Int} (hx : ∀ x ∈ xs, 0 ≤ x ∧ x ≤ 16) (hxl : xs.length ≤ 100) (h0 : 0 < es.length) (h1 : es.length ≤ 100) (he : ∀ e ∈ es, e.length ≤ 100) {Q : V → Prop} (hQ : Q (.sc (.str (mailP xs es b)))) :
    CallSpec w hB p (k + 1) (.ref 149) [.lst (xs.map .int), .tup (es.map .str), I b] Q := by
  refine call_at B 20 149 ["parts", "ends", "begin"] (by kernel_rfl) (by kernel_rfl) (by kernel_rfl) (by kernel_rfl) rfl (bind3 fun x y z => by kernel_rfl) fun L => ?_
  show wpS w hB p k (envL w L) 20 (bodyAt w 149) (ρl b (es.map .str) (xs.map .int)) (retQ Q)
  have ok : EnvOk (envL w L) := ⟨by kernel_rfl, by kernel_rfl, by kernel_rfl⟩
  rw [ml0, ml_c1]
  refine comp_sound ok (ρc := []) (cl := []) (compOk0 (by kernel_rfl) (by kernel_rfl)) rowOf (xs.map .int) (by simp; lia) ?_ ?_ (fun v => by kernel_rfl) ?_
  · refine (wpE_sound B ok 5).1 _ _ _ ?_
    rw [ml_i1]; exact .inl rfl
  · intro q hq C
    have okc : EnvOk (compEnvC (cScope (binR (valOf (stAt w 149 0)))) [] C (envL w L)) := ⟨by kernel_rfl, by kernel_rfl, by kernel_rfl⟩
    refine (wpE_sound B okc 6).1 _ _ _ ?_
    obtain ⟨i, hi, rfl⟩ := List.mem_map.mp hq
    show wpE _ _ _ _ _ 6 _ [("part", I i)] _
    rw [ml_e1]
    obtain ⟨d1, d2⟩ := dot_mul (hx i hi).1 (hx i hi).2
    exact ⟨d1, Nat.le_trans (Nat.add_le_add d2 (show ("a" : Str).length ≤ 1 by decide)) (by decide), rfl⟩
  · refine guardF_in (by simp; lia) ?_
    show EvalSpec w hB p k (envL w L) (valOf (stAt w 149 1)) (("rows", .lst (.str "a" :: (xs.map Sc.int).map rowOf)) :: ρl b (es.map .str) (xs.map .int)) Q
    have hrows : ∀ x ∈ (Sc.str "a" :: (xs.map Sc.int).map rowOf), ∃ r : Str, x = .str r ∧ r.length ≤ 200 := by
      intro x hxm
      rcases List.mem_cons.mp hxm with rfl | hxm
      · exact ⟨_, rfl, by decide⟩
      · obtain ⟨y, hy, rfl⟩ := List.mem_map.mp hxm
        obtain ⟨i, hi, rfl⟩ := List.mem_map.mp hy
        obtain ⟨d1, d2⟩ := dot_mul (hx i hi).1 (hx i hi).2
        refine ⟨_, rfl, ?_⟩
        rw [Str.length_append]
        exact Nat.le_trans (Nat.add_le_add d2 (show ("a" : Str).length ≤ 1 by decide)) (by decide)
    generalize hrw : (Sc.str "a" :: (xs.map Sc.int).map rowOf) = rows at hrows
    have hrl : rows.length ≤ 101 := by rw [← hrw]; simp; lia
    obtain ⟨kk, q1, q2, q3, hj, hline⟩ := ml_join w
    obtain ⟨pa, pb, kk2, tp, c1, c2, c3, hcm⟩ := ml_c2 w
    intro s g fm A r E R hR
    rw [hj]
    refine Call_method1 (by kernel_rfl) (by rfl) hline ?_
    refine wpAny_Constant_str ?_
    refine SB.join ?_
    have hcomp : EvalSpec w hB p k (envL w L) (callArg (valOf (stAt w 149 1))) (("rows", .lst rows) :: ρl b (es.map .str) (xs.map .int)) (fun d => d = .lst (mapI (lineOf es b) 0 rows)) := by
      rw [hcm]
      refine enum_comp B ok (a := "j") (b := "row") (ρc := [("begin", I b), ("ends", .tup (es.map .str))]) (cl := [("ends", L + 1), ("begin", L + 2)]) (compOk_of (ml_clos w L) (by kernel_rfl) ?_ ?_) (by kernel_rfl) (by kernel_rfl) (by decide) (lineOf es b) rows (by lia) (by kernel_rfl) rfl ?_ ?_ (fun v => by kernel_rfl) rfl
      · intro y d e
        simp only [List.lookup_cons, List.lookup_nil] at e
        by_cases q : (y == ("begin" : Str)) = true
        · have := eq_of_beq q
          subst this
          simp only [beq_self_eq_true] at e
          cases e
          exact ⟨by kernel_rfl, by kernel_rfl, fun C => by kernel_rfl, by kernel_rfl⟩
        · rw [Bool.not_eq_true] at q
          rw [q] at e
          by_cases q' : (y == ("ends" : Str)) = true
          · have := eq_of_beq q'
            subst this
            simp only [beq_self_eq_true] at e
            cases e
            exact ⟨by kernel_rfl, by kernel_rfl, fun C => by kernel_rfl, by kernel_rfl⟩
          · rw [Bool.not_eq_true] at q'
            rw [q'] at e
            cases e
      · intro C y c h1 h2
        simp only [List.lookup_cons, List.lookup_nil] at h2
        by_cases q : (y == ("ends" : Str)) = true
        · have := eq_of_beq q
          subst this
          simp only [beq_self_eq_true] at h2
          cases h2
          exact ⟨by kernel_rfl, by kernel_rfl⟩
        · rw [Bool.not_eq_true] at q
          rw [q] at h2
          by_cases q' : (y == ("begin" : Str)) = true
          · have := eq_of_beq q'
            subst this
            simp only [beq_self_eq_true] at h2
            cases h2
            exact ⟨by kernel_rfl, by kernel_rfl⟩
          · rw [Bool.not_eq_true] at q'
            rw [q'] at h2
            cases h2
      · refine (wpE_sound B ok 3).1 _ _ _ ?_
        rw [ml_rows]
      · intro j x hjx C
        have okc : EnvOk (compEnvC (cScope (callArg (valOf (stAt w 149 1)))) [("ends", L + 1), ("begin", L + 2)] C (envL w L)) := ⟨by kernel_rfl, by kernel_rfl, by kernel_rfl⟩
        refine (wpE_sound B okc 9).1 _ _ _ ?_
        obtain ⟨r, rfl, hr⟩ := hrows x (List.mem_of_getElem? hjx)
        show wpE _ _ _ _ _ 9 _ [("row", .sc (.str r)), ("j", I (j : Int)), ("begin", I b), ("ends", .tup (es.map .str))] _
        rw [ml_e2]
        refine guardF_in (by simp; lia) ⟨by rw [List.length_map]; lia, ?_⟩
        unfold itemSpec
        dsimp only
        rw [ends_at h0]
        refine guardF_in (by simp; lia) ?_
        have hel : (endAt es b j).length ≤ 100 := by
          unfold endAt
          rw [List.getD_eq_getElem?_getD]
          cases hg : es[((b + (j : Int)) % (es.length : Int)).toNat]? with
          | none => exact Nat.zero_le _
          | some e => exact he e (List.mem_of_getElem? hg)
        exact ⟨Nat.le_trans (Nat.add_le_add hr hel) (by decide), rfl⟩
    refine hcomp { s with toks := s.toks + 1 } g fm A r E _ fun v d h₁ t₁ k1 g1 i1 e1 => ?_
    subst e1
    obtain ⟨D, vs, rfl, hl, hs⟩ := i1
    obtain ⟨ts, rfl, hts⟩ := strs_are hs (mapI_mem fun i x hx' => by
      obtain ⟨r, rfl, _⟩ := hrows x hx'
      exact ⟨_, rfl⟩)
    refine ⟨D, ts, rfl, hl, _, hts, ?_, fun t' tk => ?_⟩
    · unfold JoinOk
      rw [Bool.not_eq_true']
      refine StrLaws.joinFits (B := 300) ?_ ?_
      · intro y hy
        obtain ⟨z, hz, rfl⟩ := List.mem_map.mp hy
        refine mapI_mem (P := fun z => (txtOf z).length ≤ 300) (fun i x hx' => ?_) z hz
        obtain ⟨r, rfl, hr⟩ := hrows x hx'
        show (r ++ endAt es b i).length ≤ 300
        have hel : (endAt es b i).length ≤ 100 := by
          unfold endAt
          rw [List.getD_eq_getElem?_getD]
          cases hg : es[((b + (i : Int)) % (es.length : Int)).toNat]? with
          | none => exact Nat.zero_le _
          | some e => exact he e (List.mem_of_getElem? hg)
        rw [Str.length_append]
        exact Nat.add_le_add hr hel
      · rw [List.length_map, mapI_len]
        have : ("" : Str).length = 0 := rfl
        rw [this]; lia
    · refine hR _ (.sc (.str (mailP xs es b))) h₁ tk k1 g1 ⟨t', ?_⟩ hQ
      unfold mailP
      rw [hrw]
end Mine
end

section -- Sr
open PySem PySem.Sre
namespace Mine
set_option maxRecDepth 100000
set_option linter.unusedVariables false
set_option linter.unusedSimpArgs false

noncomputable def stepN : Nat → M → M
  | 0, m => m
  | n + 1, m => stepN n m.step
theorem stepN_add (a b : Nat) (m : M) : stepN (a + b) m = stepN b (stepN a m) := by
  induction a generalizing m with
  | zero => rw [Nat.zero_add]; rfl
  | succ a ih => rw [Nat.succ_add]; exact ih _
theorem step_done {m : M} (h : m.outcome.isSome = true) : m.step = m := by unfold M.step; rw [if_pos h]
theorem stepN_done {m : M} (h : m.outcome.isSome = true) : ∀ n, stepN n m = m
  | 0 => rfl
  | n + 1 => by show stepN n m.step = m; rw [step_done h]; exact stepN_done h n
theorem runFor_stepN : ∀ (n : Nat) (m : M), M.runFor n m = stepN n m
  | 0, _ => rfl
  | n + 1, m => by
    unfold M.runFor
    by_cases h : m.outcome.isSome = true
    · rw [if_pos h, stepN_done h]
    · rw [if_neg h]; exact runFor_stepN n _

/-- the machine ends, within n steps, in a state that is so -/
noncomputable def Ends (n : Nat) (m : M) (P : M → Prop) : Prop := ∃ j, j ≤ n ∧ (stepN j m).outcome.isSome = true ∧ P (stepN j m)
theorem Ends.step {n j : Nat} {m m' : M} {P : M → Prop} (e : stepN j m = m') (h : Ends n m' P) : Ends (j + n) m P := by
  obtain ⟨i, h1, h2, h3⟩ := h
  refine ⟨j + i, by lia, ?_, ?_⟩ <;> rw [stepN_add, e] <;> assumption

/-! the pattern of dots: a dot where a row begins -/
noncomputable def code1 : Array Nat := #[14, 4, 0, 1, 1, 6, 1, 16, 46, 1]
/-- about to try place s -/
noncomputable def at1 (text : Array Nat) (s : Nat) (first : Bool) (last : Nat) (seen : Seen) : M :=
  { code := code1, text, lim := text.size, start := s, lastStart := last, pc := 5, pos := s, handed := s, outermost := first, marks := #[], frames := [{ wait := .nextStart, pc := 5, pos := s, outermost := first }], weight := 1, seen }
noncomputable def dotAt (text : Array Nat) (s : Nat) : Bool := decide (s < text.size) && (s == 0 || text.getD (s - 1) 0 == 10) && text.getD s 0 == 46

section
variable (text : Array Nat) (s last : Nat) (first : Bool) (seen : Seen)
theorem one_a : (at1 text s first last seen).step = (if (s == 0 || text.getD (s - 1) 0 == 10) = true then { at1 text s first last ((seen.add 6).add 44) with pc := 7 } else ({ at1 text s first last ((seen.add 6).add 44) with answer := some false })) := by kernel_rfl
theorem one_b : ({ at1 text s first last seen with pc := 7 } : M).step = (if s ≥ text.size then { at1 text s first last (seen.add 16) with pc := 7, answer := some false } else
    cond (text.getD s 0 == 46) { at1 text s first last (seen.add 16) with pc := 9, pos := s + 1 } { at1 text s first last (seen.add 16) with pc := 7, answer := some false }) := by kernel_rfl
theorem one_c : ({ at1 text s first last seen with pc := 9, pos := s + 1 } : M).step = cond (first && false) { at1 text s first last (seen.add 1) with pc := 9, pos := s + 1, answer := some false } { at1 text s first last (seen.add 1) with pc := 9, pos := s + 1, handed := s + 1, answer := some true } := by
  cases first <;> kernel_rfl
theorem one_d : ({ at1 text s first last seen with pc := 9, pos := s + 1, handed := s + 1, answer := some true } : M).step.step = { at1 text s first last seen with handed := s + 1, frames := [], weight := 0, answer := some true, outcome := some .matched } := by kernel_rfl
theorem one_e (pc : Nat) : ({ at1 text s first last seen with pc := pc, answer := some false } : M).step = (if s < last then at1 text (s + 1) false last seen else { at1 text s first last seen with frames := [], weight := 0, answer := some false }) := by kernel_rfl
theorem one_f : ({ at1 text s first last seen with frames := [], weight := 0, answer := some false } : M).step = { at1 text s first last seen with frames := [], weight := 0, answer := some false, outcome := some .failed } := by kernel_rfl
end
noncomputable def find1 (text : Array Nat) : Nat → Nat → Option Nat
  | 0, s => if dotAt text s then some s else none
  | f + 1, s => if dotAt text s then some s else find1 text f (s + 1)
noncomputable def Found (r : Option (Nat × Nat)) (m : M) : Prop := match r with
  | some (b, e) => m.outcome = some .matched ∧ m.start = b ∧ m.handed = e
  | none => m.outcome = some .failed

theorem one_fails {text : Array Nat} {s : Nat} (h : dotAt text s = false) (last : Nat) (first : Bool) (seen : Seen) : ∃ j pc seen', j ≤ 2 ∧ stepN j (at1 text s first last seen) = { at1 text s first last seen' with pc := pc, answer := some false } := by
  by_cases h1 : (s == 0 || text.getD (s - 1) 0 == 10) = true
  · refine ⟨2, 7, (((seen.add 6).add 44).add 16), by decide, ?_⟩
    show (at1 text s first last seen).step.step = _
    rw [one_a, if_pos h1, one_b]
    by_cases h2 : s ≥ text.size
    · rw [if_pos h2]
    · rw [if_neg h2]
      have : (text.getD s 0 == 46) = false := by
        unfold dotAt at h
        rw [h1] at h
        have hd : decide (s < text.size) = true := by simp; lia
        rw [hd] at h
        simpa using h
      rw [this]; rfl
  · refine ⟨1, 5, ((seen.add 6).add 44), by decide, ?_⟩
    show (at1 text s first last seen).step = _
    rw [one_a, if_neg h1]
    rfl
theorem one_hits {text : Array Nat} {s : Nat} (h : dotAt text s = true) (last : Nat) (first : Bool) (seen : Seen) : Ends 5 (at1 text s first last seen) (Found (some (s, s + 1))) := by
  unfold dotAt at h
  simp only [Bool.and_eq_true, decide_eq_true_eq] at h
  have e : stepN 5 (at1 text s first last seen) = { at1 text s first last ((((seen.add 6).add 44).add 16).add 1) with handed := s + 1, frames := [], weight := 0, answer := some true, outcome := some .matched } := by
    show (at1 text s first last seen).step.step.step.step.step = _
    rw [one_a, if_pos h.1.2, one_b, if_neg (by lia), h.2]
    show M.step (M.step (M.step { at1 text s first last (((seen.add 6).add 44).add 16) with pc := 9, pos := s + 1 })) = _
    rw [one_c, Bool.and_false]
    exact one_d ..
  refine ⟨5, Nat.le_refl _, ?_, ?_⟩
  · rw [e]; rfl
  · rw [e]; exact ⟨rfl, rfl, rfl⟩
theorem search1 (text : Array Nat) : ∀ (n s : Nat) (first : Bool) (seen : Seen), s + n = text.size → Ends (5 * (n + 1)) (at1 text s first text.size seen) (Found ((find1 text n s).map fun b => (b, b + 1)))
  | 0, s, first, seen, hn => by
    unfold find1
    cases h : dotAt text s with
    | true => exact one_hits h _ _ _
    | false =>
      obtain ⟨j, pc, seen', hj, e⟩ := one_fails h text.size first seen
      have e2 : stepN (j + 2) (at1 text s first text.size seen) = { at1 text s first text.size seen' with frames := [], weight := 0, answer := some false, outcome := some .failed } := by
        rw [stepN_add, e]
        show M.step (M.step { at1 text s first text.size seen' with pc := pc, answer := some false }) = _
        rw [one_e, if_neg (by lia), one_f]
      refine ⟨j + 2, by lia, ?_, ?_⟩
      · rw [e2]; rfl
      · rw [e2]; rfl
  | n + 1, s, first, seen, hn => by
    unfold find1
    cases h : dotAt text s with
    | true =>
      obtain ⟨j, h1, h2⟩ := one_hits h text.size first seen
      exact ⟨j, by lia, h2⟩
    | false =>
      obtain ⟨j, pc, seen', hj, e⟩ := one_fails h text.size first seen
      have e2 : stepN (j + 1) (at1 text s first text.size seen) = at1 text (s + 1) false text.size seen' := by
        rw [stepN_add, e]
        show M.step { at1 text s first text.size seen' with pc := pc, answer := some false } = _
        rw [one_e, if_pos (by lia)]
      obtain ⟨i, h1, h2⟩ := Ends.step e2 (search1 text n (s + 1) false seen' (by lia))
      exact ⟨i, by lia, h2⟩
theorem start1 (text : Array Nat) (s : Nat) : Sre.forSearch code1 text 0 s text.size false = (if (decide (s > text.size) || decide (text.size - s < 1)) = true then { at1 text s true 0 (({} : Seen).add 14) with frames := [], weight := 0, answer := some false } else at1 text s true text.size (({} : Seen).add 14)) := by kernel_rfl
end Mine
end

section -- Sr2
open PySem PySem.Sre
namespace Mine
set_option maxRecDepth 100000
set_option linter.unusedVariables false
set_option linter.unusedSimpArgs false

/-! the pattern of row ends -/
noncomputable def code2 : Array Nat := #[14, 9, 4, 1, 2, 16, 10, 16, 13, 0, 7, 7, 16, 13, 16, 10, 15, 18, 5, 16, 10, 15, 13, 11, 16, 13, 5, 5, 0, 16, 10, 1, 15, 2, 0, 1]
noncomputable def fN (s : Nat) (first : Bool) : Sre.Frame := { wait := .nextStart, pc := 10, pos := s, outermost := first }
noncomputable def fB (s alt : Nat) (first : Bool) : Sre.Frame := { wait := .nextBranch, pc := alt, pos := s, outermost := first }
noncomputable def fL (pos : Nat) (first : Bool) : Sre.Frame := { wait := .lookNot, pc := 26, pos := pos, outermost := first }
noncomputable def m2 (text : Array Nat) (s : Nat) (seen : Seen) (pc pos handed : Nat) (out : Bool) (fs : List Sre.Frame) (wt : Nat) (ans : Option Bool) : M :=
  { code := code2, text, lim := text.size, start := s, lastStart := text.size, pc, pos, handed, outermost := out, marks := #[], frames := fs, weight := wt, answer := ans, seen }
section
variable (text : Array Nat) (s pos handed : Nat) (seen : Seen) (first out : Bool) (fs : List Sre.Frame) (wt : Nat)
theorem two_br : (m2 text s seen 10 s s first [fN s first] 1 none).step = m2 text s (seen.add 7) 12 s s first [fB s 11 first, fN s first] 2 none := by kernel_rfl
theorem two_l12 : (m2 text s seen 12 pos handed out fs wt none).step = (if pos ≥ text.size then m2 text s (seen.add 16) 12 pos handed out fs wt (some false) else
    cond (text.getD pos 0 == 13) (m2 text s (seen.add 16) 14 (pos + 1) handed out fs wt none) (m2 text s (seen.add 16) 12 pos handed out fs wt (some false))) := by kernel_rfl
theorem two_l14 : (m2 text s seen 14 pos handed out fs wt none).step = (if pos ≥ text.size then m2 text s (seen.add 16) 14 pos handed out fs wt (some false) else
    cond (text.getD pos 0 == 10) (m2 text s (seen.add 16) 16 (pos + 1) handed out fs wt none) (m2 text s (seen.add 16) 14 pos handed out fs wt (some false))) := by kernel_rfl
theorem two_l19 : (m2 text s seen 19 pos handed out fs wt none).step = (if pos ≥ text.size then m2 text s (seen.add 16) 19 pos handed out fs wt (some false) else
    cond (text.getD pos 0 == 10) (m2 text s (seen.add 16) 21 (pos + 1) handed out fs wt none) (m2 text s (seen.add 16) 19 pos handed out fs wt (some false))) := by kernel_rfl
theorem two_l24 : (m2 text s seen 24 pos handed out fs wt none).step = (if pos ≥ text.size then m2 text s (seen.add 16) 24 pos handed out fs wt (some false) else
    cond (text.getD pos 0 == 13) (m2 text s (seen.add 16) 26 (pos + 1) handed out fs wt none) (m2 text s (seen.add 16) 24 pos handed out fs wt (some false))) := by kernel_rfl
theorem two_l29 : (m2 text s seen 29 pos handed out fs wt none).step = (if pos ≥ text.size then m2 text s (seen.add 16) 29 pos handed out fs wt (some false) else
    cond (text.getD pos 0 == 10) (m2 text s (seen.add 16) 31 (pos + 1) handed out fs wt none) (m2 text s (seen.add 16) 29 pos handed out fs wt (some false))) := by kernel_rfl
theorem two_j16 : (m2 text s seen 16 pos handed out fs wt none).step = m2 text s (seen.add 15) 35 pos handed out fs wt none := by kernel_rfl
theorem two_j21 : (m2 text s seen 21 pos handed out fs wt none).step = m2 text s (seen.add 15) 35 pos handed out fs wt none := by kernel_rfl
theorem two_j32 : (m2 text s seen 32 pos handed out fs wt none).step = m2 text s (seen.add 15) 35 pos handed out fs wt none := by kernel_rfl
theorem two_ok : (m2 text s seen 35 pos handed out fs wt none).step = m2 text s (seen.add 1) 35 pos pos out fs wt (some true) := by cases out <;> kernel_rfl
theorem two_alt1 (pc : Nat) : (m2 text s seen pc pos handed out [fB s 11 first, fN s first] 2 (some false)).step = m2 text s seen 19 s s first [fB s 18 first, fN s first] 2 none := by kernel_rfl
theorem two_alt2 (pc : Nat) : (m2 text s seen pc pos handed out [fB s 18 first, fN s first] 2 (some false)).step = m2 text s seen 24 s s first [fB s 23 first, fN s first] 2 none := by kernel_rfl
theorem two_not : (m2 text s seen 26 pos handed out [fB s 23 first, fN s first] 2 none).step = m2 text s (seen.add 5) 29 pos pos false [fL pos out, fB s 23 first, fN s first] 3 none := by kernel_rfl
theorem two_back (pc p' : Nat) : (m2 text s seen pc p' handed false [fL pos out, fB s 23 first, fN s first] 3 (some false)).step = m2 text s seen 32 pos handed out [fB s 23 first, fN s first] 2 none := by kernel_rfl
theorem two_end (pc alt : Nat) : (m2 text s seen pc pos handed out [fB s alt first, fN s first] 2 (some true)).step.step.step = { m2 text s seen 10 s handed first [] 0 (some true) with outcome := some .matched } := by kernel_rfl
end
/-- the length of the row end at s -/
noncomputable def endLen (text : Array Nat) (s : Nat) : Nat := if (text.getD s 0 == 13 && (decide (s + 1 < text.size) && text.getD (s + 1) 0 == 10)) = true then 2 else 1
noncomputable def brkAt (text : Array Nat) (s : Nat) : Bool := text.getD s 0 == 10 || text.getD s 0 == 13

theorem two_hits {text : Array Nat} {s : Nat} (hs : s < text.size) (h : brkAt text s = true) (first : Bool) (seen : Seen) : Ends 15 (m2 text s seen 10 s s first [fN s first] 1 none) (Found (some (s, s + endLen text s))) := by
  have fin : ∀ {j : Nat} {sn : Seen} {hd : Nat}, j ≤ 15 → hd = s + endLen text s → stepN j (m2 text s seen 10 s s first [fN s first] 1 none) = { m2 text s sn 10 s hd first [] 0 (some true) with outcome := some .matched } → Ends 15 (m2 text s seen 10 s s first [fN s first] 1 none) (Found (some (s, s + endLen text s))) := by
    intro j sn hd hj hh e
    subst hh
    exact ⟨j, hj, by rw [e]; rfl, by rw [e]; exact ⟨rfl, rfl, rfl⟩⟩
  unfold brkAt at h
  by_cases h13 : (text.getD s 0 == 13) = true
  · have h10 : (text.getD s 0 == 10) = false := by rw [eq_of_beq h13]; rfl
    by_cases hn : (decide (s + 1 < text.size) && text.getD (s + 1) 0 == 10) = true
    · have he : endLen text s = 2 := by unfold endLen; rw [h13, hn]; rfl
      simp only [Bool.and_eq_true, decide_eq_true_eq] at hn
      refine fin (j := 8) (hd := s + 1 + 1) (sn := ((((((seen.add 7).add 16).add 16).add 15).add 1))) (by decide) (by rw [he]) ?_
      show (m2 text s seen 10 s s first [fN s first] 1 none).step.step.step.step.step.step.step.step = _
      rw [two_br, two_l12, if_neg (by lia), h13]
      simp only [cond_true]
      rw [two_l14, if_neg (by lia), hn.2]
      simp only [cond_true]
      rw [two_j16, two_ok, two_end]
    · have he : endLen text s = 1 := by unfold endLen; rw [h13, Bool.true_and, if_neg hn]
      have hl : ∀ (sn : Seen) (pc : Nat) (X : M), X = (if s + 1 ≥ text.size then m2 text s sn pc (s + 1) s first [fB s 11 first, fN s first] 2 (some false) else cond (text.getD (s + 1) 0 == 10) (m2 text s sn 16 (s + 1 + 1) s first [fB s 11 first, fN s first] 2 none) (m2 text s sn pc (s + 1) s first [fB s 11 first, fN s first] 2 (some false))) → X = m2 text s sn pc (s + 1) s first [fB s 11 first, fN s first] 2 (some false) := by
        intro sn pc X e
        rw [e]
        by_cases hq : s + 1 ≥ text.size
        · rw [if_pos hq]
        · rw [if_neg hq]
          have : (text.getD (s + 1) 0 == 10) = false := by
            have hd : decide (s + 1 < text.size) = true := by simp; lia
            rw [hd, Bool.true_and] at hn
            simpa using hn
          rw [this]; rfl
      have hl2 : ∀ (sn : Seen) (fs : List Sre.Frame) (X : M), X = (if s + 1 ≥ text.size then m2 text s sn 29 (s + 1) (s + 1) false fs 3 (some false) else cond (text.getD (s + 1) 0 == 10) (m2 text s sn 31 (s + 1 + 1) (s + 1) false fs 3 none) (m2 text s sn 29 (s + 1) (s + 1) false fs 3 (some false))) → X = m2 text s sn 29 (s + 1) (s + 1) false fs 3 (some false) := by
        intro sn fs X e
        rw [e]
        by_cases hq : s + 1 ≥ text.size
        · rw [if_pos hq]
        · rw [if_neg hq]
          have : (text.getD (s + 1) 0 == 10) = false := by
            have hd : decide (s + 1 < text.size) = true := by simp; lia
            rw [hd, Bool.true_and] at hn
            simpa using hn
          rw [this]; rfl
      refine fin (j := 15) (hd := s + 1) (sn := ((((((((seen.add 7).add 16).add 16).add 16).add 16).add 5).add 16).add 15).add 1) (by decide) (by rw [he]) ?_
      show (m2 text s seen 10 s s first [fN s first] 1 none).step.step.step.step.step.step.step.step.step.step.step.step.step.step.step = _
      rw [two_br, two_l12, if_neg (by lia), h13]
      simp only [cond_true]
      rw [hl _ _ _ (two_l14 ..), two_alt1, two_l19, if_neg (by lia), h10]
      simp only [cond_false]
      rw [two_alt2, two_l24, if_neg (by lia), h13]
      simp only [cond_true]
      rw [two_not, hl2 _ _ _ (two_l29 ..), two_back, two_j32, two_ok, two_end]
  · have h10 : (text.getD s 0 == 10) = true := by
      rw [Bool.not_eq_true] at h13
      rw [h13, Bool.or_false] at h; exact h
    have he : endLen text s = 1 := by unfold endLen; rw [Bool.not_eq_true] at h13; rw [h13]; rfl
    rw [Bool.not_eq_true] at h13
    refine fin (j := 9) (hd := s + 1) (sn := (((((seen.add 7).add 16).add 16).add 15).add 1)) (by decide) (by rw [he]) ?_
    show (m2 text s seen 10 s s first [fN s first] 1 none).step.step.step.step.step.step.step.step.step = _
    rw [two_br, two_l12, if_neg (by lia), h13]
    simp only [cond_false]
    rw [two_alt1, two_l19, if_neg (by lia), h10]
    simp only [cond_true]
    rw [two_j21, two_ok, two_end]

noncomputable def find2 (text : Array Nat) : Nat → Nat → Option Nat
  | 0, _ => none
  | f + 1, s => if s ≥ text.size then none else if brkAt text s then some s else find2 text f (s + 1)
theorem in_set (c : Nat) (seen : Seen) : inSet code2 c code2.size 5 true seen = (if (c == 10) = true then .ok (true, seen.add 16) else if (c == 13) = true then .ok (true, (seen.add 16).add 16) else .ok (false, ((seen.add 16).add 16).add 0)) := by kernel_rfl
theorem admit2 {m : M} {text : Array Nat} (h1 : m.code = code2) (h2 : m.text = text) (h3 : m.lim = text.size) : ∀ (f s : Nat) (seen : Seen), ∃ seen', M.admitted m f s seen = .ok (find2 text f s, seen')
  | 0, s, seen => ⟨seen, rfl⟩
  | f + 1, s, seen => by
    unfold M.admitted find2
    rw [h1, h2, h3]
    by_cases hs : s ≥ text.size
    · rw [if_pos hs, if_pos hs]; exact ⟨_, rfl⟩
    · rw [if_neg hs, if_neg hs, in_set]
      unfold brkAt
      by_cases c10 : (text.getD s 0 == 10) = true
      · rw [if_pos c10, c10]; exact ⟨_, rfl⟩
      · rw [if_neg c10]
        rw [Bool.not_eq_true] at c10
        rw [c10, Bool.false_or]
        by_cases c13 : (text.getD s 0 == 13) = true
        · rw [if_pos c13, c13]; exact ⟨_, rfl⟩
        · rw [if_neg c13]
          rw [Bool.not_eq_true] at c13
          rw [c13]
          exact admit2 h1 h2 h3 f (s + 1) _
theorem find2_is {text : Array Nat} : ∀ {f s b : Nat}, find2 text f s = some b → b < text.size ∧ brkAt text b = true ∧ s ≤ b
  | 0, _, _, h => by cases h
  | f + 1, s, b, h => by
    unfold find2 at h
    by_cases hs : s ≥ text.size
    · rw [if_pos hs] at h; cases h
    · rw [if_neg hs] at h
      cases hb : brkAt text s with
      | true => rw [hb] at h; cases h; exact ⟨by lia, hb, Nat.le_refl _⟩
      | false =>
        rw [hb] at h
        obtain ⟨a, c, d⟩ := find2_is (f := f) h
        exact ⟨a, c, by lia⟩
theorem start2 (text : Array Nat) (s : Nat) : Sre.forSearch code2 text 0 s text.size false = (if (decide (s > text.size) || decide (text.size - s < 1)) = true then { m2 text s (({} : Seen).add 14) 10 s s true [] 0 (some false) with lastStart := 0 } else M.attemptFrom (m2 text s (({} : Seen).add 14) 10 s s true [] 0 none) s true) := by kernel_rfl
theorem from2 (text : Array Nat) (s : Nat) (seen : Seen) : M.attemptFrom (m2 text s seen 10 s s true [] 0 none) s true = (match M.admitted (m2 text s seen 10 s s true [] 0 none) (text.size + 1 - s) s seen with
    | .ok (some b, seen) => m2 text b seen 10 b b true [fN b true] 1 none
    | .ok (none, seen) => m2 text s seen 10 s s true [] 0 (some false)
    | .error why => (m2 text s seen 10 s s true [] 0 none).stick why) := by kernel_rfl

/-- what a search of the row ends finds -/
noncomputable def next2 (text : Array Nat) (s : Nat) : Option (Nat × Nat) := if s < text.size then (find2 text (text.size + 1 - s) s).map fun b => (b, b + endLen text b) else none
theorem fail2 (text : Array Nat) (s last : Nat) (seen : Seen) : Ends 1 { m2 text s seen 10 s s true [] 0 (some false) with lastStart := last } (Found none) := ⟨1, Nat.le_refl _, rfl, rfl⟩
theorem search2 (text : Array Nat) (s : Nat) : Ends 20 (Sre.forSearch code2 text 0 s text.size false) (Found (next2 text s)) := by
  rw [start2]
  unfold next2
  by_cases hs : s < text.size
  · rw [if_pos hs, if_neg (by simp; lia), from2]
    obtain ⟨seen', e⟩ := admit2 (m := m2 text s (({} : Seen).add 14) 10 s s true [] 0 none) (text := text) rfl rfl rfl (text.size + 1 - s) s (({} : Seen).add 14)
    rw [e]
    cases hf : find2 text (text.size + 1 - s) s with
    | none =>
      obtain ⟨j, h1, h2⟩ := fail2 text s text.size seen'
      exact ⟨j, by lia, h2⟩
    | some b =>
      obtain ⟨q1, q2, _⟩ := find2_is hf
      obtain ⟨j, h1, h2⟩ := two_hits q1 q2 true seen'
      exact ⟨j, by lia, h2⟩
  · rw [if_neg hs, if_pos (by simp; lia)]
    obtain ⟨j, h1, h2⟩ := fail2 text s 0 (({} : Seen).add 14)
    exact ⟨j, by lia, h2⟩
/-- what a search of the dots finds -/
noncomputable def next1 (text : Array Nat) (s : Nat) : Option (Nat × Nat) := if s < text.size then (find1 text (text.size - s) s).map fun b => (b, b + 1) else none
theorem search_1 (text : Array Nat) (s : Nat) : Ends (5 * (text.size + 1) + 20) (Sre.forSearch code1 text 0 s text.size false) (Found (next1 text s)) := by
  rw [start1]
  unfold next1
  by_cases hs : s < text.size
  · rw [if_pos hs, if_neg (by simp; lia)]
    obtain ⟨j, h1, h2⟩ := search1 text (text.size - s) s true (({} : Seen).add 14) (by lia)
    exact ⟨j, by lia, h2⟩
  · rw [if_neg hs, if_pos (by simp; lia)]
    exact ⟨1, by lia, rfl, rfl⟩
end Mine
end

section -- Qf
open PySem PySem.W PyProof.Rows PySem.Calls PySem.F
namespace Mine
set_option maxRecDepth 100000

theorem slot_re_sub : Slot "re.Pattern" "sub" "re.Pattern.sub" :=
  .of (owner := "re.Pattern") (n := "sub") (by rw [typeLookup_type, builtinLookup_eq_fast]; kernel_rfl) (by decide +kernel) (by decide +kernel) (by decide +kernel)
    (by first | exact .inl (by decide +kernel) | exact .inr (by decide +kernel)) (by rw [isSubtype_type]; kernel_rfl)
theorem type_re_sub : typeOf (.builtin "re.Pattern.sub") = pure (.type "method_descriptor") := by show builtinType _ = _; rw [builtinType_eq_fast]; kernel_rfl
theorem entry_re_sub : entryFor table "re.Pattern.sub" = some Builtin.«re.Pattern.sub» := entryFor_of_fast (by kernel_rfl)
theorem entry_re_loop : entryFor table "re.Pattern.sub.loop" = some Builtin.«re.Pattern.sub.loop» := entryFor_of_fast (by kernel_rfl)
theorem plain_re_loop : plainId "re.Pattern.sub.loop" = true := by decide +kernel
theorem args_re_sub (a b c : Value) : argsOk "re.Pattern.sub" ⟨[a, b, c], []⟩ := by unfold argsOk; kernel_rfl

theorem plainAttrs_re : PlainAttrs "re.Pattern" :=
  ⟨⟨"object.__getattribute__", by rw [typeLookup_type, builtinLookup_eq_fast]; kernel_rfl, by decide +kernel⟩, by rw [typeLookup_type, builtinLookup_eq_fast]; kernel_rfl⟩
noncomputable def fsAt (w : World) (a : Addr) : Array Value := match (obAt w a).data with
  | .fields fs => fs
  | _ => #[]
noncomputable def sqAt (w : World) (a : Addr) : Array Value := match (obAt w a).data with
  | .seq xs _ => xs
  | _ => #[]
noncomputable def sqN (w : World) (a : Addr) : Nat := match (obAt w a).data with
  | .seq _ n => n
  | _ => 0
theorem re1_data (w : World) : (obAt w 127).data = .fields (fsAt w 127) := by kernel_rfl
theorem re2_data (w : World) : (obAt w 132).data = .fields (fsAt w 132) := by kernel_rfl
theorem re1_cls (w : World) : (obAt w 127).cls = .type "re.Pattern" := by kernel_rfl
theorem re2_cls (w : World) : (obAt w 132).cls = .type "re.Pattern" := by kernel_rfl
theorem re1_dict (w : World) : (obAt w 127).dict = none := by kernel_rfl
theorem re2_dict (w : World) : (obAt w 132).dict = none := by kernel_rfl
theorem re1_f (w : World) : Builtin.Re.reRawNat ((fsAt w 127).getD 6 .none) = 0 ∧ (fsAt w 127).getD 5 .none = .ref 126 ∧ Builtin.Re.reRawNat ((fsAt w 127).getD 2 .none) = 0 := ⟨by kernel_rfl, by kernel_rfl, by kernel_rfl⟩
theorem re2_f (w : World) : Builtin.Re.reRawNat ((fsAt w 132).getD 6 .none) = 0 ∧ (fsAt w 132).getD 5 .none = .ref 131 ∧ Builtin.Re.reRawNat ((fsAt w 132).getD 2 .none) = 0 := ⟨by kernel_rfl, by kernel_rfl, by kernel_rfl⟩
theorem re1_code (w : World) : (obAt w 126).data = .seq (sqAt w 126) (sqN w 126) ∧ (((sqAt w 126).map Builtin.Re.reRawOf).map (·.toNat)) = code1 := ⟨by kernel_rfl, by kernel_rfl⟩
theorem re2_code (w : World) : (obAt w 131).data = .seq (sqAt w 131) (sqN w 131) ∧ (((sqAt w 131).map Builtin.Re.reRawOf).map (·.toNat)) = code2 := ⟨by kernel_rfl, by kernel_rfl⟩
end Mine
end

section -- Qs
open PySem PySem.W PyProof.Rows PySem.Calls PySem.F PySem.Builtin.Re
namespace Mine
set_option maxRecDepth 100000
set_option linter.unusedVariables false
set_option linter.unusedSimpArgs false

section
variable {w : World} {A : Around} {E : Value → Shared → Prop} {s : Shared}
theorem wp_drive {P : Sre.M → Prop} {Q : Sre.M → Shared → Prop} (hQ : ∀ m, P m → Q m s) : ∀ (t n : Nat) (m : Sre.M), Ends n m P → 0 < t → n ≤ 4 * t → wpAny (model prg w) A (reDrive t m) Q E s
  | 0, _, _, _, h, _ => by lia
  | t + 1, n, m, ⟨j, hj, hd, hp⟩, _, hn => by
    unfold reDrive
    show wpAny _ A (if (Sre.M.runFor 4 m).outcome.isSome = true then pure (Sre.M.runFor 4 m) else (do rule "sre.turn"; reDrive t (Sre.M.runFor 4 m))) _ _ _
    rw [runFor_stepN]
    by_cases h : (stepN 4 m).outcome.isSome = true
    · rw [if_pos h]
      have e : stepN 4 m = stepN j m := by
        by_cases hj4 : j ≤ 4
        · have : stepN 4 m = stepN (4 - j) (stepN j m) := by rw [← stepN_add]; congr 1; lia
          rw [this, stepN_done hd]
        · have : stepN j m = stepN (j - 4) (stepN 4 m) := by rw [← stepN_add]; congr 1; lia
          rw [this, stepN_done h]
      rw [e]
      exact wpAny_pure (hQ _ hp)
    · rw [if_neg h]
      have hj4 : 4 < j := by
        rcases Nat.lt_or_ge 4 j with q | q
        · exact q
        · exfalso
          apply h
          have : stepN 4 m = stepN (4 - j) (stepN j m) := by rw [← stepN_add]; congr 1; lia
          rw [this, stepN_done hd]; exact hd
      have e : stepN (j - 4) (stepN 4 m) = stepN j m := by rw [← stepN_add]; congr 1; lia
      refine wpAny_bind (wpAny_rule ?_)
      exact wp_drive hQ t (j - 4) (stepN 4 m) ⟨j - 4, Nat.le_refl _, by rw [e]; exact hd, by rw [e]; exact hp⟩ (by lia) (by lia)

theorem wp_quiet {α : Type} {f : α → PUnit → Sem (ForInStep PUnit)} (hf : ∀ a (Q : ForInStep PUnit → Shared → Prop), Q (.yield ⟨⟩) s → wpAny (model prg w) A (f a ⟨⟩) Q E s) {Q : PUnit → Shared → Prop} (h : Q ⟨⟩ s) : ∀ l : List α, wpAny (model prg w) A (forIn l PUnit.unit f) Q E s
  | [] => by rw [List.forIn_nil]; exact wpAny_pure h
  | a :: l => by
    rw [List.forIn_cons]
    exact wpAny_bind (hf a _ (wp_quiet hf h l))

theorem wp_run {m : Sre.M} {n : Nat} {r : Option (Nat × Nat)} (he : Ends n m (Found r)) (hn : n ≤ 4 * 2 ^ 64) {Q : Option Sre.M → Shared → Prop}
    (h : match r with | some (b, e) => ∀ m', m'.start = b → m'.handed = e → Q (some m') s | none => Q none s) : wpAny (model prg w) A (reRunToEnd m) Q E s := by
  unfold reRunToEnd
  refine wpAny_bind (wp_drive (P := Found r) (fun m' hm => ?_) (2 ^ 64) n m he (by decide) hn)
  refine wpAny_bind (wp_quiet (fun i Q hq => ?_) ?_ _)
  · by_cases hs : m'.seen.has i = true
    · rw [if_pos hs]
      exact wpAny_bind (wpAny_rule (wpAny_pure hq))
    · rw [if_neg hs]
      exact wpAny_pure hq
  · cases r with
    | none =>
      have hm : m'.outcome = some .failed := hm
      rw [hm]
      exact wpAny_pure h
    | some q =>
      obtain ⟨b, e⟩ := q
      obtain ⟨h1, h2, h3⟩ := hm
      rw [h1]
      exact wpAny_pure (h m' h2 h3)

structure Pat (h : Heap) (a c : Addr) (code : Array Nat) : Prop where
  ob : ∃ o fs, h.get? a = some o ∧ o.cls = .type "re.Pattern" ∧ o.dict = none ∧ o.data = .fields fs ∧ reRawNat (fs.getD 6 .none) = 0 ∧ fs.getD 5 .none = .ref c ∧ reRawNat (fs.getD 2 .none) = 0
  cd : ∃ co xs n, h.get? c = some co ∧ co.data = .seq xs n ∧ (xs.map reRawOf).map (·.toNat) = code
noncomputable def tgt (a : Addr) (code : Array Nat) (x : Str) (t : Tok) : ReTarget := { pattern := .ref a, string := .str x t, code, text := x.cps, kind := 0, groups := 0, pos := 0, lim := x.cps.size }
theorem wp_target {a c : Addr} {code : Array Nat} (hp : Pat s.heap a c code) {x : Str} {t : Tok} {Q : ReTarget → Shared → Prop} (h : Q (tgt a code x t) s) : wpAny (model prg w) A (reWholeTarget (.ref a) (.str x t)) Q E s := by
  obtain ⟨o, fs, ho, _, _, hd, hk, hc, hg⟩ := hp.ob
  obtain ⟨co, xs, n, hco, hcd, hcode⟩ := hp.cd
  unfold reWholeTarget
  refine wpAny_bind (wpAny_fieldsOf ho hd ?_)
  refine wpAny_bind (wpAny_of_eq (a := (x.cps, 0)) rfl ?_)
  dsimp only
  rw [hk, hc, hg]
  refine wpAny_bind (wpAny_of_eq (a := ()) rfl ?_)
  unfold reRawItems
  refine wpAny_bind (wpAny_bind (wpAny_seqItems hco hcd (wpAny_pure ?_)))
  refine wpAny_pure ?_
  show Q { pattern := _, string := _, code := (xs.map reRawOf).map (·.toNat), text := _, kind := _, groups := _, pos := _, lim := _ } s
  rw [hcode]; exact h

noncomputable def strLst (h : Heap) (D : Addr) (ps : List Str) : Prop := ∃ ts : List (Str × Tok), ts.map (·.1) = ps ∧ PlainL h D (strValues ts).toArray
theorem pat_keep {h h' : Heap} {a c D : Addr} {code : Array Nat} (hp : Pat h a c code) (ha : a ≠ D) (hc : c ≠ D) (hs : Heap.SameBut D h h') : Pat h' a c code := by
  obtain ⟨⟨o, fs, e, r⟩, ⟨co, xs, n, e2, r2⟩⟩ := hp
  exact ⟨⟨o, fs, (hs.2 a ha).trans e, r⟩, ⟨co, xs, n, (hs.2 c hc).trans e2, r2⟩⟩
theorem wp_push {D : Addr} {ps : List Str} {y : Str} {t : Tok} (hl : strLst s.heap D ps) (hz : ps.length ≤ 100000) {Q : Unit → Shared → Prop} (h : ∀ h', strLst h' D (ps ++ [y]) → Heap.SameBut D s.heap h' → Q () { s with heap := h' }) :
    wpAny (model prg w) A (updateSeq D (·.push (.str y t))) Q E s := by
  obtain ⟨ts, rfl, o, n, ho, hc, hdn, hd⟩ := hl
  have hlen : (strValues ts).toArray.size ≤ 100000 := by simpa [strValues] using hz
  obtain ⟨n', hd'⟩ := Obj.data_mapSeq hd (·.push (.str y t))
  refine wpAny_updateSeq ho hd (h _ ⟨ts ++ [(y, t)], by simp, _, n', Heap.get?_update_self _ ho (Obj.isFreed_of_seq hd'), (Obj.cls_mapSeq ..).trans hc, ?_, ?_⟩ (Heap.SameBut.update ..)) (Nat.le_trans hlen (by decide)) (by rw [Array.size_push]; exact Nat.le_trans (Nat.succ_le_succ hlen) (by decide))
  · obtain ⟨c, d, dt, sl⟩ := o
    subst hd
    exact hdn
  · rw [hd']
    simp [strValues]

noncomputable def subP (x r : Str) (next : Nat → Option (Nat × Nat)) : Nat → Nat → List Str
  | 0, _ => []
  | k + 1, p => match next p with
    | some (b, e) => (if p < b then [⟨x.cps.extract p b⟩] else []) ++ r :: subP x r next k e
    | none => if p < x.cps.size then [⟨x.cps.extract p x.cps.size⟩] else []

theorem wp_slice {x : Str} {b e : Nat} (hx : x.cps.size ≤ 10000) {Q : Value → Shared → Prop} (h : ∀ t' tk, Q (.str ⟨x.cps.extract b e⟩ t') { s with toks := tk }) : wpAny (model prg w) A (reSlice x.cps 0 b e) Q E s := by
  show wpAny _ A (mkStr ⟨x.cps.extract b e⟩) _ _ s
  refine wpAny_mkStr (h _ _) ?_
  show (x.cps.extract b e).size ≤ sizeLine
  rw [Array.size_extract]
  exact Nat.le_trans (show min e x.cps.size - b ≤ 10000 by lia) (by decide)

theorem re_loop {a c D : Addr} {code : Array Nat} {x r : Str} {t u : Tok} {next : Nat → Option (Nat × Nat)} {N : Nat} (hN : N ≤ 4 * 2 ^ 64) (hnext : ∀ p, Ends N (Sre.forSearch code x.cps 0 p x.cps.size false) (Found (next p)))
    (hprog : ∀ p b e, next p = some (b, e) → p ≤ b ∧ b < e ∧ e ≤ x.cps.size) (hx : x.cps.size ≤ 1000) (hr : r.cps.size ≤ 1000) (haD : a ≠ D) (hcD : c ≠ D)
    {R : Result → Shared → Prop} : ∀ (k p n : Nat) (s : Shared) (ps : List Str), Pat s.heap a c code → strLst s.heap D ps → x.cps.size < p + k → p ≤ x.cps.size → ps.length ≤ 2 * p → (∀ q ∈ ps, q.length ≤ 1000) →
    (∀ h' tk t', (∀ b o, b ≠ D → s.heap.get? b = some o → h'.get? b = some o) → R (.ok (.ret (.str (Txt.join "" (ps ++ subP x r next k p)) t'))) { s with heap := h', toks := tk }) →
    codeAny (model prg w) A (.builtin "re.Pattern.sub.loop" ⟨[.ref a, .str x t, .str r u, rawInt 0, rawInt 0, rawInt n, rawInt p, rawInt p, .bool false, .ref D, .bool false], []⟩) R s
  | 0, p, n, s, ps, _, _, h, h', _, _, _ => by lia
  | k + 1, p, n, s, ps, hp, hl, hk, hpx, hpl, hpb, hR => by
    refine codeAny_builtin entry_re_loop ?_
    rw [Around.under_plainId plain_re_loop _]
    show wpAny _ A.in1 (reWholeTarget (.ref a) (.str x t) >>= _) _ _ s
    refine wpAny_bind (wp_target hp ?_)
    refine wpAny_bind (wpAny_of_eq (a := ()) rfl ?_)
    show wpAny _ A.in1 (reNextFound (tgt a code x t) p false >>= _) _ _ s
    unfold subP at hR
    cases hf : next p with
    | some q =>
      obtain ⟨b, e⟩ := q
      obtain ⟨g1, g2, g3⟩ := hprog p b e hf
      rw [hf] at hR
      refine wpAny_bind (wp_run (r := some (b, e)) (n := N) (hf ▸ hnext p) hN fun m' hb he => ?_)
      subst hb he
      dsimp only
      have tail : ∀ (s' : Shared) (ps' : List Str), (∀ b o, b ≠ D → s.heap.get? b = some o → s'.heap.get? b = some o) → s'.gens = s.gens → s'.drawn = s.drawn → s'.os = s.os → Pat s'.heap a c code → strLst s'.heap D ps' → ps'.length ≤ 2 * p + 1 → (∀ q ∈ ps', q.length ≤ 1000) →
          ps' = ps ++ (if p < m'.start then [⟨x.cps.extract p m'.start⟩] else []) →
          wpAny (model prg w) A.in1 (updateSeq D (·.push (.str r u)) >>= fun _ => again (Code.builtin "re.Pattern.sub.loop" ⟨[.ref a, .str x t, .str r u, rawInt 0, rawInt 0, rawInt ((n : Int) + 1), rawInt m'.handed, rawInt m'.handed, .bool (m'.handed == m'.start), .ref D, .bool false], []⟩))
            (fun fin s' => match fin with
              | .done f => R (.ok f) s'
              | .again c' => c'.quiet = true ∧ codeAny (model prg w) A c' R s') (fun e s' => R (.error e) s') s' := by
        intro s' ps' hold e1 e2 e3 hp' hl' hz hb' heq
        refine wpAny_bind (wp_push hl' (by lia) fun h₂ hl2 hs2 => ?_)
        have hne : (m'.handed == m'.start) = false := by simp; lia
        rw [hne]
        refine wpAny_pure ⟨plainId_quiet plain_re_loop _, ?_⟩
        have := re_loop (t := t) (u := u) hN hnext hprog hx hr haD hcD (R := R) k m'.handed (n + 1) { s' with heap := h₂ } (ps' ++ [r]) (pat_keep hp' haD hcD hs2) hl2 (by lia) g3 (by rw [List.length_append, List.length_singleton]; lia) (by
            intro q hq
            rcases List.mem_append.mp hq with hq | hq
            · exact hb' q hq
            · rw [List.mem_singleton.mp hq]; exact hr) fun h' tk t' hk' => by
            have := hR h' tk t' fun b o hb e => hk' b o hb ((hs2.2 b hb).trans (hold b o hb e))
            rw [heq, e1, e2, e3]
            simpa using this
        simpa using this
      show wpAny _ A.in1 (if p < m'.start then (reSlice x.cps 0 p m'.start >>= fun v => updateSeq D (·.push v) >>= fun _ => (updateSeq D (·.push (.str r u)) >>= fun _ => again (Code.builtin "re.Pattern.sub.loop" ⟨[.ref a, .str x t, .str r u, rawInt 0, rawInt 0, rawInt ((n : Int) + 1), rawInt m'.handed, rawInt m'.handed, .bool (m'.handed == m'.start), .ref D, .bool false], []⟩)))
        else (updateSeq D (·.push (.str r u)) >>= fun _ => again (Code.builtin "re.Pattern.sub.loop" ⟨[.ref a, .str x t, .str r u, rawInt 0, rawInt 0, rawInt ((n : Int) + 1), rawInt m'.handed, rawInt m'.handed, .bool (m'.handed == m'.start), .ref D, .bool false], []⟩))) _ _ s
      by_cases hlt : p < m'.start
      · rw [if_pos hlt]
        refine wpAny_bind (wp_slice (by lia) fun t' tk => ?_)
        refine wpAny_bind (wp_push (s := { s with toks := tk }) hl (by lia) fun h₂ hl2 hs2 => ?_)
        refine tail { s with heap := h₂, toks := tk } _ (fun b o hb e => (hs2.2 b hb).trans e) rfl rfl rfl (pat_keep hp haD hcD hs2) hl2 (by simp; lia) ?_ (by rw [if_pos hlt])
        intro q hq
        rcases List.mem_append.mp hq with hq | hq
        · exact hpb q hq
        · rw [List.mem_singleton.mp hq]
          show (x.cps.extract p m'.start).size ≤ 1000
          rw [Array.size_extract]; lia
      · rw [if_neg hlt]
        exact tail s ps (fun b o _ e => e) rfl rfl rfl hp hl (by lia) hpb (by rw [if_neg hlt]; simp)
    | none =>
      rw [hf] at hR
      refine wpAny_bind (wp_run (r := none) (n := N) (hf ▸ hnext p) hN ?_)
      dsimp only
      have tail : ∀ (s' : Shared) (ps' : List Str), (∀ b o, b ≠ D → s.heap.get? b = some o → s'.heap.get? b = some o) → s'.gens = s.gens → s'.drawn = s.drawn → s'.os = s.os → strLst s'.heap D ps' → ps'.length ≤ 2 * p + 1 → (∀ q ∈ ps', q.length ≤ 1000) →
          ps' = ps ++ (if p < x.cps.size then [⟨x.cps.extract p x.cps.size⟩] else []) →
          wpAny (model prg w) A.in1 (reSlice x.cps 0 0 0 >>= fun joiner => seqItems? (.ref D) >>= fun it => (if (it.getD #[]).isEmpty = true then (pure joiner >>= fun text => ret text) else (call (.builtin "str.join") [joiner, .ref D] >>= fun text => ret text)))
            (fun fin s' => match fin with
              | .done f => R (.ok f) s'
              | .again c' => c'.quiet = true ∧ codeAny (model prg w) A c' R s') (fun e s' => R (.error e) s') s' := by
        intro s' ps' hold e1 e2 e3 hl' hz hb' heq
        refine wpAny_bind (wp_slice (by lia) fun t' tk => ?_)
        have e0 : (⟨x.cps.extract 0 0⟩ : Str) = "" := by
          show (⟨x.cps.extract 0 0⟩ : Str) = ⟨#[]⟩
          congr 1
          apply Array.toList_inj.mp
          simp
        rw [e0]
        obtain ⟨ts, hts, hpl⟩ := hl'
        have hisl := hpl.isList
        obtain ⟨o, nn, ho, _, _, hd⟩ := hpl
        refine wpAny_bind (wpAny_seqItems (s := { s' with toks := tk }) ho hd ?_)
        have fin : ∀ t'' tk'', R (.ok (.ret (.str (Txt.join "" ps') t''))) { s' with toks := tk'' } := fun t'' tk'' => by
          have := hR s'.heap tk'' t'' hold
          rw [heq, e1, e2, e3]
          exact this
        show wpAny _ A.in1 (if (strValues ts).toArray.isEmpty = true then (pure (Value.str "" t') >>= fun text => ret text) else (call (.builtin "str.join") [Value.str "" t', .ref D] >>= fun text => ret text)) _ _ _
        by_cases hemp : (strValues ts).toArray.isEmpty = true
        · rw [if_pos hemp]
          have : ts = [] := by simpa [strValues] using hemp
          subst this
          have hps : ps' = [] := by rw [← hts]; rfl
          refine wpAny_bind (wpAny_pure (wpAny_pure ?_))
          have := fin t' tk
          rw [hps] at this
          exact this
        · rw [if_neg hemp]
          refine wpAny_bind (SC.join (s := { s' with toks := tk }) hisl hts ?_ fun t'' tk'' => wpAny_pure (fin t'' tk''))
          unfold JoinOk
          rw [Bool.not_eq_true']
          refine StrLaws.joinFits (B := 1000) hb' ?_
          have : ("" : Str).length = 0 := rfl
          rw [this]
          lia
      show wpAny _ A.in1 (if p < x.cps.size then (reSlice x.cps 0 p x.cps.size >>= fun v => updateSeq D (·.push v) >>= fun _ => (reSlice x.cps 0 0 0 >>= fun joiner => seqItems? (.ref D) >>= fun it => (if (it.getD #[]).isEmpty = true then (pure joiner >>= fun text => ret text) else (call (.builtin "str.join") [joiner, .ref D] >>= fun text => ret text))))
        else (reSlice x.cps 0 0 0 >>= fun joiner => seqItems? (.ref D) >>= fun it => (if (it.getD #[]).isEmpty = true then (pure joiner >>= fun text => ret text) else (call (.builtin "str.join") [joiner, .ref D] >>= fun text => ret text)))) _ _ s
      by_cases hlt : p < x.cps.size
      · rw [if_pos hlt]
        refine wpAny_bind (wp_slice (by lia) fun t' tk => ?_)
        refine wpAny_bind (wp_push (s := { s with toks := tk }) hl (by lia) fun h₂ hl2 hs2 => ?_)
        refine tail { s with heap := h₂, toks := tk } _ (fun b o hb e => (hs2.2 b hb).trans e) rfl rfl rfl hl2 (by simp; lia) ?_ (by rw [if_pos hlt])
        intro q hq
        rcases List.mem_append.mp hq with hq | hq
        · exact hpb q hq
        · rw [List.mem_singleton.mp hq]
          show (x.cps.extract p x.cps.size).size ≤ 1000
          rw [Array.size_extract]; lia
      · rw [if_neg hlt]
        exact tail s ps (fun b o _ e => e) rfl rfl rfl hl (by lia) hpb (by rw [if_neg hlt]; simp)

theorem str_no_call : typeLookup (.type "str") "__call__" = pure none := by rw [typeLookup_type, builtinLookup_eq_fast]; kernel_rfl
theorem re_sub {a c : Addr} {code : Array Nat} {x r : Str} {t u : Tok} {next : Nat → Option (Nat × Nat)} {N : Nat} (hN : N ≤ 4 * 2 ^ 64) (hnext : ∀ p, Ends N (Sre.forSearch code x.cps 0 p x.cps.size false) (Found (next p)))
    (hprog : ∀ p b e, next p = some (b, e) → p ≤ b ∧ b < e ∧ e ≤ x.cps.size) (hx : x.cps.size ≤ 1000) (hr : r.cps.size ≤ 1000) (hlit : r.cps.contains 92 = false) (hp : Pat s.heap a c code) {Q : Value → Shared → Prop}
    (h : ∀ h' tk t', (∀ b o, s.heap.get? b = some o → h'.get? b = some o) → Q (.str (Txt.join "" (subP x r next (x.cps.size + 1) 0)) t') { s with heap := h', toks := tk }) :
    wpAny (model prg w) A (call (.builtin "re.Pattern.sub") [.ref a, .str r u, .str x t]) Q E s := by
  obtain ⟨o, fs, ho, hcls, _⟩ := hp.ob
  have hT : s.TypeIs (.ref a) "re.Pattern" := ⟨o, ho, hcls⟩
  refine wpAny_call (codeAny_call_builtin slot_re_sub.plain entry_re_sub (slot_re_sub.check _ _ _ _ _ _ _ _ hT (args_re_sub _ _ _) ?_))
  show wpAny _ A.in1 (reSubstitute "re.Pattern.sub" "sub" false ⟨[.ref a, .str r u, .str x t], []⟩) _ _ s
  unfold reSubstitute
  refine wpAny_bind (wpAny_of_eq (a := [some (.str r u), some (.str x t), none]) rfl ?_)
  refine wpAny_bind (wpAny_of_eq (a := (0 : Int)) rfl ?_)
  refine wpAny_bind (wpAny_of_eq (a := (none : Option Value)) (by
    show (typeOf (.str r u) >>= fun T => typeLookup T "__call__") = pure none
    exact str_no_call) ?_)
  show wpAny _ A.in1 (PySem.asStr? (.str r u) >>= _) _ _ s
  refine wpAny_bind (wpAny_of_eq (a := some r) rfl ?_)
  show wpAny _ A.in1 (pure (!r.cps.contains 92) >>= _) _ _ s
  refine wpAny_bind (wpAny_pure ?_)
  rw [hlit]
  show wpAny _ A.in1 (pure (Value.str r u, (0 : Int)) >>= _) _ _ s
  refine wpAny_bind (wpAny_pure ?_)
  show wpAny _ A.in1 (holding [Value.str r u] (reWholeTarget (Value.ref a) (Value.str x t)) >>= _) _ _ s
  refine wpAny_bind (wpAny_holding (wp_target hp ?_))
  show wpAny _ A.in1 (newList [] >>= _) _ _ s
  refine wpAny_bind (wpAny_newList ?_ (Nat.zero_le _))
  refine wpAny_pure ⟨plainId_quiet plain_re_loop _, ?_⟩
  have hnew : s.heap.get? s.heap.objs.size = none := Heap.get?_none_of_le (Nat.le_refl _)
  have ka : ∀ b o, s.heap.get? b = some o → (s.heap.push { cls := .type "list", data := .seq ([] : List Value).toArray }).get? b = some o := fun b o e => Heap.get?_push_of_some _ e
  have hL : PlainL (s.heap.push { cls := .type "list", data := .seq ([] : List Value).toArray }) s.heap.objs.size #[] := ⟨_, 0, Heap.get?_push_size _ rfl, rfl, rfl, rfl⟩
  have hpa : Pat (s.heap.push { cls := .type "list", data := .seq ([] : List Value).toArray }) a c code := by
    obtain ⟨⟨o, fs, e, r⟩, ⟨co, xs, n, e2, r2⟩⟩ := hp
    exact ⟨⟨o, fs, ka _ _ e, r⟩, ⟨co, xs, n, ka _ _ e2, r2⟩⟩
  have haD : a ≠ s.heap.objs.size := by
    rintro rfl
    obtain ⟨⟨o, fs, e, r⟩, _⟩ := hp
    rw [hnew] at e; cases e
  have hcD : c ≠ s.heap.objs.size := by
    rintro rfl
    obtain ⟨_, ⟨co, xs, n, e2, r2⟩⟩ := hp
    rw [hnew] at e2; cases e2
  refine re_loop hN hnext hprog hx hr haD hcD (x.cps.size + 1) 0 0 { s with heap := s.heap.push { cls := .type "list", data := .seq ([] : List Value).toArray } } [] hpa ⟨[], rfl, hL⟩ (by lia) (Nat.zero_le _) (Nat.zero_le _) (fun q hq => by cases hq) fun h' tk t' hk => ?_
  exact h h' tk t' fun b o e => hk b o (by rintro rfl; rw [hnew] at e; cases e) (ka b o e)
end
end Mine
end

section -- Qd
open PySem PySem.W PyProof.Rows PySem.Calls PySem.F PySem.Builtin.Re
namespace Mine
set_option maxRecDepth 100000
set_option linter.unusedVariables false
set_option linter.unusedSimpArgs false
variable {p : Bool}

noncomputable def crlf : Str := "\r\n"
noncomputable def sub2 (x : Str) : Str := Txt.join "" (subP x crlf (next2 x.cps) (x.cps.size + 1) 0)
noncomputable def sub1 (x : Str) : Str := Txt.join "" (subP x ".." (next1 x.cps) (x.cps.size + 1) 0)
noncomputable abbrev envQ (w : World) (L : Nat) : Env := callEnvC (fnAt w 139) L 139
theorem qd_body (w : World) : ∃ q1 q2 kk q3 q4 q5 q6 q7 q8 q9 q10, bodyAt w 139 = [.Return (some (.Call (.Attribute (.Name "_twin_re_1" q1) "sub" q2) [.Constant (.str "..") kk q3, .Call (.Attribute (.Name "_twin_re_2" q4) "sub" q5) [.Name "CRLF" q6, .Name "data" q7] [] q8] [] q9)) q10] ∧ (q2.endLine == q9.line) = true ∧ (q5.endLine == q8.line) = true := ⟨_, _, _, _, _, _, _, _, _, _, _, rfl, rfl, rfl⟩

theorem find1_is {text : Array Nat} : ∀ {f s b : Nat}, find1 text f s = some b → dotAt text b = true ∧ s ≤ b
  | 0, s, b, h => by
    unfold find1 at h
    cases hb : dotAt text s with
    | true => rw [hb] at h; cases h; exact ⟨hb, Nat.le_refl _⟩
    | false => rw [hb] at h; cases h
  | f + 1, s, b, h => by
    unfold find1 at h
    cases hb : dotAt text s with
    | true => rw [hb] at h; cases h; exact ⟨hb, Nat.le_refl _⟩
    | false =>
      rw [hb] at h
      obtain ⟨a, c⟩ := find1_is (f := f) h
      exact ⟨a, by omega⟩
theorem prog1 (text : Array Nat) (p b e : Nat) (h : next1 text p = some (b, e)) : p ≤ b ∧ b < e ∧ e ≤ text.size := by
  unfold next1 at h
  split at h
  · rw [Option.map_eq_some_iff] at h
    obtain ⟨c, h1, h2⟩ := h
    cases h2
    obtain ⟨h3, h4⟩ := find1_is h1
    unfold dotAt at h3
    simp only [Bool.and_eq_true, decide_eq_true_eq] at h3
    omega
  · cases h
theorem endLen_is (text : Array Nat) (b : Nat) : endLen text b = 1 ∨ (endLen text b = 2 ∧ b + 1 < text.size) := by
  unfold endLen
  split
  · rename_i hc
    simp only [Bool.and_eq_true, decide_eq_true_eq] at hc
    exact .inr ⟨rfl, hc.2.1⟩
  · exact .inl rfl
theorem prog2 (text : Array Nat) (p b e : Nat) (h : next2 text p = some (b, e)) : p ≤ b ∧ b < e ∧ e ≤ text.size := by
  unfold next2 at h
  split at h
  · rw [Option.map_eq_some_iff] at h
    obtain ⟨c, h1, h2⟩ := h
    cases h2
    obtain ⟨h3, _, h4⟩ := find2_is h1
    have hE := endLen_is text b
    omega
  · cases h
theorem pat1 {w : World} {hB : Heap} {mg mb : Str → Option Value} (B : Bs w hB mg mb) {h : Heap} (g : Good hB h) : Pat h 127 126 code1 := by
  have h1 : (KK w).lookup 127 = some (obAt w 127) := by kernel_rfl
  have h2 : (KK w).lookup 126 = some (obAt w 126) := by kernel_rfl
  obtain ⟨f1, f2, f3⟩ := re1_f w
  exact ⟨⟨obAt w 127, fsAt w 127, g.stays _ _ (B.X _ _ h1), re1_cls w, re1_dict w, re1_data w, f1, f2, f3⟩, ⟨obAt w 126, sqAt w 126, sqN w 126, g.stays _ _ (B.X _ _ h2), (re1_code w).1, (re1_code w).2⟩⟩
theorem pat2 {w : World} {hB : Heap} {mg mb : Str → Option Value} (B : Bs w hB mg mb) {h : Heap} (g : Good hB h) : Pat h 132 131 code2 := by
  have h1 : (KK w).lookup 132 = some (obAt w 132) := by kernel_rfl
  have h2 : (KK w).lookup 131 = some (obAt w 131) := by kernel_rfl
  obtain ⟨f1, f2, f3⟩ := re2_f w
  exact ⟨⟨obAt w 132, fsAt w 132, g.stays _ _ (B.X _ _ h1), re2_cls w, re2_dict w, re2_data w, f1, f2, f3⟩, ⟨obAt w 131, sqAt w 131, sqN w 131, g.stays _ _ (B.X _ _ h2), (re2_code w).1, (re2_code w).2⟩⟩

theorem quote_call {w : World} {hB : Heap} {mg mb : Str → Option Value} (B : Bs w hB mg mb) {k : Nat} {x : Str} (hx : x.cps.size ≤ 1000) (hx2 : (sub2 x).cps.size ≤ 1000) {Q : V → Prop} (hQ : Q (.sc (.str (sub1 (sub2 x))))) :
    CallSpec w hB p (k + 1) (.ref 139) [.sc (.str x)] Q := by
  refine call_defE B (o := obAt w 139) (fd := fnAt w 139) (body := bodyAt w 139) (names := ["data"]) (by kernel_rfl) (by kernel_rfl) (by kernel_rfl) (by kernel_rfl) rfl (bind1 fun x => by kernel_rfl) fun L ok hfr => ?_
  show ExecSpec w hB p k (envQ w L) (execs (bodyAt w 139) (envQ w L)) [("data", .sc (.str x))] (retQ Q)
  intro s g fm A r E R hR
  obtain ⟨q1, q2, kk, q3, q4, q5, q6, q7, q8, q9, q10, hbody, hl1, hl2⟩ := qd_body w
  rw [hbody]
  have hm1 : mg "_twin_re_1" = some (.ref 127) := mg_of B.X B.gl (by kernel_rfl)
  have hm2 : mg "_twin_re_2" = some (.ref 132) := mg_of B.X B.gl (by kernel_rfl)
  refine wpAny_execs_cons (wpAny_Return_some ?_)
  refine wpAny_Call_method (by kernel_rfl) (by kernel_rfl) hl1 plainAttrs_re slot_re_sub type_re_sub ?_
  have ty : ∀ {s : Shared} {a c : Addr} {code : Array Nat}, Pat s.heap a c code → s.TypeIs (.ref a) "re.Pattern" ∧ (∀ b, Value.ref a = .ref b → ∃ ob, s.heap.get? b = some ob ∧ ob.dict = none) := by
    intro s a c code hp
    obtain ⟨o, fs, ho, hcls, hdn, _⟩ := hp.ob
    exact ⟨⟨o, ho, hcls⟩, fun b e => by cases e; exact ⟨o, ho, hdn⟩⟩
  refine name_global B ok g (by kernel_rfl) (.inl hm1) ⟨(ty (pat1 B g)).1, (ty (pat1 B g)).2, ?_⟩
  refine Calls.callWith_builtin (args := [(false, eval (.Constant (.str "..") kk q3) (envQ w L)), (false, eval (.Call (.Attribute (.Name "_twin_re_2" q4) "sub" q5) [.Name "CRLF" q6, .Name "data" q7] [] q8) (envQ w L))]) rfl (Calls.evalArgs_plain (Calls.spliced_cons (wpAny_Constant_str (Calls.spliced_cons ?_))))
  refine wpAny_Call_method (by kernel_rfl) (by kernel_rfl) hl2 plainAttrs_re slot_re_sub type_re_sub ?_
  refine name_global (s := { s with toks := s.toks + 1 }) B ok g (by kernel_rfl) (.inl hm2) ⟨(ty (pat2 B g)).1, (ty (pat2 B g)).2, ?_⟩
  refine Calls.callWith_builtin (args := [(false, eval (.Name "CRLF" q6) (envQ w L)), (false, eval (.Name "data" q7) (envQ w L))]) rfl (Calls.evalArgs_plain (Calls.spliced_cons ?_))
  obtain ⟨vc, hvc, tc, rfl⟩ := gTab_all B ("CRLF", .str "\r\n") (by simp [gTab])
  refine name_global (s := { s with toks := s.toks + 1 }) B ok g (by kernel_rfl) (.inl hvc) (Calls.spliced_cons ?_)
  obtain ⟨m, hn, hloc⟩ := fm.m
  obtain ⟨vd, hhd, td, rfl⟩ := hloc "data" (.sc (.str x)) (by kernel_rfl)
  refine name_held (s := { s with toks := s.toks + 1 }) ok hn hhd (Calls.spliced_nil ?_)
  refine re_sub (s := { s with toks := s.toks + 1 }) (r := crlf) (x := x) (next := next2 x.cps) (N := 20) (by decide) (search2 x.cps) (prog2 x.cps) hx (by decide) (by decide +kernel) (pat2 B g) fun h₁ tk t' ka => ?_
  have g1 := g.keep_all ka
  refine Calls.spliced_nil ?_
  refine re_sub (s := { s with heap := h₁, toks := tk }) (r := "..") (x := sub2 x) (next := next1 (sub2 x).cps) (N := 5 * ((sub2 x).cps.size + 1) + 20) (by
    have : 4 * 2 ^ 64 = 73786976294838206464 := by decide
    omega) (search_1 (sub2 x).cps) (prog1 (sub2 x).cps) hx2 (by decide) (by decide +kernel) (pat1 B g1) fun h₂ tk2 t2 ka2 => ?_
  refine hR (.ret _) (.ret (.sc (.str (sub1 (sub2 x))))) h₂ tk2 (fun b o _ _ e => ka2 _ _ (ka _ _ e)) (g1.keep_all ka2) ⟨_, rfl, t2, rfl⟩ hQ
end Mine
end

section -- Lw
open PySem PySem.W PyProof.Rows PySem.Calls
namespace Mine
set_option maxRecDepth 100000
set_option linter.unusedVariables false
set_option linter.unusedSimpArgs false
set_option exponentiation.threshold 5000
variable {p : Bool}

/-- where the frame stands, the function and its code -/
structure Ln where
  l : Addr
  fa : Addr
  cd : Value
noncomputable abbrev envW (w : World) (L : Ln) : Env := newEnv (fnAt w 171).scope L.l (fnAt w 171).globals (cellsFrom (L.l + 1) (fnAt w 171).scope.names []) ((fnAt w 171).qualname ++ ".<locals>.") (some L.fa) L.cd none (fnAt w 171).builtins
noncomputable abbrev fbW (w : World) : List Stmt := forBody (stAt w 171 8)
section
variable (w : World) (hB : Heap) (k : Nat) (L : Ln) (ds : List Sc) (Q : Out → Prop)
theorem lw0 : stAt w 171 0 = compAssign "numbers" "x" (stAt w 171 0) := by kernel_rfl
theorem lw_iter : ∃ q1 kk q2 q3 q4, cIter (valOf (stAt w 171 0)) = .Subscript (.Name "script" q1) (.Slice none (some (.Constant (.int 5) kk q2)) none q3) q4 := ⟨_, _, _, _, _, rfl⟩
theorem lw_elt (C : Addr) (cl : List (Str × Addr)) (i : Int) (R : V → Prop) : wpE w hB p k (compEnvC (cScope (valOf (stAt w 171 0))) cl C (envW w L)) 6 (cElt (valOf (stAt w 171 0))) [("x", I i)] R =
    (((0 : Int) ≤ 6 ∧ (6 : Int) ≤ 1000000 ∧ (10 : Int).natAbs < 2 ^ 64) ∧ ((10 : Int) ^ (6 : Int).toNat ≠ 0 ∧ R (I (i.fmod (10 ^ (6 : Int).toNat))))) := by kernel_rfl
theorem lw_body : ∃ q1 q2 q3 q4 q5 q6 q7 es kk3, bodyAt w 171 = stAt w 171 0 :: (((bodyAt w 171).drop 1).take 7 ++ [.For (.Name "x" q1) (.BinOp (.List es q2) .Add (.Name "numbers" q3) q4) (fbW w) [] q5, .Return (some (.Constant (.bool true) kk3 q6)) q7]) := ⟨_, _, _, _, _, _, _, _, _, rfl⟩
noncomputable abbrev ρ1 (ns : List Sc) : Rho := [("numbers", .lst ns), ("script", .lst ds)]
theorem lw1 (ns : List Sc) : wpS w hB p k (envW w L) 30 (((bodyAt w 171).drop 1).take 7) (ρ1 ds ns) Q =
    CallSpec w hB p k (.builtin "sum") [.lst ns] (fun d => litB .Add (I 700) d fun e => wpS w hB p k (envW w L) 29 (((bodyAt w 171).drop 2).take 6) (("start", e) :: ρ1 ds ns) Q) := by kernel_rfl
variable (ns : List Sc) (st : Int)
noncomputable abbrev ρ2 : Rho := ("base", I (2 ^ (8 + st.fmod 32).toNat)) :: ("n", I (8 + st.fmod 32)) :: ("start", I st) :: ρ1 ds ns
theorem lw2 : wpS w hB p k (envW w L) 29 (((bodyAt w 171).drop 2).take 6) (("start", I st) :: ρ1 ds ns) Q =
    ((32 : Int) ≠ 0 ∧ ((0 : Int) ≤ 8 + st.fmod 32 ∧ 8 + st.fmod 32 ≤ 1000000 ∧ (2 : Int).natAbs < 2 ^ 64) ∧ guardF (decide (1000 < 3)) (CallSpec w hB p k (.ref 59) [L3 1 1 1, I (8 + st.fmod 32)] fun d => wpS w hB p k (envW w L) 26 (((bodyAt w 171).drop 5).take 3) (("divisor", d) :: ρ2 ds ns st) Q)) := by kernel_rfl
variable (n base dv : Int)
noncomputable abbrev ρ3 : Rho := ("divisor", I dv) :: ("base", I base) :: ("n", I n) :: ("start", I st) :: ρ1 ds ns
theorem lw3 : wpS w hB p k (envW w L) 26 (((bodyAt w 171).drop 5).take 3) (ρ3 ds ns st n base dv) Q =
    ((17 : Int) ≠ 0 ∧ ((17 : Int) ≠ 0 ∧ (17 : Int).natAbs < 1073741824) ∧ (17 : Int) ≠ 0 ∧ ((289 : Int) ≠ 0 ∧ (289 : Int).natAbs < 1073741824) ∧ (17 : Int) ≠ 0 ∧ guardF (decide (1000 < 3)) (
      CallSpec w hB p k (.ref 59) [L3 (st.fmod 17) ((st.fdiv 17).fmod 17) ((st.fdiv 289).fmod 17), I n] fun d => CallSpec w hB p k (.ref 73) [d, I dv] fun d => itemSpec d (I 1) fun rest =>
        Q (.nxt (("both", I (imax3 (st.fmod 17) ((st.fdiv 17).fmod 17) ((st.fdiv 289).fmod 17) + imin3 (st.fmod 17) ((st.fdiv 17).fmod 17) ((st.fdiv 289).fmod 17))) :: ("rest", rest) :: ("parts", L3 (st.fmod 17) ((st.fdiv 17).fmod 17) ((st.fdiv 289).fmod 17)) :: ρ3 ds ns st n base dv)))) := by kernel_rfl
end
end Mine
end

section -- Lb
open PySem PySem.W PyProof.Rows PySem.Calls
namespace Mine
set_option maxRecDepth 100000
set_option linter.unusedVariables false
set_option linter.unusedSimpArgs false
set_option exponentiation.threshold 5000
variable {p : Bool}

section
variable (w : World) (hB : Heap) (k : Nat) (L : Ln) (Q : Out → Prop) (x a b c rest both dv base n d : Int)
noncomputable abbrev ρI : Rho := [("parts", L3 a b c), ("rest", I rest), ("both", I both), ("divisor", I dv), ("base", I base), ("n", I n)]
noncomputable abbrev ρX : Rho := ("x", I x) :: ρI a b c rest both dv base n
theorem lb0 : wpS w hB p k (envW w L) 20 ((fbW w).take 2) (ρX x a b c rest both dv base n) Q =
    ((6 : Int) ≠ 0 ∧ condP (x.fmod 6 == 3) (condP (imax3 a b c == 16) (Q (.nxt (("deed", I 2) :: ("deed", I (x.fmod 6)) :: ρX x a b c rest both dv base n))) (Q (.nxt (("deed", I (x.fmod 6)) :: ρX x a b c rest both dv base n)))) (condP false (Q (.nxt (("deed", I 2) :: ("deed", I (x.fmod 6)) :: ρX x a b c rest both dv base n))) (Q (.nxt (("deed", I (x.fmod 6)) :: ρX x a b c rest both dv base n))))) := by kernel_rfl
noncomputable abbrev ρD : Rho := ("deed", I d) :: ρX x a b c rest both dv base n
theorem lb2 : wpS w hB p k (envW w L) 20 (((fbW w).drop 2).take 2) (ρD x a b c rest both dv base n d) Q =
    CallSpec w hB p k (.ref 154) [I rest, I both, L3 a b c, I d, I base, I dv] (unpackK ["rest", "both"] (ρD x a b c rest both dv base n d) fun ρ' => wpS w hB p k (envW w L) 19 (((fbW w).drop 3).take 1) ρ' Q) := by kernel_rfl
theorem lb3 (r' b' : Int) : wpS w hB p k (envW w L) 19 (((fbW w).drop 3).take 1) (("both", I b') :: ("rest", I r') :: ρD x a b c rest both dv base n d) Q =
    CallSpec w hB p k (.ref 159) [I r', I b', I base, I dv] fun due => Q (.nxt (("due", due) :: ("both", I b') :: ("rest", I r') :: ρD x a b c rest both dv base n d)) := by kernel_rfl
variable (e f g : Int)
noncomputable abbrev ρE : Rho := ("due", L3 e f g) :: ρD x a b c rest both dv base n d
noncomputable abbrev if4 : Stmt := (fbW w).getD 4 default
noncomputable def cmpL : Expr → Expr
  | .Compare l _ _ _ => l
  | _ => default
noncomputable def cmpR : Expr → Expr
  | .Compare _ _ (r :: _) _ => r
  | _ => default
noncomputable def ifTest : Stmt → Expr
  | .If t _ _ _ => t
  | _ => default
noncomputable abbrev cmp4 : Expr := ifTest ((ifElse (if4 w)).getD 0 default)
theorem lb4 : wpS w hB p k (envW w L) 20 (((fbW w).drop 4).take 1) (ρE x a b c rest both dv base n d e f g) Q =
    condP (d == 3)
      (guardF (decide (1000 < 3)) (((6 : Int) ≠ 0 ∧ (6 : Int).natAbs < 1073741824) ∧ CallSpec w hB p k (.ref 149) [L3 a b c, .tup [.str "\n", .str "\r", .str "\r\n"], I (x.fdiv 6)] fun m1 => CallSpec w hB p k (.ref 139) [m1] fun m2 =>
        guardF (decide (1000 < 1)) (CallSpec w hB p k (.ref 149) [L3 e f g, .tup [.str "\r\n"], I 0] fun m3 => litC .NotEq m2 m3 fun t => condP t (Q (.ret (.sc (.bool false)))) (Q (.nxt (ρE x a b c rest both dv base n d e f g))))))
      (EvalSpec w hB p k (envW w L) (cmpL (cmp4 w)) (ρE x a b c rest both dv base n d e f g) fun l1 => EvalSpec w hB p k (envW w L) (cmpR (cmp4 w)) (ρE x a b c rest both dv base n d e f g) fun l2 => litC .NotEq l1 l2 fun t =>
        condP t (Q (.ret (.sc (.bool false)))) (Q (.nxt (ρE x a b c rest both dv base n d e f g)))) := by kernel_rfl
theorem lb5 : wpS w hB p k (envW w L) 20 ((fbW w).drop 5) (ρE x a b c rest both dv base n d e f g) Q =
    CallSpec w hB p k (.ref 59) [L3 e f g, I n] fun whole => CallSpec w hB p k (.ref 52) [whole, I n] fun f1 => CallSpec w hB p k (.ref 166) [L3 e f g] fun f2 => litC .NotEq f1 f2 fun t => condP t
      (condP true (Q (.ret (.sc (.bool false)))) (Q (.nxt (("parts", L3 e f g) :: ("whole", whole) :: ρE x a b c rest both dv base n d e f g))))
      (CallSpec w hB p k (.ref 73) [whole, I dv] fun dm => itemSpec dm (I 1) fun r => litC .NotEq r (I rest) fun t =>
        condP t (Q (.ret (.sc (.bool false)))) (Q (.nxt (("parts", L3 e f g) :: ("whole", whole) :: ρE x a b c rest both dv base n d e f g)))) := by kernel_rfl
end
end Mine
end

section -- Lc
open PySem PySem.W PyProof.Rows PySem.Calls
namespace Mine
set_option maxRecDepth 100000
set_option linter.unusedVariables false
set_option linter.unusedSimpArgs false
set_option exponentiation.threshold 5000
variable {p : Bool}

noncomputable def comp1 (x : Str) (e : Expr) : Expr := .ListComp (cElt e) [⟨.Name x (cTgtPos e), cIter e, [], 0⟩] (cScope e) (cPos e)
noncomputable def scaled (x : UInt64) : UInt64 := Float64.mul x (Float64.ofInt 16777216)
noncomputable def roundI (x : UInt64) : Int := PySem.Flt.toInt Float64.nearestOf (scaled x)
section
variable (w : World) (hB : Heap) (k : Nat) (L : Ln) (x a b c rest both dv base n d e f g : Int) (R : V → Prop)
theorem lc_l : cmpL (cmp4 w) = comp1 "part" (cmpL (cmp4 w)) := by kernel_rfl
theorem lc_r : cmpR (cmp4 w) = comp1 "part" (cmpR (cmp4 w)) := by kernel_rfl
theorem lc_li : wpE w hB p k (envW w L) 6 (cIter (cmpL (cmp4 w))) (ρE x a b c rest both dv base n d e f g) R = CallSpec w hB p k (.ref 144) [L3 a b c, I d] R := by kernel_rfl
theorem lc_ri : wpE w hB p k (envW w L) 6 (cIter (cmpR (cmp4 w))) (ρE x a b c rest both dv base n d e f g) R = R (L3 e f g) := by kernel_rfl
theorem lc_le (C : Addr) (cl : List (Str × Addr)) (y : UInt64) : wpE w hB p k (compEnvC (cScope (cmpL (cmp4 w))) cl C (envW w L)) 6 (cElt (cmpL (cmp4 w))) [("part", F y)] R =
    ((16777216 : Int).natAbs < 2 ^ 1023 ∧ guardF (!Float64.isFinite (scaled y)) (R (I (roundI y)))) := by kernel_rfl
theorem lc_re (C : Addr) (cl : List (Str × Addr)) (i : Int) : wpE w hB p k (compEnvC (cScope (cmpR (cmp4 w))) cl C (envW w L)) 6 (cElt (cmpR (cmp4 w))) [("part", I i)] R =
    (IntMulOk i 1048576 ∧ R (I (i * 1048576))) := by kernel_rfl
end
set_option maxHeartbeats 1000000 in
theorem comp_soundP {w : World} {hB : Heap} {k : Nat} {env : Env} (ok : EnvOk env) {scope : Scope} {cl : List (Str × Addr)} {x : Str} {px : Pos} {iter : Expr} {pos : Pos} {ρ ρc : Rho} (hc : CompOk env scope cl x ρ ρc) {elt : Expr} (f : Sc → Sc) (P : List Sc → Prop) (hszP : ∀ l, P l → l.length ≤ 1000)
    (hiter : EvalSpec w hB p k env iter ρ (fun d => ∃ l, (d = .lst l ∨ d = .tup l) ∧ P l))
    (heltP : ∀ l, P l → ∀ a ∈ l, ∀ C, EvalSpec w hB true k (compEnvC scope cl C env) elt ((x, .sc a) :: ρc) (fun d => d = .sc (f a)))
    (hs : ∀ x, foldedSetIterable iter env x = pure x) {Q : V → Prop} (hQP : ∀ l, P l → Q (.lst (l.map f))) :
    EvalSpec w hB p k env (.ListComp elt [⟨.Name x px, iter, [], 0⟩] scope pos) ρ Q := by
  intro s g fm A r E R hR
  refine wpAny_ListComp_free (fun _ => true) (CompF [] f) hc.clos hc.cell hc.kind hc.names hc.hx ?_ hs
  refine hiter s g fm A r E _ fun v d h₁ t₁ k1 g1 i1 q1 => ?_
  have fm1 := fm.keep g k1
  obtain ⟨l, q1, hPl⟩ := q1
  have hsz := hszP l hPl
  have helt := heltP l hPl
  have hQ := hQP l hPl
  have fin : ∀ (vs : List Value) (h' : Heap) (tk : Nat) (D : Addr) (ys : Array Value) (us : List Value) (T : String) (a : Addr), ScsAre l vs → us.length = vs.toArray.size → (∀ (j : Nat) (v : Value), us[j]? = some v → vs.toArray[j]? = some v) →
      (h₁.push { cls := .type T, data := .fields #[.ref a, .int 0 0] }).get? D = none → h'.IsList D ys → Paired (CompF l f) (us.filter fun _ => true) ys.toList →
      (∀ b o, b ∉ [h₁.objs.size] → (h₁.push { cls := .type T, data := .fields #[.ref a, .int 0 0] }).get? b = some o → h'.get? b = some o) → R (.ref D) { s with heap := h', toks := tk } := by
    intro vs h' tk D ys us T a hsv hul hus hD hl hP hk
    obtain ⟨kk, g3⟩ := iter_good g1 hk
    have huv : us = vs := by
      apply List.ext_getElem?
      intro j
      by_cases hj : j < us.length
      · have := hus j us[j] (List.getElem?_eq_getElem hj)
        rw [List.getElem?_eq_getElem hj]
        simpa using this.symm
      · rw [List.getElem?_eq_none (by lia), List.getElem?_eq_none (by simp at hul; lia)]
    subst huv
    have hf : us.filter (fun _ => true) = us := by simp
    rw [hf] at hP
    refine hR _ (.lst (l.map f)) h' tk (k1.trans (.of_all kk)) g3 ⟨D, ys.toList, rfl, by simpa using hl, comp_paired hsv hP⟩ hQ
  rcases q1 with rfl | rfl
  · obtain ⟨a, vs, rfl, hl, hsv⟩ := i1
    have hlen := hsv.length
    have hlt : a ≠ h₁.objs.size := by obtain ⟨o, ho, _⟩ := hl; exact Nat.ne_of_lt (Heap.lt_size ho)
    refine wpAny_pyIter_list hl ?_
    refine ⟨_, _, _, _, _, _, rfl, Walks.list (A := A) r.1 _ a hlt vs.toArray, ?_, ⟨⟨_, Heap.get?_push_size _ rfl, rfl, rfl⟩, hl.push _⟩, ?_, comp_quiet ok hc hsv helt r g1 fm1 rfl, ?_⟩
    · simp; exact Nat.le_trans (by lia) (show 1000 ≤ sizeLine by decide)
    · intro b hb
      show b < (h₁.push _).objs.size
      rw [Heap.size_push]
      rcases List.mem_cons.mp hb with rfl | hb
      · exact Nat.lt_succ_self _
      · rcases List.mem_cons.mp hb with rfl | hb
        · obtain ⟨o, ho, _⟩ := hl; exact Nat.lt_succ_of_lt (Heap.lt_size ho)
        · cases hb
    · intro D h' tk ys us hD hl' _ hul hus hP hk
      exact fin vs h' tk D ys us _ a hsv hul hus hD hl' hP hk
  · obtain ⟨a, vs, rfl, hl, hsv⟩ := i1
    have hlen := hsv.length
    have hlt : a ≠ h₁.objs.size := by obtain ⟨o, ho, _⟩ := hl; exact Nat.ne_of_lt (Heap.lt_size ho)
    refine wpAny_pyIter_tuple hl ?_
    refine ⟨_, _, _, _, _, _, rfl, Walks.tuple (A := A) r.1 _ a hlt vs.toArray, ?_, ⟨⟨_, Heap.get?_push_size _ rfl, rfl, rfl⟩, hl.push _⟩, ?_, comp_quiet ok hc hsv helt r g1 fm1 rfl, ?_⟩
    · simp; exact Nat.le_trans (by lia) (show 1000 ≤ sizeLine by decide)
    · intro b hb
      show b < (h₁.push _).objs.size
      rw [Heap.size_push]
      rcases List.mem_cons.mp hb with rfl | hb
      · exact Nat.lt_succ_self _
      · rcases List.mem_cons.mp hb with rfl | hb
        · obtain ⟨o, ho, _⟩ := hl; exact Nat.lt_succ_of_lt (Heap.lt_size ho)
        · cases hb
    · intro D h' tk ys us hD hl' _ hul hus hP hk
      exact fin vs h' tk D ys us _ a hsv hul hus hD hl' hP hk

noncomputable def rndS : Sc → Sc
  | .flt x => .int (roundI x)
  | a => a
noncomputable def sclS : Sc → Sc
  | .int i => .int (i * 1048576)
  | a => a
/-- the moved colour is the one that is due -/
noncomputable def MovedTo (d0 d1 d2 : Int) (v : V) : Prop := ∃ x y z : UInt64, v = .tup [.flt x, .flt y, .flt z] ∧ (Float64.isFinite (scaled x) = true ∧ Float64.isFinite (scaled y) = true ∧ Float64.isFinite (scaled z) = true) ∧
  roundI x = d0 * 1048576 ∧ roundI y = d1 * 1048576 ∧ roundI z = d2 * 1048576
theorem natAbs24 : (16777216 : Int).natAbs < 2 ^ 1023 := by
  show 16777216 < 2 ^ 1023
  exact Nat.lt_of_lt_of_le (show 16777216 < 2 ^ 25 by decide) (Nat.pow_le_pow_right (by decide) (by decide))

theorem lc_left {w : World} {hB : Heap} {mg mb : Str → Option Value} (B : Bs w hB mg mb) {k : Nat} {L : Ln} (ok : EnvOk (envW w L)) {x a b c rest both dv base n d e f g : Int} {Q : V → Prop}
    (hc : ∀ R : V → Prop, (∀ v, MovedTo e f g v → R v) → CallSpec w hB p k (.ref 144) [L3 a b c, I d] R) (hQ : Q (L3 (e * 1048576) (f * 1048576) (g * 1048576))) :
    EvalSpec w hB p k (envW w L) (cmpL (cmp4 w)) (ρE x a b c rest both dv base n d e f g) Q := by
  rw [lc_l]
  refine comp_soundP ok (ρc := []) (cl := []) (compOk0 (by kernel_rfl) (by kernel_rfl)) rndS (fun l => MovedTo e f g (.tup l)) ?_ ?_ ?_ (fun v => by kernel_rfl) ?_
  · rintro l ⟨x, y, z, h, _⟩
    cases h; simp
  · refine (wpE_sound B ok 6).1 _ _ _ ?_
    rw [lc_li]
    refine hc _ fun v hv => ?_
    obtain ⟨x, y, z, rfl, h⟩ := hv
    exact ⟨_, .inr rfl, x, y, z, rfl, h⟩
  · rintro l ⟨x, y, z, h, ⟨h1, h2, h3⟩, _⟩ q hq C
    cases h
    have okc : EnvOk (compEnvC (cScope (cmpL (cmp4 w))) [] C (envW w L)) := ⟨by kernel_rfl, by kernel_rfl, by kernel_rfl⟩
    refine (wpE_sound B okc 6).1 _ _ _ ?_
    have : ∃ i : UInt64, q = .flt i ∧ Float64.isFinite (scaled i) = true := by
      simp only [List.mem_cons, List.mem_nil_iff, or_false] at hq
      rcases hq with rfl | rfl | rfl
      · exact ⟨_, rfl, h1⟩
      · exact ⟨_, rfl, h2⟩
      · exact ⟨_, rfl, h3⟩
    obtain ⟨i, rfl, hi⟩ := this
    show wpE _ _ _ _ _ 6 _ [("part", F i)] _
    rw [lc_le]
    exact ⟨natAbs24, guardF_in (by rw [hi]; rfl) rfl⟩
  · rintro l ⟨x, y, z, h, _, h1, h2, h3⟩
    cases h
    show Q (.lst [.int (roundI x), .int (roundI y), .int (roundI z)])
    rw [h1, h2, h3]; exact hQ
theorem lc_right {w : World} {hB : Heap} {mg mb : Str → Option Value} (B : Bs w hB mg mb) {k : Nat} {L : Ln} (ok : EnvOk (envW w L)) {x a b c rest both dv base n d e f g : Int} (he : 0 ≤ e ∧ e ≤ 16) (hf : 0 ≤ f ∧ f ≤ 16) (hg : 0 ≤ g ∧ g ≤ 16) {Q : V → Prop}
    (hQ : Q (L3 (e * 1048576) (f * 1048576) (g * 1048576))) :
    EvalSpec w hB p k (envW w L) (cmpR (cmp4 w)) (ρE x a b c rest both dv base n d e f g) Q := by
  rw [lc_r]
  refine comp_sound ok (ρc := []) (cl := []) (compOk0 (by kernel_rfl) (by kernel_rfl)) sclS [.int e, .int f, .int g] (by simp) ?_ ?_ (fun v => by kernel_rfl) hQ
  · refine (wpE_sound B ok 6).1 _ _ _ ?_
    rw [lc_ri]; exact .inl rfl
  · intro q hq C
    have okc : EnvOk (compEnvC (cScope (cmpR (cmp4 w))) [] C (envW w L)) := ⟨by kernel_rfl, by kernel_rfl, by kernel_rfl⟩
    refine (wpE_sound B okc 6).1 _ _ _ ?_
    have : ∃ i : Int, q = .int i ∧ 0 ≤ i ∧ i ≤ 16 := by
      simp only [List.mem_cons, List.mem_nil_iff, or_false] at hq
      rcases hq with rfl | rfl | rfl
      · exact ⟨_, rfl, he⟩
      · exact ⟨_, rfl, hf⟩
      · exact ⟨_, rfl, hg⟩
    obtain ⟨i, rfl, hi⟩ := this
    show wpE _ _ _ _ _ 6 _ [("part", I i)] _
    rw [lc_re]
    exact ⟨.of_left (Nat.le_trans (bits_le (m := 10) hi.1 (by norm_cast; lia)) (by decide)), rfl⟩
end Mine
end

section -- Pl
open PySem PySem.W PyProof.Rows PySem.Calls
namespace Mine
set_option maxRecDepth 100000
set_option linter.unusedVariables false
set_option linter.unusedSimpArgs false
set_option exponentiation.threshold 5000

noncomputable def whole3 (B a b c : Int) : Int := a + b * B + c * B * B
noncomputable def dueOf (d a b c : Int) : Int × Int × Int :=
  if d = 0 then (imax3 a b c + imin3 a b c - b, imax3 a b c + imin3 a b c - c, imax3 a b c + imin3 a b c - a)
  else if d = 1 then (imax3 a b c + imin3 a b c - c, imax3 a b c + imin3 a b c - a, imax3 a b c + imin3 a b c - b)
  else if d = 2 then (a + 16 - (imax3 a b c + imin3 a b c), b + 16 - (imax3 a b c + imin3 a b c), c + 16 - (imax3 a b c + imin3 a b c))
  else if d = 3 then (a + isOne a, b + isOne b, c + isOne c)
  else if d = 4 then (16 - a, 16 - b, 16 - c)
  else (imax3 a b c + imin3 a b c - a, imax3 a b c + imin3 a b c - b, imax3 a b c + imin3 a b c - c)

theorem id0 (B a b c M : Int) : whole3 B a b c * (B + 1) = whole3 B (M - b) (M - c) (M - a) + (B * B + B + 1) * (a + b + c * B - M) := by unfold whole3; grind
theorem id1 (B a b c M : Int) : -B * whole3 B a b c = whole3 B (M - c) (M - a) (M - b) + (B * B + B + 1) * (c - c * B - M) := by unfold whole3; grind
theorem id2 (B a b c t : Int) : whole3 B a b c = whole3 B (a + t) (b + t) (c + t) + (B * B + B + 1) * (-t) := by unfold whole3; grind
theorem id4 (B a b c t : Int) : -whole3 B a b c = whole3 B (t - a) (t - b) (t - c) + (B * B + B + 1) * (-t) := by unfold whole3; grind
theorem id3 (B a b c x y z : Int) : whole3 B a b c + x + y * B + z * B * B = whole3 B (a + x) (b + y) (c + z) := by unfold whole3; grind

theorem mod_same {D x y q : Int} (h : x = y + D * q) : x % D = y % D := by rw [h, Int.add_mul_emod_self_left]
theorem mul_mod {D r w k : Int} (h : r = w % D) : (r * k) % D = (w * k) % D := by
  subst h
  rw [Int.mul_emod, Int.emod_emod_of_dvd _ (Int.dvd_refl D), ← Int.mul_emod]
theorem add_mod {D r w k : Int} (h : r = w % D) : (r + k) % D = (w + k) % D := by
  subst h
  rw [Int.emod_add_emod]
theorem neg_mod {D r w : Int} (h : r = w % D) : (-r) % D = (-w) % D := by
  have := mul_mod (k := -1) h
  simpa using this

theorem max_neg (t a b c : Int) : imax3 (t - a) (t - b) (t - c) = t - imin3 a b c := by unfold imax3 imin3; (repeat' split) <;> lia
theorem min_neg (t a b c : Int) : imin3 (t - a) (t - b) (t - c) = t - imax3 a b c := by unfold imax3 imin3; (repeat' split) <;> lia
theorem max_add (t a b c : Int) : imax3 (a + t) (b + t) (c + t) = imax3 a b c + t := by unfold imax3; (repeat' split) <;> lia
theorem min_add (t a b c : Int) : imin3 (a + t) (b + t) (c + t) = imin3 a b c + t := by unfold imin3; (repeat' split) <;> lia
theorem max_rot (a b c : Int) : imax3 b c a = imax3 a b c := by unfold imax3; (repeat' split) <;> lia
theorem min_rot (a b c : Int) : imin3 b c a = imin3 a b c := by unfold imin3; (repeat' split) <;> lia
theorem max_is (a b c : Int) : (imax3 a b c = a ∨ imax3 a b c = b ∨ imax3 a b c = c) ∧ a ≤ imax3 a b c ∧ b ≤ imax3 a b c ∧ c ≤ imax3 a b c := by unfold imax3; (repeat' split) <;> lia
theorem min_is (a b c : Int) : (imin3 a b c = a ∨ imin3 a b c = b ∨ imin3 a b c = c) ∧ imin3 a b c ≤ a ∧ imin3 a b c ≤ b ∧ imin3 a b c ≤ c := by unfold imin3; (repeat' split) <;> lia
theorem one_mono {x y : Int} (h : x ≤ y) : isOne x ≤ isOne y := by unfold isOne; (repeat' split) <;> lia
theorem max_eq {a b c m : Int} (h1 : m = a ∨ m = b ∨ m = c) (h2 : a ≤ m) (h3 : b ≤ m) (h4 : c ≤ m) : imax3 a b c = m := by
  have := max_is a b c; lia
theorem min_eq {a b c m : Int} (h1 : m = a ∨ m = b ∨ m = c) (h2 : m ≤ a) (h3 : m ≤ b) (h4 : m ≤ c) : imin3 a b c = m := by
  have := min_is a b c; lia
theorem max_one (a b c : Int) : imax3 (isOne a) (isOne b) (isOne c) = isOne (imax3 a b c) := by
  obtain ⟨h1, h2, h3, h4⟩ := max_is a b c
  refine max_eq ?_ (one_mono h2) (one_mono h3) (one_mono h4)
  rcases h1 with h | h | h <;> simp [h]
theorem min_one (a b c : Int) : imin3 (isOne a) (isOne b) (isOne c) = isOne (imin3 a b c) := by
  obtain ⟨h1, h2, h3, h4⟩ := min_is a b c
  refine min_eq ?_ (one_mono h2) (one_mono h3) (one_mono h4)
  rcases h1 with h | h | h <;> simp [h]
theorem max_put (a b c : Int) : imax3 (a + isOne a) (b + isOne b) (c + isOne c) = imax3 a b c + isOne (imax3 a b c) := by
  obtain ⟨h1, h2, h3, h4⟩ := max_is a b c
  refine max_eq ?_ (Int.add_le_add h2 (one_mono h2)) (Int.add_le_add h3 (one_mono h3)) (Int.add_le_add h4 (one_mono h4))
  rcases h1 with h | h | h <;> simp [h]
theorem min_put (a b c : Int) : imin3 (a + isOne a) (b + isOne b) (c + isOne c) = imin3 a b c + isOne (imin3 a b c) := by
  obtain ⟨h1, h2, h3, h4⟩ := min_is a b c
  refine min_eq ?_ (Int.add_le_add h2 (one_mono h2)) (Int.add_le_add h3 (one_mono h3)) (Int.add_le_add h4 (one_mono h4))
  rcases h1 with h | h | h <;> simp [h]

/-- what the figures stand for, and the top and bottom -/
structure Stt (B D a b c rest both : Int) : Prop where
  ha : 0 ≤ a ∧ a ≤ 16
  hb : 0 ≤ b ∧ b ≤ 16
  hc : 0 ≤ c ∧ c ≤ 16
  hr : rest = whole3 B a b c % D
  hM : both = imax3 a b c + imin3 a b c

theorem bd1 {M m x : Int} (h0 : 0 ≤ m) (h1 : M ≤ 16) (a1 : m ≤ x) (a2 : x ≤ M) : 0 ≤ M + m - x ∧ M + m - x ≤ 16 := ⟨by lia, by lia⟩
theorem bd2 {M m x : Int} (h0 : 0 ≤ m) (h1 : M ≤ 16) (a1 : m ≤ x) (a2 : x ≤ M) : 0 ≤ x + 16 - (M + m) ∧ x + 16 - (M + m) ≤ 16 := ⟨by lia, by lia⟩
theorem bd4 {x : Int} (a : 0 ≤ x ∧ x ≤ 16) : 0 ≤ 16 - x ∧ 16 - x ≤ 16 := ⟨by lia, by lia⟩
theorem bd_max {a b c : Int} (ha : 0 ≤ a ∧ a ≤ 16) (hb : 0 ≤ b ∧ b ≤ 16) (hc : 0 ≤ c ∧ c ≤ 16) : (0 ≤ imax3 a b c ∧ imax3 a b c ≤ 16) ∧ 0 ≤ imin3 a b c ∧ imin3 a b c ≤ 16 := by
  obtain ⟨x1, x2, x3, x4⟩ := max_is a b c
  obtain ⟨n1, n2, n3, n4⟩ := min_is a b c
  refine ⟨⟨by lia, ?_⟩, ?_, by lia⟩
  · rcases x1 with h | h | h <;> rw [h]
    · exact ha.2
    · exact hb.2
    · exact hc.2
  · rcases n1 with h | h | h <;> rw [h]
    · exact ha.1
    · exact hb.1
    · exact hc.1
theorem swap_sum (M m : Int) : M + m = M + m - m + (M + m - M) := by lia
theorem next_due {B D a b c rest both d : Int} (hD : D = B * B + B + 1) (h : Stt B D a b c rest both) (hd : 0 ≤ d ∧ d < 6) (h3 : d = 3 → imax3 a b c ≠ 16) :
    Stt B D (dueOf d a b c).1 (dueOf d a b c).2.1 (dueOf d a b c).2.2 (nextR rest both a b c d B D).1 (nextR rest both a b c d B D).2 := by
  obtain ⟨ha, hb, hc, hr, hM⟩ := h
  obtain ⟨⟨_, M16⟩, m0, _⟩ := bd_max ha hb hc
  obtain ⟨x1, x2, x3, x4⟩ := max_is a b c
  obtain ⟨n1, n2, n3, n4⟩ := min_is a b c
  rcases (show d = 0 ∨ d = 1 ∨ d = 2 ∨ d = 3 ∨ d = 4 ∨ d = 5 by lia) with rfl | rfl | rfl | rfl | rfl | rfl
  · refine ⟨?_, ?_, ?_, ?_, ?_⟩
    · exact bd1 m0 M16 n3 x3
    · exact bd1 m0 M16 n4 x4
    · exact bd1 m0 M16 n2 x2
    · show (rest * (B + 1)) % D = whole3 B (imax3 a b c + imin3 a b c - b) (imax3 a b c + imin3 a b c - c) (imax3 a b c + imin3 a b c - a) % D
      rw [mul_mod hr]
      exact mod_same (by rw [hD]; exact id0 ..)
    · show both = imax3 (imax3 a b c + imin3 a b c - b) (imax3 a b c + imin3 a b c - c) (imax3 a b c + imin3 a b c - a) + imin3 (imax3 a b c + imin3 a b c - b) (imax3 a b c + imin3 a b c - c) (imax3 a b c + imin3 a b c - a)
      rw [hM, max_neg, min_neg, max_rot a b c, min_rot a b c]; exact swap_sum ..
  · refine ⟨?_, ?_, ?_, ?_, ?_⟩
    · exact bd1 m0 M16 n4 x4
    · exact bd1 m0 M16 n2 x2
    · exact bd1 m0 M16 n3 x3
    · show (-B * rest) % D = whole3 B (imax3 a b c + imin3 a b c - c) (imax3 a b c + imin3 a b c - a) (imax3 a b c + imin3 a b c - b) % D
      rw [Int.mul_comm, mul_mod hr, Int.mul_comm]
      exact mod_same (by rw [hD]; exact id1 ..)
    · show both = imax3 (imax3 a b c + imin3 a b c - c) (imax3 a b c + imin3 a b c - a) (imax3 a b c + imin3 a b c - b) + imin3 (imax3 a b c + imin3 a b c - c) (imax3 a b c + imin3 a b c - a) (imax3 a b c + imin3 a b c - b)
      rw [hM, max_neg, min_neg, max_rot c a b, min_rot c a b]; exact swap_sum ..
  · refine ⟨?_, ?_, ?_, ?_, ?_⟩
    · exact bd2 m0 M16 n2 x2
    · exact bd2 m0 M16 n3 x3
    · exact bd2 m0 M16 n4 x4
    · show rest = whole3 B (a + 16 - (imax3 a b c + imin3 a b c)) (b + 16 - (imax3 a b c + imin3 a b c)) (c + 16 - (imax3 a b c + imin3 a b c)) % D
      rw [hr]
      refine mod_same (q := -(16 - (imax3 a b c + imin3 a b c))) ?_
      rw [hD, Int.add_sub_assoc, Int.add_sub_assoc, Int.add_sub_assoc]
      exact id2 ..
    · show 32 - both = imax3 (a + 16 - (imax3 a b c + imin3 a b c)) (b + 16 - (imax3 a b c + imin3 a b c)) (c + 16 - (imax3 a b c + imin3 a b c)) + imin3 (a + 16 - (imax3 a b c + imin3 a b c)) (b + 16 - (imax3 a b c + imin3 a b c)) (c + 16 - (imax3 a b c + imin3 a b c))
      rw [hM, Int.add_sub_assoc, Int.add_sub_assoc, Int.add_sub_assoc, max_add, min_add]; lia
  · have h16 := h3 rfl
    have o1 := one_mono x2
    have oa := isOne_bd ha.1
    have ob := isOne_bd hb.1
    have oc := isOne_bd hc.1
    refine ⟨?_, ?_, ?_, ?_, ?_⟩
    · show 0 ≤ a + isOne a ∧ a + isOne a ≤ 16; lia
    · show 0 ≤ b + isOne b ∧ b + isOne b ≤ 16; lia
    · show 0 ≤ c + isOne c ∧ c + isOne c ≤ 16; lia
    · show (rest + isOne a + isOne b * B + isOne c * B * B) % D = whole3 B (a + isOne a) (b + isOne b) (c + isOne c) % D
      rw [Int.add_assoc, Int.add_assoc, add_mod hr, ← Int.add_assoc, ← Int.add_assoc, id3]
    · show both + imax3 (isOne a) (isOne b) (isOne c) + imin3 (isOne a) (isOne b) (isOne c) = imax3 (a + isOne a) (b + isOne b) (c + isOne c) + imin3 (a + isOne a) (b + isOne b) (c + isOne c)
      rw [hM, max_one, min_one, max_put, min_put]; lia
  · refine ⟨?_, ?_, ?_, ?_, ?_⟩
    · exact bd4 ha
    · exact bd4 hb
    · exact bd4 hc
    · show (-rest) % D = whole3 B (16 - a) (16 - b) (16 - c) % D
      rw [neg_mod hr]
      exact mod_same (by rw [hD]; exact id4 ..)
    · show 32 - both = imax3 (16 - a) (16 - b) (16 - c) + imin3 (16 - a) (16 - b) (16 - c)
      rw [hM, max_neg, min_neg]; lia
  · refine ⟨?_, ?_, ?_, ?_, ?_⟩
    · exact bd1 m0 M16 n2 x2
    · exact bd1 m0 M16 n3 x3
    · exact bd1 m0 M16 n4 x4
    · show (-rest) % D = whole3 B (imax3 a b c + imin3 a b c - a) (imax3 a b c + imin3 a b c - b) (imax3 a b c + imin3 a b c - c) % D
      rw [neg_mod hr]
      exact mod_same (by rw [hD]; exact id4 ..)
    · show both = imax3 (imax3 a b c + imin3 a b c - a) (imax3 a b c + imin3 a b c - b) (imax3 a b c + imin3 a b c - c) + imin3 (imax3 a b c + imin3 a b c - a) (imax3 a b c + imin3 a b c - b) (imax3 a b c + imin3 a b c - c)
      rw [hM, max_neg, min_neg]; exact swap_sum ..
end Mine
end

section -- Pr
open PySem PySem.W PyProof.Rows PySem.Calls
namespace Mine
set_option maxRecDepth 100000
set_option linter.unusedVariables false
set_option linter.unusedSimpArgs false
set_option exponentiation.threshold 5000

theorem idR (B a b c : Int) : whole3 B a b c = ((a - c) + (b - c) * B) + (B * B + B + 1) * c := by unfold whole3; grind
theorem near_is {B D a b c rest both : Int} (h256 : 256 ≤ B) (hD : D = B * B + B + 1) (h : Stt B D a b c rest both) : near rest D = (a - c) + (b - c) * B := by
  obtain ⟨⟨a1, a2⟩, ⟨b1, b2⟩, ⟨c1, c2⟩, hr, hM⟩ := h
  have hBB : 256 * B ≤ B * B := Int.mul_le_mul_of_nonneg_right h256 (by lia)
  have q1 : (b - c) * B ≤ 16 * B := Int.mul_le_mul_of_nonneg_right (by lia) (by lia)
  have q2 : (-16) * B ≤ (b - c) * B := Int.mul_le_mul_of_nonneg_right (by lia) (by lia)
  rw [idR, ← hD] at hr
  rw [Int.add_mul_emod_self_left] at hr
  generalize hv : (a - c) + (b - c) * B = v at *
  have hDp : 0 < D := by lia
  have v1 : v ≤ 16 + 16 * B := by lia
  have v2 : -(16 + 16 * B) ≤ v := by lia
  unfold near
  by_cases h0 : 0 ≤ v
  · have : rest = v := by rw [hr]; exact Int.emod_eq_of_lt h0 (by lia)
    rw [if_neg (by lia)]; exact this
  · have : rest = v + D := by
      rw [hr, ← Int.add_emod_right]
      exact Int.emod_eq_of_lt (by lia) (by lia)
    rw [if_pos (by lia)]; lia
theorem read_back {B D a b c rest both h : Int} (h256 : 256 ≤ B) (he : B = 2 * h) (hD : D = B * B + B + 1) (s : Stt B D a b c rest both) : readR rest both B D = (a, b, c) := by
  have hn := near_is h256 hD s
  obtain ⟨⟨a1, a2⟩, ⟨b1, b2⟩, ⟨c1, c2⟩, hr, hM⟩ := s
  have hh : B / 2 = h := by lia
  have em := (Int.ediv_emod_unique (a := (a - c) + (b - c) * B + h) (b := B) (r := (a - c) + h) (q := b - c) (by lia)).mpr ⟨by rw [Int.mul_comm B (b - c)]; lia, by lia, by lia⟩
  unfold readR
  rw [hn, hh]
  dsimp only
  rw [em.1, em.2]
  have e1 : a - c + h - h = a + -c := by lia
  have e2 : imax3 (a + -c) (b - c) 0 = imax3 a b c + -c := by
    have := max_add (-c) a b c
    rw [show c + -c = 0 by lia] at this
    rw [← this, Int.sub_eq_add_neg]
  have e3 : imin3 (a + -c) (b - c) 0 = imin3 a b c + -c := by
    have := min_add (-c) a b c
    rw [show c + -c = 0 by lia] at this
    rw [← this, Int.sub_eq_add_neg]
  rw [e1, e2, e3, hM]
  have e4 : (imax3 a b c + imin3 a b c - (imax3 a b c + -c) - (imin3 a b c + -c)) / 2 = c := by lia
  rw [e4]
  ext <;> simp <;> lia
end Mine
end

section -- Pd
open PySem PySem.W PyProof.Rows PySem.Calls
namespace Mine
set_option maxRecDepth 100000
set_option linter.unusedVariables false
set_option linter.unusedSimpArgs false
set_option exponentiation.threshold 5000

theorem len_is {n x j : Nat} (hn : 0 < n) (h1 : 2 ^ (n * j) ≤ x) (h2 : x < 2 ^ (n * (j + 1))) : (Builtin.Int.intBits (x : Int) + n - 1) / n = j + 1 := by
  have hb := nat_bits x
  have hu : Builtin.Int.intBits (x : Int) ≤ n * (j + 1) := bits_le (Int.natCast_nonneg _) (by exact_mod_cast h2)
  have hl : n * j < Builtin.Int.intBits (x : Int) := by
    rcases Nat.lt_or_ge (n * j) (Builtin.Int.intBits (x : Int)) with q | q
    · exact q
    · have := Nat.pow_le_pow_right (show 0 < 2 by decide) q
      lia
  generalize Builtin.Int.intBits (x : Int) = m at *
  have h3 : n * (j + 1) = n * j + n := Nat.mul_succ n j
  have e : m + n - 1 = (m - n * j - 1) + n * (j + 1) := by lia
  rw [e, Nat.add_mul_div_left _ _ hn, Nat.div_eq_of_lt (by lia)]
  lia
noncomputable def wholeN (n e f g : Nat) : Nat := e + 2 ^ n * (f + 2 ^ n * g)
theorem val3 (n e f g : Nat) : valD n [(e : Int), (f : Int), (g : Int)] = (wholeN n e f g : Nat) := by
  unfold wholeN
  simp only [valD]
  push_cast
  grind
theorem whole3_N (n e f g : Nat) : whole3 ((2 ^ n : Nat) : Int) e f g = (wholeN n e f g : Nat) := by
  unfold wholeN whole3
  push_cast
  grind
theorem digs3 {n e f g : Nat} (hn : 8 ≤ n) (he : e ≤ 16) (hf : f ≤ 16) (hg : g ≤ 16) : (Builtin.Int.intBits (wholeN n e f g : Int) + n - 1) / n ≤ 4 ∧
    digs n ((Builtin.Int.intBits (wholeN n e f g : Int) + n - 1) / n) (wholeN n e f g) = strip0 [(e : Int), (f : Int), (g : Int)] := by
  have hP : 256 ≤ 2 ^ n := Nat.le_trans (by decide) (Nat.pow_le_pow_right (show 0 < 2 by decide) hn)
  have m1 : wholeN n e f g % 2 ^ n = e := by
    unfold wholeN
    rw [Nat.add_mul_mod_self_left]; exact Nat.mod_eq_of_lt (by lia)
  have d1 : wholeN n e f g / 2 ^ n = f + 2 ^ n * g := by
    unfold wholeN
    rw [Nat.add_mul_div_left _ _ (by lia), Nat.div_eq_of_lt (by lia)]; lia
  have m2 : (f + 2 ^ n * g) % 2 ^ n = f := by
    rw [Nat.add_mul_mod_self_left]; exact Nat.mod_eq_of_lt (by lia)
  have d2 : (f + 2 ^ n * g) / 2 ^ n = g := by
    rw [Nat.add_mul_div_left _ _ (by lia), Nat.div_eq_of_lt (by lia)]; lia
  have m3 : g % 2 ^ n = g := Nat.mod_eq_of_lt (by lia)
  have p2 : 2 ^ (n * 2) = 2 ^ n * 2 ^ n := by rw [← Nat.pow_add]; congr 1; lia
  have p3 : 2 ^ (n * 3) = 2 ^ n * (2 ^ n * 2 ^ n) := by rw [← Nat.pow_add, ← Nat.pow_add]; congr 1; lia
  by_cases g0 : g = 0
  · subst g0
    by_cases f0 : f = 0
    · subst f0
      by_cases e0 : e = 0
      · subst e0
        have hw : wholeN n 0 0 0 = 0 := by simp [wholeN]
        rw [hw]
        have : (Builtin.Int.intBits ((0 : Nat) : Int) + n - 1) / n = 0 := by
          have : Builtin.Int.intBits ((0 : Nat) : Int) = 0 := by decide
          rw [this]; exact Nat.div_eq_of_lt (by lia)
        rw [this]
        exact ⟨by decide, rfl⟩
      · have hw : wholeN n e 0 0 = e := by simp [wholeN]
        have hl := len_is (n := n) (x := wholeN n e 0 0) (j := 0) (by lia) (by rw [hw, Nat.mul_zero]; lia) (by rw [hw, Nat.zero_add, Nat.mul_one]; lia)
        rw [hl]
        refine ⟨by decide, ?_⟩
        simp only [digs, m1]
        simp [strip0]; lia
    · have hw : wholeN n e f 0 = e + 2 ^ n * f := by simp [wholeN]
      have k1 : 2 ^ n * 1 ≤ 2 ^ n * f := Nat.mul_le_mul_left _ (by lia)
      have k2 : 2 ^ n * f ≤ 2 ^ n * 16 := Nat.mul_le_mul_left _ hf
      have k3 : 2 ^ n * 256 ≤ 2 ^ n * 2 ^ n := Nat.mul_le_mul_left _ hP
      have hl := len_is (n := n) (x := wholeN n e f 0) (j := 1) (by lia) (by rw [hw, Nat.mul_one]; lia) (by
        rw [hw]
        show _ < 2 ^ (n * 2)
        rw [p2]; lia)
      rw [hl]
      refine ⟨by decide, ?_⟩
      simp only [digs, m1, d1, m2]
      have f1 : (f : Int) ≠ 0 := by lia
      simp [strip0, f1, f0]
  · have k1 : 2 ^ n * 2 ^ n * 1 ≤ 2 ^ n * 2 ^ n * g := Nat.mul_le_mul_left _ (by lia)
    have hw : wholeN n e f g = e + 2 ^ n * f + 2 ^ n * 2 ^ n * g := by unfold wholeN; rw [Nat.mul_add, Nat.mul_assoc]; lia
    have k2 : 2 ^ n * f ≤ 2 ^ n * 16 := Nat.mul_le_mul_left _ hf
    have k3 : 2 ^ n * 256 ≤ 2 ^ n * 2 ^ n := Nat.mul_le_mul_left _ hP
    have k4 : 2 ^ n * 2 ^ n * g ≤ 2 ^ n * 2 ^ n * 16 := Nat.mul_le_mul_left _ hg
    have k5 : 2 ^ n * 2 ^ n * 256 ≤ 2 ^ n * 2 ^ n * 2 ^ n := Nat.mul_le_mul_left _ hP
    have hl := len_is (n := n) (x := wholeN n e f g) (j := 2) (by lia) (by rw [hw, p2]; lia) (by
        rw [hw]
        show _ < 2 ^ (n * 3)
        rw [p3, ← Nat.mul_assoc]; lia)
    rw [hl]
    refine ⟨by decide, ?_⟩
    simp only [digs, m1, d1, m2, d2, m3]
    have g1 : (g : Int) ≠ 0 := by lia
    simp [strip0, g1, g0]
end Mine
end

section -- Tx
open PySem PySem.W PyProof.Rows PySem.Calls
namespace Mine
set_option maxRecDepth 100000
set_option linter.unusedVariables false
set_option linter.unusedSimpArgs false

noncomputable abbrev strL (x : Str) : List Nat := x.cps.toList
theorem fold_cat : ∀ (ps : List Str) (acc : Array Nat), (ps.foldl (fun acc p => acc ++ ("" : Str).cps ++ p.cps) acc).toList = acc.toList ++ (ps.map strL).flatten
  | [], acc => by simp
  | q :: ps, acc => by
    rw [List.foldl_cons, fold_cat ps]
    have : ("" : Str).cps = #[] := rfl
    simp [this]
theorem join_cat (ps : List Str) : strL (Txt.join "" ps) = (ps.map strL).flatten := by
  cases ps with
  | nil => rfl
  | cons q ps =>
    show (ps.foldl (fun acc p => acc ++ ("" : Str).cps ++ p.cps) q.cps).toList = _
    rw [fold_cat]; rfl

/-! what the two substitutions do to a list of signs -/
noncomputable def brkL : List Nat → List Nat
  | [] => []
  | 13 :: 10 :: r => 13 :: 10 :: brkL r
  | c :: r => if c = 10 ∨ c = 13 then 13 :: 10 :: brkL r else c :: brkL r
noncomputable def dotL : Bool → List Nat → List Nat
  | _, [] => []
  | t, c :: r => if (t && c == 46) = true then 46 :: 46 :: dotL false r else c :: dotL (c == 10) r

theorem getD_lt {text : Array Nat} {s : Nat} (h : s < text.size) : text.toList.drop s = text.getD s 0 :: text.toList.drop (s + 1) := by
  have h' : s < text.toList.length := by simpa using h
  rw [List.drop_eq_getElem_cons h']
  congr 1
  simp [Array.getD, h]
noncomputable def beg (text : Array Nat) (s : Nat) : Bool := s == 0 || text.getD (s - 1) 0 == 10
theorem beg_succ (text : Array Nat) (s : Nat) : beg text (s + 1) = (text.getD s 0 == 10) := by
  unfold beg
  simp
theorem scan1 (text : Array Nat) : ∀ (f s : Nat), s + f = text.size → match find1 text f s with
    | some b => dotL (beg text s) (text.toList.drop s) = (text.toList.drop s).take (b - s) ++ 46 :: 46 :: dotL false (text.toList.drop (b + 1))
    | none => dotL (beg text s) (text.toList.drop s) = text.toList.drop s
  | 0, s, h => by
    unfold find1
    have hd : dotAt text s = false := by unfold dotAt; have : decide (s < text.size) = false := by simp; lia
                                         rw [this]; rfl
    rw [hd]
    have : text.toList.drop s = [] := List.drop_eq_nil_of_le (by simp; lia)
    simp [this, dotL]
  | f + 1, s, h => by
    have hs : s < text.size := by lia
    have ih := scan1 text f (s + 1) (by lia)
    unfold find1
    cases hd : dotAt text s with
    | true =>
      have hd' := hd
      unfold dotAt at hd
      simp only [Bool.and_eq_true] at hd
      simp only [if_true]
      have hb : (beg text s && text.getD s 0 == 46) = true := by unfold beg; rw [hd.1.2, hd.2]; rfl
      have e0 : dotL (beg text s) (text.toList.drop s) = 46 :: 46 :: dotL false (text.toList.drop (s + 1)) := by
        rw [getD_lt hs]
        show (if (beg text s && text.getD s 0 == 46) = true then _ else _) = _
        rw [if_pos hb]
      rw [e0, Nat.sub_self]
      rfl
    | false =>
      have hb : ¬ (beg text s && text.getD s 0 == 46) = true := by
        unfold dotAt at hd
        have : decide (s < text.size) = true := by simp [hs]
        rw [this, Bool.true_and] at hd
        unfold beg
        rw [hd]; simp
      have e0 : dotL (beg text s) (text.toList.drop s) = text.getD s 0 :: dotL (beg text (s + 1)) (text.toList.drop (s + 1)) := by
        rw [getD_lt hs]
        show (if (beg text s && text.getD s 0 == 46) = true then _ else _) = _
        rw [if_neg hb, beg_succ]
      simp only [Bool.false_eq_true, if_false]
      rw [e0]
      cases hf : find1 text f (s + 1) with
      | some b =>
        rw [hf] at ih
        dsimp only at ih ⊢
        obtain ⟨_, hle⟩ := find1_is hf
        rw [ih, show b - s = (b - (s + 1)) + 1 by lia, getD_lt hs, List.take_succ_cons]
        rfl
      | none =>
        rw [hf] at ih
        dsimp only at ih ⊢
        rw [ih, ← getD_lt hs]

theorem extract_list (text : Array Nat) (p b : Nat) : (text.extract p b).toList = (text.toList.drop p).take (b - p) := by
  simp [List.take_drop, Array.toList_extract, List.extract_eq_take_drop]
theorem dots_is {x : Str} : ∀ (k p : Nat), x.cps.size < p + k → p ≤ x.cps.size → ((subP x ".." (next1 x.cps) k p).map strL).flatten = dotL (beg x.cps p) ((strL x).drop p)
  | 0, p, h, h' => by lia
  | k + 1, p, h, h' => by
    unfold subP
    have sc := scan1 x.cps (x.cps.size - p) p (by lia)
    by_cases hp : p < x.cps.size
    · have hn : next1 x.cps p = (find1 x.cps (x.cps.size - p) p).map fun b => (b, b + 1) := by unfold next1; rw [if_pos hp]
      rw [hn]
      cases hf : find1 x.cps (x.cps.size - p) p with
      | none =>
        rw [hf] at sc
        dsimp only at sc
        simp only [Option.map_none]
        rw [if_pos hp, sc]
        simp only [List.map_cons, List.map_nil, List.flatten_cons, List.flatten_nil, List.append_nil]
        show (x.cps.extract p x.cps.size).toList = _
        rw [extract_list, List.take_of_length_le (by simp)]
      | some b =>
        rw [hf] at sc
        dsimp only at sc
        obtain ⟨hb, hle⟩ := find1_is hf
        unfold dotAt at hb
        simp only [Bool.and_eq_true, decide_eq_true_eq] at hb
        simp only [Option.map_some]
        have ih := dots_is (x := x) k (b + 1) (by lia) (by lia)
        rw [sc]
        have hbeg : beg x.cps (b + 1) = false := by rw [beg_succ, eq_of_beq hb.2]; rfl
        rw [hbeg] at ih
        rw [List.map_append, List.flatten_append, List.map_cons, List.flatten_cons, ih]
        by_cases hlt : p < b
        · rw [if_pos hlt]
          simp only [List.map_cons, List.map_nil, List.flatten_cons, List.flatten_nil, List.append_nil]
          show (x.cps.extract p b).toList ++ _ = _
          rw [extract_list]; rfl
        · rw [if_neg hlt]
          have : b - p = 0 := by lia
          rw [this]; rfl
    · have hn : next1 x.cps p = none := by unfold next1; rw [if_neg hp]
      rw [hn]
      have : (strL x).drop p = [] := List.drop_eq_nil_of_le (by simp [strL]; lia)
      rw [this]
      simp [hp, dotL]
theorem sub1_is (x : Str) : strL (sub1 x) = dotL true (strL x) := by
  unfold sub1
  rw [join_cat, dots_is (x := x) (x.cps.size + 1) 0 (by lia) (Nat.zero_le _)]
  rfl
end Mine
end

section -- Tx2
open PySem PySem.W PyProof.Rows PySem.Calls
namespace Mine
set_option maxRecDepth 100000
set_option linter.unusedVariables false
set_option linter.unusedSimpArgs false

theorem brk_plain {c : Nat} {r : List Nat} (h1 : c ≠ 10) (h2 : c ≠ 13) : brkL (c :: r) = c :: brkL r := by
  rw [brkL.eq_3 _ _ (fun _ h => absurd h h2), if_neg (by lia)]
theorem brk_ten {r : List Nat} : brkL (10 :: r) = 13 :: 10 :: brkL r := by
  rw [brkL.eq_3 _ _ (fun _ h => absurd h (by decide)), if_pos (by lia)]
theorem brk_two {r : List Nat} : brkL (13 :: 10 :: r) = 13 :: 10 :: brkL r := by rw [brkL.eq_2]
theorem brk_one {r : List Nat} (h : ∀ r', r ≠ 10 :: r') : brkL (13 :: r) = 13 :: 10 :: brkL r := by
  rw [brkL.eq_3 _ _ (fun r' _ h2 => h r' h2), if_pos (by lia)]

theorem brk_at {text : Array Nat} {b : Nat} (hb : b < text.size) (h : brkAt text b = true) : brkL (text.toList.drop b) = 13 :: 10 :: brkL (text.toList.drop (b + endLen text b)) := by
  rw [getD_lt hb]
  unfold brkAt at h
  by_cases h13 : (text.getD b 0 == 13) = true
  · by_cases hn : (decide (b + 1 < text.size) && text.getD (b + 1) 0 == 10) = true
    · have he : endLen text b = 2 := by unfold endLen; rw [h13, hn]; rfl
      simp only [Bool.and_eq_true, decide_eq_true_eq] at hn
      rw [he, getD_lt hn.1, eq_of_beq h13, eq_of_beq hn.2, brk_two]
    · have he : endLen text b = 1 := by unfold endLen; rw [h13, Bool.true_and, if_neg hn]
      rw [he, eq_of_beq h13, brk_one]
      intro r' hr
      apply hn
      by_cases hlt : b + 1 < text.size
      · rw [getD_lt hlt] at hr
        injection hr with h1 h2
        simp [hlt, h1]
      · have : text.toList.drop (b + 1) = [] := List.drop_eq_nil_of_le (by simp; lia)
        rw [this] at hr; cases hr
  · rw [Bool.not_eq_true] at h13
    rw [h13, Bool.or_false] at h
    have he : endLen text b = 1 := by unfold endLen; rw [h13]; rfl
    rw [he, eq_of_beq h, brk_ten]
theorem scan2 (text : Array Nat) : ∀ (f s : Nat), text.size < s + f → match find2 text f s with
    | some b => brkL (text.toList.drop s) = (text.toList.drop s).take (b - s) ++ brkL (text.toList.drop b)
    | none => brkL (text.toList.drop s) = text.toList.drop s
  | 0, s, h => by
    unfold find2
    have : text.toList.drop s = [] := List.drop_eq_nil_of_le (by simp; lia)
    simp [this, brkL]
  | f + 1, s, h => by
    have ih := scan2 text f (s + 1) (by lia)
    unfold find2
    by_cases hs : s ≥ text.size
    · rw [if_pos hs]
      have : text.toList.drop s = [] := List.drop_eq_nil_of_le (by simp; lia)
      simp [this, brkL]
    · rw [if_neg hs]
      have hs : s < text.size := by lia
      cases hb : brkAt text s with
      | true => simp
      | false =>
        simp only [Bool.false_eq_true, if_false]
        have hc : text.getD s 0 ≠ 10 ∧ text.getD s 0 ≠ 13 := by
          unfold brkAt at hb
          simpa using hb
        have e0 : brkL (text.toList.drop s) = text.getD s 0 :: brkL (text.toList.drop (s + 1)) := by rw [getD_lt hs, brk_plain hc.1 hc.2]
        rw [e0]
        cases hf : find2 text f (s + 1) with
        | some b =>
          rw [hf] at ih
          dsimp only at ih ⊢
          obtain ⟨_, _, hle⟩ := find2_is hf
          rw [ih, show b - s = (b - (s + 1)) + 1 by lia, getD_lt hs, List.take_succ_cons]
          rfl
        | none =>
          rw [hf] at ih
          dsimp only at ih ⊢
          rw [ih, ← getD_lt hs]
theorem brks_is {x : Str} : ∀ (k p : Nat), x.cps.size < p + k → p ≤ x.cps.size → ((subP x crlf (next2 x.cps) k p).map strL).flatten = brkL ((strL x).drop p)
  | 0, p, h, h' => by lia
  | k + 1, p, h, h' => by
    unfold subP
    have sc := scan2 x.cps (x.cps.size + 1 - p) p (by lia)
    by_cases hp : p < x.cps.size
    · have hn : next2 x.cps p = (find2 x.cps (x.cps.size + 1 - p) p).map fun b => (b, b + endLen x.cps b) := by unfold next2; rw [if_pos hp]
      rw [hn]
      cases hf : find2 x.cps (x.cps.size + 1 - p) p with
      | none =>
        rw [hf] at sc
        dsimp only at sc
        simp only [Option.map_none]
        rw [if_pos hp, sc]
        simp only [List.map_cons, List.map_nil, List.flatten_cons, List.flatten_nil, List.append_nil]
        show (x.cps.extract p x.cps.size).toList = _
        rw [extract_list, List.take_of_length_le (by simp)]
      | some b =>
        rw [hf] at sc
        dsimp only at sc
        obtain ⟨hb1, hb2, hle⟩ := find2_is hf
        have hE := endLen_is x.cps b
        simp only [Option.map_some]
        have ih := brks_is (x := x) k (b + endLen x.cps b) (by lia) (by lia)
        rw [sc, brk_at hb1 hb2]
        rw [List.map_append, List.flatten_append, List.map_cons, List.flatten_cons, ih]
        by_cases hlt : p < b
        · rw [if_pos hlt]
          simp only [List.map_cons, List.map_nil, List.flatten_cons, List.flatten_nil, List.append_nil]
          show (x.cps.extract p b).toList ++ _ = _
          rw [extract_list]; rfl
        · rw [if_neg hlt]
          have : b - p = 0 := by lia
          rw [this]; rfl
    · have hn : next2 x.cps p = none := by unfold next2; rw [if_neg hp]
      rw [hn]
      have : (strL x).drop p = [] := List.drop_eq_nil_of_le (by simp [strL]; lia)
      rw [this]
      simp [hp, brkL]
theorem sub2_is (x : Str) : strL (sub2 x) = brkL (strL x) := by
  unfold sub2
  rw [join_cat, brks_is (x := x) (x.cps.size + 1) 0 (by lia) (Nat.zero_le _)]
  rfl
end Mine
end

section -- Tx3
open PySem PySem.W PyProof.Rows PySem.Calls
namespace Mine
set_option maxRecDepth 100000
set_option linter.unusedVariables false
set_option linter.unusedSimpArgs false

noncomputable abbrev rowL (k : Nat) (e r : List Nat) : List Nat := List.replicate k 46 ++ 97 :: (e ++ r)
theorem brk_dots : ∀ (k : Nat) (r : List Nat), brkL (List.replicate k 46 ++ r) = List.replicate k 46 ++ brkL r
  | 0, r => rfl
  | k + 1, r => by
    rw [List.replicate_succ, List.cons_append, brk_plain (by decide) (by decide), brk_dots k r]; rfl
theorem brk_row {k : Nat} {e r : List Nat} (he : e = [10] ∨ e = [13] ∨ e = [13, 10]) (hr : ∀ r', r ≠ 10 :: r') : brkL (rowL k e r) = rowL k [13, 10] (brkL r) := by
  unfold rowL
  rw [brk_dots, brk_plain (by decide) (by decide)]
  rcases he with rfl | rfl | rfl
  · rw [List.singleton_append, brk_ten]; rfl
  · rw [List.singleton_append, brk_one hr]; rfl
  · show _ ++ 97 :: brkL (13 :: 10 :: r) = _
    rw [brk_two]; rfl
theorem dot_run : ∀ (k : Nat) (r : List Nat), dotL false (List.replicate k 46 ++ r) = List.replicate k 46 ++ dotL false r
  | 0, r => rfl
  | k + 1, r => by
    rw [List.replicate_succ, List.cons_append]
    show 46 :: dotL false (List.replicate k 46 ++ r) = _
    rw [dot_run k r]; rfl
theorem dot_row (k : Nat) (r : List Nat) : dotL true (rowL k [13, 10] r) = rowL (k + min 1 k) [13, 10] (dotL true r) := by
  cases k with
  | zero => rfl
  | succ k =>
    unfold rowL
    rw [List.replicate_succ, List.cons_append]
    show 46 :: 46 :: dotL false (List.replicate k 46 ++ 97 :: 13 :: 10 :: r) = _
    rw [dot_run]
    have : k + 1 + min 1 (k + 1) = k + 1 + 1 := by lia
    rw [this, List.replicate_succ, List.replicate_succ]
    rfl
theorem row_not10 (k : Nat) (e r : List Nat) : ∀ r', rowL k e r ≠ 10 :: r' := by
  intro r' h
  cases k with
  | zero => injection h with h1 h2; cases h1
  | succ k => rw [rowL, List.replicate_succ, List.cons_append] at h; injection h with h1 h2; cases h1
/-- four rows -/
theorem text4 {e0 e1 e2 e3 : List Nat} (h0 : e0 = [10] ∨ e0 = [13] ∨ e0 = [13, 10]) (h1 : e1 = [10] ∨ e1 = [13] ∨ e1 = [13, 10]) (h2 : e2 = [10] ∨ e2 = [13] ∨ e2 = [13, 10]) (h3 : e3 = [10] ∨ e3 = [13] ∨ e3 = [13, 10]) (a b c : Nat) :
    dotL true (brkL (rowL 0 e0 (rowL a e1 (rowL b e2 (rowL c e3 []))))) = rowL 0 [13, 10] (rowL (a + min 1 a) [13, 10] (rowL (b + min 1 b) [13, 10] (rowL (c + min 1 c) [13, 10] []))) := by
  rw [brk_row h0 (row_not10 _ _ _), brk_row h1 (row_not10 _ _ _), brk_row h2 (row_not10 _ _ _), brk_row h3 (by intro r' h; cases h), dot_row, dot_row, dot_row, dot_row]
  rfl
end Mine
end

section -- Tx4
open PySem PySem.W PyProof.Rows PySem.Calls
namespace Mine
set_option maxRecDepth 100000
set_option linter.unusedVariables false
set_option linter.unusedSimpArgs false

theorem dots_list : ∀ n : Nat, n < 17 → strL (Txt.mul "." (n : Int)) = List.replicate n 46 := by decide +kernel
theorem strL_app (x y : Str) : strL (x ++ y) = strL x ++ strL y := by
  show (x.cps ++ y.cps).toList = _
  simp
theorem strL_inj {x y : Str} (h : strL x = strL y) : x = y := by
  cases x; cases y
  congr 1
  exact Array.toList_inj.mp h
theorem mail_list {a b c : Nat} (ha : a < 17) (hb : b < 17) (hc : c < 17) (es : List Str) (t : Int) :
    strL (mailP [(a : Int), (b : Int), (c : Int)] es t) = rowL 0 (strL (endAt es t 0)) (rowL a (strL (endAt es t 1)) (rowL b (strL (endAt es t 2)) (rowL c (strL (endAt es t 3)) []))) := by
  unfold mailP
  rw [join_cat]
  show [strL (("a" : Str) ++ endAt es t 0), strL ((Txt.mul "." (a : Int) ++ "a") ++ endAt es t 1), strL ((Txt.mul "." (b : Int) ++ "a") ++ endAt es t 2), strL ((Txt.mul "." (c : Int) ++ "a") ++ endAt es t 3)].flatten = _
  have e1 : strL ("a" : Str) = [97] := by decide +kernel
  simp only [strL_app, dots_list a ha, dots_list b hb, dots_list c hc, e1]
  simp [rowL]
theorem end3 (t : Int) (j : Nat) : strL (endAt ["\n", "\r", "\r\n"] t j) = [10] ∨ strL (endAt ["\n", "\r", "\r\n"] t j) = [13] ∨ strL (endAt ["\n", "\r", "\r\n"] t j) = [13, 10] := by
  unfold endAt
  have h1 := Int.emod_nonneg (t + j) (show (3 : Int) ≠ 0 by decide)
  have h2 := Int.emod_lt_of_pos (t + j) (show (0 : Int) < 3 by decide)
  have hl : (([("\n" : Str), "\r", "\r\n"].length : Nat) : Int) = 3 := rfl
  rw [hl]
  generalize (t + (j : Int)) % 3 = m at *
  rcases (show m = 0 ∨ m = 1 ∨ m = 2 by lia) with rfl | rfl | rfl
  · exact .inl (by decide +kernel)
  · exact .inr (.inl (by decide +kernel))
  · exact .inr (.inr (by decide +kernel))
theorem end1 (t : Int) (j : Nat) : strL (endAt ["\r\n"] t j) = [13, 10] := by
  unfold endAt
  have hl : (([("\r\n" : Str)].length : Nat) : Int) = 1 := rfl
  rw [hl, Int.emod_one]
  decide +kernel
theorem quote_mail {a b c : Nat} (ha : a < 16) (hb : b < 16) (hc : c < 16) (t : Int) :
    sub1 (sub2 (mailP [(a : Int), (b : Int), (c : Int)] ["\n", "\r", "\r\n"] t)) = mailP [((a + min 1 a : Nat) : Int), ((b + min 1 b : Nat) : Int), ((c + min 1 c : Nat) : Int)] ["\r\n"] 0 := by
  apply strL_inj
  rw [sub1_is, sub2_is, mail_list (by lia) (by lia) (by lia), mail_list (by lia) (by lia) (by lia), end1, end1, end1, end1]
  exact text4 (end3 ..) (end3 ..) (end3 ..) (end3 ..) a b c
theorem end_len {e : List Nat} (h : e = [10] ∨ e = [13] ∨ e = [13, 10]) : e.length ≤ 2 := by
  rcases h with rfl | rfl | rfl <;> decide
theorem mail_size {a b c : Nat} (ha : a < 16) (hb : b < 16) (hc : c < 16) (t : Int) : (mailP [(a : Int), (b : Int), (c : Int)] ["\n", "\r", "\r\n"] t).cps.size ≤ 1000 := by
  have h := congrArg List.length (mail_list (a := a) (b := b) (c := c) (by lia) (by lia) (by lia) ["\n", "\r", "\r\n"] t)
  have l0 := end_len (end3 t 0)
  have l1 := end_len (end3 t 1)
  have l2 := end_len (end3 t 2)
  have l3 := end_len (end3 t 3)
  simp only [strL, rowL, Array.length_toList, List.length_append, List.length_replicate, List.length_cons, List.length_nil] at h l0 l1 l2 l3
  lia
theorem mail_size2 {a b c : Nat} (ha : a < 16) (hb : b < 16) (hc : c < 16) (t : Int) : (sub2 (mailP [(a : Int), (b : Int), (c : Int)] ["\n", "\r", "\r\n"] t)).cps.size ≤ 1000 := by
  have h := sub2_is (mailP [(a : Int), (b : Int), (c : Int)] ["\n", "\r", "\r\n"] t)
  rw [mail_list (by lia) (by lia) (by lia), brk_row (end3 ..) (row_not10 _ _ _), brk_row (end3 ..) (row_not10 _ _ _), brk_row (end3 ..) (row_not10 _ _ _), brk_row (end3 ..) (by intro r' h; cases h)] at h
  have h := congrArg List.length h
  have hb0 : (brkL []).length = 0 := rfl
  simp only [strL, rowL, Array.length_toList, List.length_append, List.length_replicate, List.length_cons, List.length_nil, hb0] at h
  lia
end Mine
end

section -- Fl1
open PySem PySem.W PyProof.Rows PySem.Calls
namespace Mine
set_option maxRecDepth 100000
set_option linter.unusedVariables false
set_option linter.unusedSimpArgs false
set_option exponentiation.threshold 5000
open PySem.Float64 (val Right decode sgn infMag)
noncomputable abbrev FV := Float64.V

noncomputable def Fn (x : UInt64) : Prop := ∃ a m e, decode x = .fin a m e

theorem rep : ∀ (c j : Nat), j ≤ 2 ^ 53 → ∃ t, FV t = j * 2 ^ c := by
  intro c
  induction c with
  | zero => intro j hj; exact ⟨0 * 2 ^ 52 + j, Float64.V_at hj (.inr rfl)⟩
  | succ c ih =>
    intro j hj
    by_cases h : 2 ^ 52 ≤ j
    · exact ⟨(c + 1) * 2 ^ 52 + j, Float64.V_at hj (.inl h)⟩
    · obtain ⟨t, ht⟩ := ih (2 * j) (by omega)
      exact ⟨t, by rw [ht, Nat.pow_succ]; grind⟩

theorem right_fin {r : UInt64} {neg : Bool} {W D c : Nat} (hR : Right r neg W D) (hD : 0 < D) (hc : c ≤ 2000) (hW : W ≤ D * 2 ^ (c + 53)) :
    ∃ t, r = Float64.pack neg t ∧ t < infMag ∧ Fn r ∧ val r = sgn neg (FV t) ∧ ∀ t', Float64.dist W (D * FV t) ≤ Float64.dist W (D * FV t') := by
  obtain ⟨t, h1, h2, h3, h4⟩ := hR
  have hlt : t < infMag := by
    rcases Nat.lt_or_ge t infMag with h | h
    · exact h
    · have := h3.mp (Nat.le_antisymm h2 h)
      have h5 : 2 * W ≤ D * (2 * 2 ^ (c + 53)) := by
        have := Nat.mul_le_mul_left 2 hW
        rw [Nat.mul_left_comm] at this
        exact this
      have h6 : D * ((2 ^ 54 - 1) * 2 ^ 2045) ≤ D * (2 * 2 ^ (c + 53)) := Nat.le_trans this h5
      have h7 := Nat.le_of_mul_le_mul_left h6 hD
      have h8 : 2 * 2 ^ (c + 53) ≤ 2 ^ 2054 := by rw [← Nat.pow_succ']; exact Nat.pow_le_pow_right (by decide) (by omega)
      have h9 : 2 ^ 2054 < (2 ^ 54 - 1) * 2 ^ 2045 := by
        rw [show 2054 = 9 + 2045 by rfl, Nat.pow_add]
        exact Nat.mul_lt_mul_of_pos_right (by decide) (Nat.two_pow_pos _)
      omega
  refine ⟨t, h1, hlt, ?_, ?_, fun t' => (h4 hlt t').1⟩
  · obtain ⟨m, e, hd, _⟩ := Float64.decode_pack neg hlt
    exact ⟨neg, m, e, by rw [h1]; exact hd⟩
  · rw [h1]; exact Float64.val_pack neg hlt

theorem right_near {r : UInt64} {neg : Bool} {W D c : Nat} (hR : Right r neg W D) (hD : 0 < D) (hc : c ≤ 2000) (hW : W ≤ D * 2 ^ (c + 53)) :
    Fn r ∧ ∃ w : Nat, val r = sgn neg w ∧ W ≤ D * w + D * 2 ^ c ∧ D * w ≤ W + D * 2 ^ c := by
  obtain ⟨t, h1, h2, h3, h4, h5⟩ := right_fin hR hD hc hW
  refine ⟨h3, FV t, h4, ?_⟩
  have hK : 0 < 2 ^ c := Nat.two_pow_pos c
  have hj : W / (D * 2 ^ c) ≤ 2 ^ 53 := by
    apply Nat.div_le_of_le_mul
    rw [Nat.mul_assoc, ← Nat.pow_add]; exact hW
  obtain ⟨t', ht'⟩ := rep c _ hj
  have h6 := h5 t'
  rw [ht'] at h6
  have m1 := Nat.div_add_mod W (D * 2 ^ c)
  have m2 := Nat.mod_lt W (Nat.mul_pos hD hK)
  have e : D * (W / (D * 2 ^ c) * 2 ^ c) = D * 2 ^ c * (W / (D * 2 ^ c)) := by
    rw [Nat.mul_assoc D, Nat.mul_comm (2 ^ c)]
  rw [e] at h6
  unfold Float64.dist at h6
  constructor <;> omega

theorem right_exact {r : UInt64} {neg : Bool} {W D c j : Nat} (hR : Right r neg W D) (hD : 0 < D) (hc : c ≤ 2000) (hj : j ≤ 2 ^ 53) (hW : W = D * (j * 2 ^ c)) :
    Fn r ∧ val r = sgn neg (j * 2 ^ c) := by
  obtain ⟨t, h1, h2, h3, h4, h5⟩ := right_fin hR hD hc (by
    rw [hW, Nat.pow_add, Nat.mul_comm (2 ^ c)]
    exact Nat.mul_le_mul_left _ (Nat.mul_le_mul_right _ hj))
  refine ⟨h3, ?_⟩
  obtain ⟨t', ht'⟩ := rep c j hj
  have h6 := h5 t'
  rw [ht', ← hW] at h6
  have h7 : D * FV t = D * (j * 2 ^ c) := by
    unfold Float64.dist at h6
    omega
  rw [h4, Nat.eq_of_mul_eq_mul_left hD h7]

/-! the rational that a float stands for -/
noncomputable def UI : Int := 2 ^ 1074
theorem UI_eq : UI = ((2 ^ 1074 : Nat) : Int) := by unfold UI; norm_cast
theorem UI_pos : 0 < UI := by rw [UI_eq]; exact Int.ofNat_lt.mpr (Nat.two_pow_pos _)
noncomputable def UR : Rat := (UI : Rat)
theorem UR_pos : 0 < UR := Rat.intCast_pos.mpr UI_pos
noncomputable def rv (x : UInt64) : Rat := (val x : Rat) / UR
theorem rv_val (x : UInt64) : (val x : Rat) = rv x * UR := by
  have := UR_pos
  unfold rv; grind

/-- a step of rounding: places, error, lid -/
structure Sz (c : Nat) (e B : Rat) : Prop where
  hc : c ≤ 2000
  he : e * UR = ((2 ^ c : Nat) : Int)
  hB : B * UR = ((2 ^ (c + 53) : Nat) : Int)
theorem UR_nat : UR = ((2 ^ 1074 : Nat) : Rat) := by
  unfold UR; rw [UI_eq]; rfl
theorem cast_two (z n : Nat) : (((z * n : Nat) : Int) : Rat) = (z : Rat) * (n : Rat) := by push_cast; rfl
theorem nat_two (z n : Nat) : ((z * n : Nat) : Rat) = (z : Rat) * (n : Rat) := by push_cast; rfl
theorem sz8 : Sz 1024 (1 / 1125899906842624) 8 := by
  refine ⟨by decide, ?_, ?_⟩
  · rw [UR_nat, show (1074 : Nat) = 1024 + 50 by rfl, Nat.pow_add, show (2 : Nat) ^ 50 = 1125899906842624 by rfl, nat_two]
    generalize 2 ^ 1024 = z
    show 1 / 1125899906842624 * ((z : Rat) * (1125899906842624 : Rat)) = ((z : Int) : Rat)
    rw [show ((z : Int) : Rat) = (z : Rat) from rfl]
    grind
  · rw [UR_nat, show (1024 + 53 : Nat) = 1074 + 3 by rfl, Nat.pow_add, show (2 : Nat) ^ 3 = 8 by rfl, cast_two]
    generalize 2 ^ 1074 = z
    show (8 : Rat) * (z : Rat) = (z : Rat) * (8 : Rat)
    grind
theorem sz25 : Sz 1046 (1 / 268435456) 33554432 := by
  refine ⟨by decide, ?_, ?_⟩
  · rw [UR_nat, show (1074 : Nat) = 1046 + 28 by rfl, Nat.pow_add, show (2 : Nat) ^ 28 = 268435456 by rfl, nat_two]
    generalize 2 ^ 1046 = z
    show 1 / 268435456 * ((z : Rat) * (268435456 : Rat)) = ((z : Int) : Rat)
    rw [show ((z : Int) : Rat) = (z : Rat) from rfl]
    grind
  · rw [UR_nat, show (1046 + 53 : Nat) = 1074 + 25 by rfl, Nat.pow_add, show (2 : Nat) ^ 25 = 33554432 by rfl, cast_two]
    generalize 2 ^ 1074 = z
    show (33554432 : Rat) * (z : Rat) = (z : Rat) * (33554432 : Rat)
    grind
end Mine
end

section -- Fl2
open PySem PySem.W PyProof.Rows PySem.Calls
namespace Mine
set_option maxRecDepth 100000
set_option linter.unusedVariables false
set_option linter.unusedSimpArgs false
set_option exponentiation.threshold 5000
open PySem.Float64 (val Right decode sgn infMag)

theorem lid_int {c : Nat} {e B : Rat} (S : Sz c e B) {z : Int} {r : Rat} (hz : (z : Rat) = r * UR) (h1 : -B ≤ r) (h2 : r ≤ B) : z.natAbs ≤ 2 ^ (c + 53) := by
  have hp := UR_pos
  have hB := S.hB
  have a1 : r * UR ≤ B * UR := Rat.mul_le_mul_of_nonneg_right h2 (Rat.le_of_lt hp)
  have a2 : -B * UR ≤ r * UR := Rat.mul_le_mul_of_nonneg_right h1 (Rat.le_of_lt hp)
  rw [← hz, hB] at a1
  have a3 : -(((2 ^ (c + 53) : Nat) : Int) : Rat) ≤ (z : Rat) := by rw [hz, ← hB]; grind
  have b1 := Rat.intCast_le_intCast.mp a1
  rw [← Rat.intCast_neg] at a3
  have b2 := Rat.intCast_le_intCast.mp a3
  omega
theorem back_rat {c : Nat} {e B : Rat} (S : Sz c e B) {z v : Int} {r q : Rat} (hz : (z : Rat) = r * UR) (hv : (v : Rat) = q * UR) (h1 : z - ((2 ^ c : Nat) : Int) ≤ v) (h2 : v ≤ z + ((2 ^ c : Nat) : Int)) : r - e ≤ q ∧ q ≤ r + e := by
  have hp := UR_pos
  have he := S.he
  have a1 := Rat.intCast_le_intCast.mpr h1
  have a2 := Rat.intCast_le_intCast.mpr h2
  rw [Rat.intCast_sub, ← he, hz, hv] at a1
  rw [Rat.intCast_add, ← he, hz, hv] at a2
  constructor
  · refine Rat.le_of_mul_le_mul_right (c := UR) ?_ hp
    grind
  · refine Rat.le_of_mul_le_mul_right (c := UR) ?_ hp
    grind
theorem sgn_sgn (a b : Bool) (m k : Nat) : sgn a m * sgn b k = sgn (a != b) (m * k) := by
  cases a <;> cases b <;> simp [sgn, Int.neg_mul, Int.mul_neg]
theorem zero_fn (b : Bool) : Fn (Float64.zero b) ∧ val (Float64.zero b) = 0 := by
  obtain ⟨m, e, hd, hv⟩ := Float64.decode_pack b (t := 0) (by decide)
  refine ⟨⟨_, _, _, hd⟩, ?_⟩
  have := Float64.val_pack b (t := 0) (by decide)
  unfold Float64.zero
  rw [this, Float64.V_zero]
  cases b <;> rfl
theorem add_rv {c : Nat} {e B : Rat} (S : Sz c e B) {x y : UInt64} (hx : Fn x) (hy : Fn y) (h1 : -B ≤ rv x + rv y) (h2 : rv x + rv y ≤ B) :
    Fn (Float64.add x y) ∧ rv x + rv y - e ≤ rv (Float64.add x y) ∧ rv (Float64.add x y) ≤ rv x + rv y + e := by
  obtain ⟨a, m, i, dx⟩ := hx
  obtain ⟨b, k, f, dy⟩ := hy
  obtain ⟨r0, r1⟩ := Float64.add_right dx dy
  have hz : ((val x + val y : Int) : Rat) = (rv x + rv y) * UR := by rw [Rat.intCast_add, rv_val, rv_val]; grind
  have hl := lid_int S hz h1 h2
  by_cases h : val x + val y = 0
  · have e0 := r0 h
    obtain ⟨hd, hv⟩ := zero_fn (a && b)
    refine ⟨by rw [e0]; exact hd, back_rat S hz (rv_val _) ?_ ?_⟩
    all_goals
      rw [e0, hv, h]
      have : 0 < 2 ^ c := Nat.two_pow_pos c
      omega
  · obtain ⟨hf, w, hw, w1, w2⟩ := right_near (r1 h) (by decide) S.hc (by rw [Nat.one_mul]; exact hl)
    refine ⟨hf, back_rat S hz (rv_val _) ?_ ?_⟩
    all_goals
      rw [hw]
      generalize val x + val y = z at *
      simp only [Nat.one_mul] at w1 w2
      unfold sgn
      by_cases hn : z < 0
      · rw [decide_eq_true hn, if_pos rfl]; omega
      · rw [decide_eq_false hn, if_neg (by decide)]; omega
theorem neg_rv {x : UInt64} (hx : Fn x) : Fn (Float64.neg x) ∧ rv (Float64.neg x) = -rv x := by
  obtain ⟨a, m, i, dx⟩ := hx
  refine ⟨⟨_, _, _, Float64.neg_decode dx⟩, ?_⟩
  unfold rv
  rw [Float64.neg_val dx, Rat.intCast_neg]
  grind
theorem sub_rv {c : Nat} {e B : Rat} (S : Sz c e B) {x y : UInt64} (hx : Fn x) (hy : Fn y) (h1 : -B ≤ rv x - rv y) (h2 : rv x - rv y ≤ B) :
    Fn (Float64.sub x y) ∧ rv x - rv y - e ≤ rv (Float64.sub x y) ∧ rv (Float64.sub x y) ≤ rv x - rv y + e := by
  have n := neg_rv hy
  have := add_rv S hx n.1 (by rw [n.2]; grind) (by rw [n.2]; grind)
  rw [n.2] at this
  unfold Float64.sub
  grind
theorem mul_rv {c : Nat} {e B : Rat} (S : Sz c e B) {x y : UInt64} (hx : Fn x) (hy : Fn y) (h1 : -B ≤ rv x * rv y) (h2 : rv x * rv y ≤ B) :
    Fn (Float64.mul x y) ∧ rv x * rv y - e ≤ rv (Float64.mul x y) ∧ rv (Float64.mul x y) ≤ rv x * rv y + e := by
  obtain ⟨a, m, i, dx⟩ := hx
  obtain ⟨b, k, f, dy⟩ := hy
  have r1 := Float64.mul_right dx dy
  have hp := UR_pos
  have hU : (UI : Rat) = UR := rfl
  have hz : ((val x * val y : Int) : Rat) = rv x * rv y * UR * UR := by rw [Rat.intCast_mul, rv_val, rv_val]; grind
  have hN : ((2 ^ 1074 : Nat) : Int) = UI := UI_eq.symm
  have hNp : 0 < (2 : Nat) ^ 1074 := Nat.two_pow_pos _
  have hl : (val x).natAbs * (val y).natAbs ≤ 2 ^ 1074 * 2 ^ (c + 53) := by
    have hB := S.hB
    have a1 : rv x * rv y * UR ≤ B * UR := Rat.mul_le_mul_of_nonneg_right h2 (Rat.le_of_lt hp)
    have a2 : -B * UR ≤ rv x * rv y * UR := Rat.mul_le_mul_of_nonneg_right h1 (Rat.le_of_lt hp)
    have a3 : rv x * rv y * UR * UR ≤ B * UR * UR := Rat.mul_le_mul_of_nonneg_right a1 (Rat.le_of_lt hp)
    have a4 : -B * UR * UR ≤ rv x * rv y * UR * UR := Rat.mul_le_mul_of_nonneg_right a2 (Rat.le_of_lt hp)
    rw [← hz, hB, ← hU, ← Rat.intCast_mul] at a3
    have a5 : -((((2 ^ (c + 53) : Nat) : Int) * UI : Int) : Rat) ≤ ((val x * val y : Int) : Rat) := by rw [Rat.intCast_mul, ← hB, hU]; rw [hz]; grind
    rw [← Rat.intCast_neg] at a5
    have b1 := Rat.intCast_le_intCast.mp a3
    have b2 := Rat.intCast_le_intCast.mp a5
    rw [← Int.natAbs_mul]
    rw [← hN, ← Int.natCast_mul, Nat.mul_comm] at b1 b2
    omega
  have vs : val x * val y = sgn (a != b) ((val x).natAbs * (val y).natAbs) := by
    rw [Float64.val_natAbs dx, Float64.val_natAbs dy, Float64.val_eq dx, Float64.val_eq dy, sgn_sgn]
  generalize (val x).natAbs * (val y).natAbs = W at *
  obtain ⟨hf, w, hw, w1, w2⟩ := right_near r1 hNp S.hc hl
  refine ⟨hf, ?_⟩
  have q1 : val x * val y - UI * ((2 ^ c : Nat) : Int) ≤ UI * val (Float64.mul x y) ∧ UI * val (Float64.mul x y) ≤ val x * val y + UI * ((2 ^ c : Nat) : Int) := by
    rw [hw, vs, ← hN]
    generalize 2 ^ c = K at *
    generalize 2 ^ 1074 = N at *
    unfold sgn
    have e1 : ((N : Nat) : Int) * ((w : Nat) : Int) = ((N * w : Nat) : Int) := by push_cast; rfl
    have e2 : ((N : Nat) : Int) * ((K : Nat) : Int) = ((N * K : Nat) : Int) := by push_cast; rfl
    by_cases h : (a != b) = true
    · rw [if_pos h, if_pos h, Int.mul_neg, e1, e2]; omega
    · rw [if_neg h, if_neg h, e1, e2]; omega
  have he := S.he
  have c1 := Rat.intCast_le_intCast.mpr q1.1
  have c2 := Rat.intCast_le_intCast.mpr q1.2
  rw [Rat.intCast_sub, Rat.intCast_mul UI, Rat.intCast_mul UI, ← he, hz, hU, rv_val (Float64.mul x y)] at c1
  rw [Rat.intCast_add, Rat.intCast_mul UI, Rat.intCast_mul UI, ← he, hz, hU, rv_val (Float64.mul x y)] at c2
  constructor
  · refine Rat.le_of_mul_le_mul_right (c := UR) ?_ hp
    refine Rat.le_of_mul_le_mul_right (c := UR) ?_ hp
    grind
  · refine Rat.le_of_mul_le_mul_right (c := UR) ?_ hp
    refine Rat.le_of_mul_le_mul_right (c := UR) ?_ hp
    grind
theorem pos_val {y : UInt64} (h : 0 < rv y) : 0 < val y := by
  have hp := UR_pos
  have : (0 : Rat) * UR < rv y * UR := Rat.mul_lt_mul_of_pos_right h hp
  rw [← rv_val, Rat.zero_mul] at this
  exact Rat.intCast_pos.mp this
theorem div_rv {c : Nat} {e B : Rat} (S : Sz c e B) {x y : UInt64} {q : Rat} (hx : Fn x) (hy : Fn y) (h0 : 0 < rv y) (hq : rv x = q * rv y) (h1 : -B ≤ q) (h2 : q ≤ B) :
    Fn (Float64.div x y) ∧ q - e ≤ rv (Float64.div x y) ∧ rv (Float64.div x y) ≤ q + e := by
  have hyp := pos_val h0
  obtain ⟨a, m, i, dx⟩ := hx
  obtain ⟨b, k, f, dy⟩ := hy
  have hb : b = false ∧ k ≠ 0 := by
    rw [Float64.val_eq dy] at hyp
    unfold sgn at hyp
    cases b
    · refine ⟨rfl, ?_⟩
      rintro rfl
      simp at hyp
    · exfalso
      have : (0 : Int) ≤ ((k * 2 ^ (f + 1074).toNat : Nat) : Int) := Int.natCast_nonneg _
      rw [if_pos rfl] at hyp
      omega
  obtain ⟨rfl, hk⟩ := hb
  have r1 := Float64.div_right dx dy hk
  have hp := UR_pos
  have hU : (UI : Rat) = UR := rfl
  have hN : ((2 ^ 1074 : Nat) : Int) = UI := UI_eq.symm
  have hvy : (0 : Rat) < (val y : Rat) := Rat.intCast_pos.mpr hyp
  have hD : 0 < (val y).natAbs := by omega
  have hz : ((val x * UI : Int) : Rat) = q * (val y : Rat) * UR := by rw [Rat.intCast_mul, rv_val, rv_val, hU, hq]; grind
  have hl : (val x).natAbs * 2 ^ 1074 ≤ (val y).natAbs * 2 ^ (c + 53) := by
    have hB := S.hB
    have a1 : q * UR ≤ B * UR := Rat.mul_le_mul_of_nonneg_right h2 (Rat.le_of_lt hp)
    have a2 : -B * UR ≤ q * UR := Rat.mul_le_mul_of_nonneg_right h1 (Rat.le_of_lt hp)
    have a3 : q * UR * (val y : Rat) ≤ B * UR * (val y : Rat) := Rat.mul_le_mul_of_nonneg_right a1 (Rat.le_of_lt hvy)
    have a4 : -B * UR * (val y : Rat) ≤ q * UR * (val y : Rat) := Rat.mul_le_mul_of_nonneg_right a2 (Rat.le_of_lt hvy)
    have e1 : q * UR * (val y : Rat) = ((val x * UI : Int) : Rat) := by rw [hz]; grind
    rw [e1, hB, ← Rat.intCast_mul] at a3
    have a5 : -(((((2 ^ (c + 53) : Nat) : Int) * val y : Int)) : Rat) ≤ ((val x * UI : Int) : Rat) := by rw [Rat.intCast_mul, ← hB, ← e1]; grind
    rw [← Rat.intCast_neg] at a5
    have b1 := Rat.intCast_le_intCast.mp a3
    have b2 := Rat.intCast_le_intCast.mp a5
    have e2 : (val x).natAbs * 2 ^ 1074 = (val x * UI).natAbs := by rw [Int.natAbs_mul, ← hN, Int.natAbs_natCast]
    have e3 : (((val y).natAbs * 2 ^ (c + 53) : Nat) : Int) = ((2 ^ (c + 53) : Nat) : Int) * val y := by
      rw [Int.natCast_mul, Int.mul_comm]
      congr 1
      omega
    rw [e2]
    generalize ((2 ^ (c + 53) : Nat) : Int) * val y = t at *
    omega
  obtain ⟨hf, w, hw, w1, w2⟩ := right_near r1 hD S.hc hl
  refine ⟨hf, ?_⟩
  have q1 : val x * UI - val y * ((2 ^ c : Nat) : Int) ≤ val y * val (Float64.div x y) ∧ val y * val (Float64.div x y) ≤ val x * UI + val y * ((2 ^ c : Nat) : Int) := by
    have vs : val x * UI = sgn (a != false) ((val x).natAbs * 2 ^ 1074) := by
      rw [← hN, Float64.val_natAbs dx, Float64.val_eq dx, show (a != false) = a by cases a <;> rfl]
      exact (Float64.sgn_mul a _ _).symm
    rw [hw, vs]
    generalize 2 ^ c = K at *
    generalize (val x).natAbs * 2 ^ 1074 = W at *
    obtain ⟨N, hN⟩ : ∃ N : Nat, val y = (N : Int) := ⟨(val y).natAbs, by omega⟩
    rw [hN, Int.natAbs_natCast] at w1 w2
    rw [hN]
    unfold sgn
    have e1 : ((N : Nat) : Int) * ((w : Nat) : Int) = ((N * w : Nat) : Int) := by push_cast; rfl
    have e2 : ((N : Nat) : Int) * ((K : Nat) : Int) = ((N * K : Nat) : Int) := by push_cast; rfl
    by_cases h : (a != false) = true
    · rw [if_pos h, if_pos h, Int.mul_neg, e1, e2]; omega
    · rw [if_neg h, if_neg h, e1, e2]; omega
  have he := S.he
  have c1 := Rat.intCast_le_intCast.mpr q1.1
  have c2 := Rat.intCast_le_intCast.mpr q1.2
  rw [Rat.intCast_sub, Rat.intCast_mul (val y), Rat.intCast_mul (val y), ← he, hz, rv_val (Float64.div x y)] at c1
  rw [Rat.intCast_add, Rat.intCast_mul (val y), Rat.intCast_mul (val y), ← he, hz, rv_val (Float64.div x y)] at c2
  constructor
  · refine Rat.le_of_mul_le_mul_right (c := UR) ?_ hp
    refine Rat.le_of_mul_le_mul_right (c := (val y : Rat)) ?_ hvy
    grind
  · refine Rat.le_of_mul_le_mul_right (c := UR) ?_ hp
    refine Rat.le_of_mul_le_mul_right (c := (val y : Rat)) ?_ hvy
    grind

/-! comparing -/
theorem rv_lt {x y : UInt64} : val x < val y ↔ rv x < rv y := by
  have hp := UR_pos
  rw [← Rat.intCast_lt_intCast, rv_val, rv_val]
  constructor
  · intro h; exact Rat.lt_of_mul_lt_mul_right h (Rat.le_of_lt hp)
  · intro h; exact Rat.mul_lt_mul_of_pos_right h hp
theorem rv_inj {x y : UInt64} : val x = val y ↔ rv x = rv y := by
  have hp := UR_pos
  rw [← Rat.intCast_inj, rv_val, rv_val]
  constructor
  · intro h
    have hn : UR ≠ 0 := by grind
    exact Rat.le_antisymm (Rat.le_of_mul_le_mul_right (c := UR) (by rw [h]; exact Rat.le_refl) hp) (Rat.le_of_mul_le_mul_right (c := UR) (by rw [h]; exact Rat.le_refl) hp)
  · intro h; rw [h]
theorem cmp_fn {x y : UInt64} (hx : Fn x) (hy : Fn y) : Float64.cmp x y = some (compare (val x) (val y)) := by
  obtain ⟨a, m, i, dx⟩ := hx
  obtain ⟨b, k, f, dy⟩ := hy
  exact Float64.cmp_right dx dy
theorem flt_iff {x y : UInt64} (hx : Fn x) (hy : Fn y) : flt x y = true ↔ rv x < rv y := by
  unfold flt
  rw [cmp_fn hx hy, ← rv_lt, ← Int.compare_eq_lt]
  simp
theorem fgt_iff {x y : UInt64} (hx : Fn x) (hy : Fn y) : fgt x y = true ↔ rv y < rv x := by
  unfold fgt
  rw [cmp_fn hx hy, ← rv_lt, ← Int.compare_eq_gt]
  simp
theorem feq_iff {x y : UInt64} (hx : Fn x) (hy : Fn y) : feq x y = true ↔ rv x = rv y := by
  unfold feq
  rw [cmp_fn hx hy, ← rv_inj, ← Int.compare_eq_eq]
  simp
theorem fle_iff {x y : UInt64} (hx : Fn x) (hy : Fn y) : fle x y = true ↔ rv x ≤ rv y := by
  have h : fle x y = (flt x y || feq x y) := rfl
  rw [h, Bool.or_eq_true, flt_iff hx hy, feq_iff hx hy]
  constructor
  · rintro (h | h)
    · exact Rat.le_of_lt h
    · rw [h]; exact Rat.le_refl
  · intro h
    by_cases e : rv x = rv y
    · exact .inr e
    · left; grind
theorem fin_of {x : UInt64} (hx : Fn x) : Float64.isFinite x = true := by
  obtain ⟨a, m, i, dx⟩ := hx
  unfold Float64.isFinite; rw [dx]
theorem not_zero {x : UInt64} (hx : Fn x) (h : 0 < rv x) : Float64.isZero x = false := by
  have h1 := pos_val h
  obtain ⟨a, m, i, dx⟩ := hx
  unfold Float64.isZero; rw [dx]
  rw [Float64.val_eq dx] at h1
  cases m with
  | zero => unfold sgn at h1; cases a <;> simp at h1
  | succ m => rfl
end Mine
end

section -- Fl3
open PySem PySem.W PyProof.Rows PySem.Calls
namespace Mine
set_option maxRecDepth 100000
set_option linter.unusedVariables false
set_option linter.unusedSimpArgs false
set_option exponentiation.threshold 5000
open PySem.Float64 (val Right decode sgn infMag)

noncomputable abbrev EE : Rat := 1 / 1125899906842624
/-- a float near a rational -/
structure Near (x : UInt64) (r : Rat) (n : Nat) : Prop where
  f : Fn x
  lo : r - (n : Rat) * EE ≤ rv x
  hi : rv x ≤ r + (n : Rat) * EE
noncomputable def small : Nat := 1000000000
theorem near_bd {n : Nat} (h : n ≤ small) : (0 : Rat) ≤ (n : Rat) * EE ∧ (n : Rat) * EE ≤ 1 / 100000 := by
  have h1 : ((n : Nat) : Rat) ≤ ((small : Nat) : Rat) := Rat.natCast_le_natCast.mpr h
  have h0 : (0 : Rat) ≤ (n : Rat) := Rat.natCast_nonneg
  have e : ((small : Nat) : Rat) = 1000000000 := rfl
  rw [e] at h1
  grind
theorem Near.mono {x : UInt64} {r : Rat} {n m : Nat} (h : Near x r n) (hm : n ≤ m) : Near x r m := by
  obtain ⟨f, l, u⟩ := h
  have h1 : ((n : Nat) : Rat) ≤ ((m : Nat) : Rat) := Rat.natCast_le_natCast.mpr hm
  exact ⟨f, by grind, by grind⟩
theorem Near.to {x : UInt64} {r r' : Rat} {n : Nat} (h : Near x r n) (e : r = r') : Near x r' n := e ▸ h
theorem Near.add {x y : UInt64} {r s : Rat} {n k : Nat} (hx : Near x r n) (hy : Near y s k) (hn : n ≤ small) (hk : k ≤ small) (b1 : -7 ≤ r + s) (b2 : r + s ≤ 7) : Near (Float64.add x y) (r + s) (n + k + 1) := by
  obtain ⟨f, l, u⟩ := hx
  obtain ⟨f', l', u'⟩ := hy
  have d1 := near_bd hn
  have d2 := near_bd hk
  have := add_rv sz8 f f' (by grind) (by grind)
  refine ⟨this.1, ?_, ?_⟩
  · rw [Rat.natCast_add, Rat.natCast_add]
    show r + s - ((n : Rat) + k + 1) * EE ≤ _
    grind
  · rw [Rat.natCast_add, Rat.natCast_add]
    show _ ≤ r + s + ((n : Rat) + k + 1) * EE
    grind
theorem Near.neg {x : UInt64} {r : Rat} {n : Nat} (hx : Near x r n) : Near (Float64.neg x) (-r) n := by
  obtain ⟨f, l, u⟩ := hx
  have := neg_rv f
  exact ⟨this.1, by rw [this.2]; grind, by rw [this.2]; grind⟩
theorem Near.sub {x y : UInt64} {r s : Rat} {n k : Nat} (hx : Near x r n) (hy : Near y s k) (hn : n ≤ small) (hk : k ≤ small) (b1 : -7 ≤ r - s) (b2 : r - s ≤ 7) : Near (Float64.sub x y) (r - s) (n + k + 1) := by
  have h := hx.add hy.neg hn hk (by grind) (by grind)
  have e : r + -s = r - s := by grind
  rw [e] at h
  unfold Float64.sub
  exact h
/-- a product that is bounded -/
theorem mul_le_abs {a b x y : Rat} (h1 : -a ≤ x) (h2 : x ≤ a) (h3 : -b ≤ y) (h4 : y ≤ b) : -(a * b) ≤ x * y ∧ x * y ≤ a * b := by
  have p1 : 0 ≤ (a - x) * (b + y) := Rat.mul_nonneg (by grind) (by grind)
  have p2 : 0 ≤ (a + x) * (b - y) := Rat.mul_nonneg (by grind) (by grind)
  have p3 : 0 ≤ (a - x) * (b - y) := Rat.mul_nonneg (by grind) (by grind)
  have p4 : 0 ≤ (a + x) * (b + y) := Rat.mul_nonneg (by grind) (by grind)
  constructor <;> grind
theorem Near.mul {x y : UInt64} {r s : Rat} {n k : Nat} (hx : Near x r n) (hy : Near y s k) (hn : n ≤ small) (hk : k ≤ small) (r1 : -6 ≤ r) (r2 : r ≤ 6) (s1 : -6 ≤ s) (s2 : s ≤ 6) (b1 : -7 ≤ r * s) (b2 : r * s ≤ 7) :
    Near (Float64.mul x y) (r * s) (7 * n + 7 * k + 1) := by
  obtain ⟨f, l, u⟩ := hx
  obtain ⟨f', l', u'⟩ := hy
  have d1 := near_bd hn
  have d2 := near_bd hk
  have m1 := mul_le_abs (a := (n : Rat) * EE) (b := 7) (x := rv x - r) (y := rv y) (by grind) (by grind) (by grind) (by grind)
  have m2 := mul_le_abs (a := 6) (b := (k : Rat) * EE) (x := r) (y := rv y - s) (by grind) (by grind) (by grind) (by grind)
  have e : rv x * rv y - r * s = (rv x - r) * rv y + r * (rv y - s) := by grind
  have := mul_rv sz8 f f' (by grind) (by grind)
  refine ⟨this.1, ?_, ?_⟩
  · rw [Rat.natCast_add, Rat.natCast_add, Rat.natCast_mul, Rat.natCast_mul]
    show r * s - (7 * (n : Rat) + 7 * k + 1) * EE ≤ _
    grind
  · rw [Rat.natCast_add, Rat.natCast_add, Rat.natCast_mul, Rat.natCast_mul]
    show _ ≤ r * s + (7 * (n : Rat) + 7 * k + 1) * EE
    grind
theorem Near.div {x y : UInt64} {r s q : Rat} {n k : Nat} (hx : Near x r n) (hy : Near y s k) (hn : n ≤ 1000000) (hk : k ≤ 1000000) (hq : r = q * s) (s1 : 1 / 32 ≤ s) (q1 : -6 ≤ q) (q2 : q ≤ 6) :
    Near (Float64.div x y) q (33 * n + 200 * k + 1) := by
  obtain ⟨f, l, u⟩ := hx
  obtain ⟨f', l', u'⟩ := hy
  have d1 := near_bd (n := n) (Nat.le_trans hn (by decide))
  have d2 := near_bd (n := k) (Nat.le_trans hk (by decide))
  have hn' : ((n : Nat) : Rat) ≤ ((1000000 : Nat) : Rat) := Rat.natCast_le_natCast.mpr hn
  have hk' : ((k : Nat) : Rat) ≤ ((1000000 : Nat) : Rat) := Rat.natCast_le_natCast.mpr hk
  have e6 : ((1000000 : Nat) : Rat) = 1000000 := rfl
  rw [e6] at hn' hk'
  have hpos : 0 < rv y := by grind
  have hne : rv y ≠ 0 := by grind
  have hq' : rv x = (rv x / rv y) * rv y := by grind
  generalize hQ : rv x / rv y = Q at *
  -- the quotient's own error
  have m2 := mul_le_abs (a := 6) (b := (k : Rat) * EE) (x := q) (y := rv y - s) (by grind) (by grind) (by grind) (by grind)
  have e1 : (Q - q) * rv y = (rv x - r) - q * (rv y - s) := by grind
  have u1 : (Q - q) * rv y ≤ (n : Rat) * EE + 6 * ((k : Rat) * EE) := by grind
  have u2 : -((n : Rat) * EE + 6 * ((k : Rat) * EE)) ≤ (Q - q) * rv y := by grind
  have g1 : 1 / 33 ≤ rv y := by grind
  have w0 : 0 ≤ (n : Rat) * EE + 6 * ((k : Rat) * EE) := by grind
  have w1 : Q - q ≤ 33 * ((n : Rat) * EE + 6 * ((k : Rat) * EE)) := by
    refine Rat.le_of_mul_le_mul_right (c := rv y) ?_ hpos
    have := Rat.mul_le_mul_of_nonneg_left (c := 33 * ((n : Rat) * EE + 6 * ((k : Rat) * EE))) g1 (by grind)
    grind
  have w2 : -(33 * ((n : Rat) * EE + 6 * ((k : Rat) * EE))) ≤ Q - q := by
    refine Rat.le_of_mul_le_mul_right (c := rv y) ?_ hpos
    have := Rat.mul_le_mul_of_nonneg_left (c := 33 * ((n : Rat) * EE + 6 * ((k : Rat) * EE))) g1 (by grind)
    grind
  have := div_rv sz8 f f' hpos hq' (by grind) (by grind)
  refine ⟨this.1, ?_, ?_⟩
  · rw [Rat.natCast_add, Rat.natCast_add, Rat.natCast_mul, Rat.natCast_mul]
    show q - (33 * (n : Rat) + 200 * k + 1) * EE ≤ _
    grind
  · rw [Rat.natCast_add, Rat.natCast_add, Rat.natCast_mul, Rat.natCast_mul]
    show _ ≤ q + (33 * (n : Rat) + 200 * k + 1) * EE
    grind

/-! written floats -/
theorem rv_fin {x : UInt64} {a : Bool} {m : Nat} {k : Nat} (h : decode x = .fin a m (-(k : Int))) (hk : k ≤ 1074) : Fn x ∧ rv x = (sgn a m : Rat) / ((2 ^ k : Nat) : Rat) := by
  refine ⟨⟨_, _, _, h⟩, ?_⟩
  have hp := UR_pos
  unfold rv
  rw [Float64.val_eq h, Float64.sgn_mul, Rat.intCast_mul]
  have e1 : (-(k : Int) + 1074).toNat = 1074 - k := by lia
  rw [e1]
  have e2 : UR = (((2 ^ (1074 - k) : Nat) : Int) : Rat) * ((2 ^ k : Nat) : Rat) := by
    rw [UR_nat, show ((2 : Nat) ^ 1074) = 2 ^ (1074 - k) * 2 ^ k by rw [← Nat.pow_add]; congr 1; lia, nat_two]
    rfl
  have hk0 : (0 : Rat) < ((2 ^ k : Nat) : Rat) := Rat.natCast_pos.mpr (Nat.two_pow_pos _)
  have hk1 : (0 : Rat) < (((2 ^ (1074 - k) : Nat) : Int) : Rat) := Rat.intCast_pos.mpr (Int.natCast_pos.mpr (Nat.two_pow_pos _))
  rw [e2]
  generalize (((2 ^ (1074 - k) : Nat) : Int) : Rat) = A at *
  generalize ((2 ^ k : Nat) : Rat) = C at *
  grind
theorem near_const {x : UInt64} {m k n : Nat} (h : decode x = .fin false m (-(k : Int))) (hk : k ≤ 1074) (p q : Nat) (hq : 0 < q) (ok : Nat.ble ((m * q - p * 2 ^ k) * 1125899906842624) (n * (2 ^ k * q)) = true) (ok' : Nat.ble ((p * 2 ^ k - m * q) * 1125899906842624) (n * (2 ^ k * q)) = true) {r : Rat} (hr : r * (q : Rat) = (p : Rat)) : Near x r n := by
  obtain ⟨f, e⟩ := rv_fin h hk
  have e' : rv x = (m : Rat) / ((2 ^ k : Nat) : Rat) := e
  have b1 := Nat.le_of_ble_eq_true ok
  have b2 := Nat.le_of_ble_eq_true ok'
  have hA : (0 : Rat) < ((2 ^ k : Nat) : Rat) := Rat.natCast_pos.mpr (Nat.two_pow_pos _)
  have hQ : (0 : Rat) < (q : Rat) := Rat.natCast_pos.mpr hq
  have c1 : (m * q) * 1125899906842624 ≤ n * (2 ^ k * q) + p * 2 ^ k * 1125899906842624 := by rw [Nat.sub_mul] at b1; exact Nat.sub_le_iff_le_add.mp b1
  have c2 : (p * 2 ^ k) * 1125899906842624 ≤ n * (2 ^ k * q) + m * q * 1125899906842624 := by rw [Nat.sub_mul] at b2; exact Nat.sub_le_iff_le_add.mp b2
  generalize 2 ^ k = A at *
  have d1 := Rat.natCast_le_natCast.mpr c1
  have d2 := Rat.natCast_le_natCast.mpr c2
  simp only [Rat.natCast_add, Rat.natCast_mul] at d1 d2
  have e50 : ((1125899906842624 : Nat) : Rat) = 1125899906842624 := rfl
  rw [e50] at d1 d2
  have hAQ : (0 : Rat) < (A : Rat) * (q : Rat) := Rat.mul_pos hA hQ
  refine ⟨f, ?_, ?_⟩
  · rw [e']
    refine Rat.le_of_mul_le_mul_right (c := (A : Rat) * (q : Rat)) ?_ hAQ
    have e1 : (m : Rat) / (A : Rat) * ((A : Rat) * (q : Rat)) = (m : Rat) * (q : Rat) := by grind
    rw [e1]
    grind
  · rw [e']
    refine Rat.le_of_mul_le_mul_right (c := (A : Rat) * (q : Rat)) ?_ hAQ
    have e1 : (m : Rat) / (A : Rat) * ((A : Rat) * (q : Rat)) = (m : Rat) * (q : Rat) := by grind
    rw [e1]
    grind
theorem n_f1 : Near f1 1 0 := near_const (m := 4503599627370496) (k := 52) (by kernel_rfl) (by decide) 1 1 (by decide) (by kernel_rfl) (by kernel_rfl) (by grind)
theorem n_f2 : Near f2 2 0 := near_const (m := 4503599627370496) (k := 51) (by kernel_rfl) (by decide) 2 1 (by decide) (by kernel_rfl) (by kernel_rfl) (by grind)
theorem n_f4 : Near f4 4 0 := near_const (m := 4503599627370496) (k := 50) (by kernel_rfl) (by decide) 4 1 (by decide) (by kernel_rfl) (by kernel_rfl) (by grind)
theorem n_f6 : Near f6 6 0 := near_const (m := 6755399441055744) (k := 50) (by kernel_rfl) (by decide) 6 1 (by decide) (by kernel_rfl) (by kernel_rfl) (by grind)
theorem n_fh : Near fh (1 / 2) 0 := near_const (m := 4503599627370496) (k := 53) (by kernel_rfl) (by decide) 1 2 (by decide) (by kernel_rfl) (by kernel_rfl) (by grind)
theorem n_third : Near third (1 / 3) 1 := near_const (m := 6004799503160661) (k := 54) (by kernel_rfl) (by decide) 1 3 (by decide) (by kernel_rfl) (by kernel_rfl) (by grind)
theorem n_sixth : Near sixth (1 / 6) 1 := near_const (m := 6004799503160661) (k := 55) (by kernel_rfl) (by decide) 1 6 (by decide) (by kernel_rfl) (by kernel_rfl) (by grind)
theorem n_twothird : Near twothird (2 / 3) 1 := near_const (m := 6004799503160661) (k := 53) (by kernel_rfl) (by decide) 2 3 (by decide) (by kernel_rfl) (by kernel_rfl) (by grind)
theorem n_c30 : Near c30 (3 / 10) 1 := near_const (m := 5404319552844595) (k := 54) (by kernel_rfl) (by decide) 3 10 (by decide) (by kernel_rfl) (by kernel_rfl) (by grind)
theorem n_c59 : Near c59 (59 / 100) 1 := near_const (m := 5314247560297185) (k := 53) (by kernel_rfl) (by decide) 59 100 (by decide) (by kernel_rfl) (by kernel_rfl) (by grind)
theorem n_c11 : Near c11 (11 / 100) 1 := near_const (m := 7926335344172073) (k := 56) (by kernel_rfl) (by decide) 11 100 (by decide) (by kernel_rfl) (by kernel_rfl) (by grind)
theorem n_c74 : Near c74 (74 / 100) 1 := near_const (m := 6665327448508334) (k := 53) (by kernel_rfl) (by decide) 74 100 (by decide) (by kernel_rfl) (by kernel_rfl) (by grind)
theorem n_c27 : Near c27 (27 / 100) 1 := near_const (m := 4863887597560136) (k := 54) (by kernel_rfl) (by decide) 27 100 (by decide) (by kernel_rfl) (by kernel_rfl) (by grind)
theorem n_c48 : Near c48 (48 / 100) 1 := near_const (m := 8646911284551352) (k := 54) (by kernel_rfl) (by decide) 48 100 (by decide) (by kernel_rfl) (by kernel_rfl) (by grind)
theorem n_c41 : Near c41 (41 / 100) 1 := near_const (m := 7385903388887613) (k := 54) (by kernel_rfl) (by decide) 41 100 (by decide) (by kernel_rfl) (by kernel_rfl) (by grind)
theorem n_ci1 : Near ci1 (410 / 433) 1 := near_const (m := 8528756800101170) (k := 53) (by kernel_rfl) (by decide) 410 433 (by decide) (by kernel_rfl) (by kernel_rfl) (by grind)
theorem n_cq1 : Near cq1 (270 / 433) 1 := near_const (m := 5616498380554430) (k := 53) (by kernel_rfl) (by decide) 270 433 (by decide) (by kernel_rfl) (by kernel_rfl) (by grind)
theorem n_ci2 : Near ci2 (7020 / 25547) 1 := near_const (m := 4950134165912378) (k := 54) (by kernel_rfl) (by decide) 7020 25547 (by decide) (by kernel_rfl) (by kernel_rfl) (by grind)
theorem n_cq2 : Near cq2 (16240 / 25547) 1 := near_const (m := 5725796214702067) (k := 53) (by kernel_rfl) (by decide) 16240 25547 (by decide) (by kernel_rfl) (by kernel_rfl) (by grind)
theorem n_ci3 : Near ci3 (480 / 433) 1 := near_const (m := 4992443004937270) (k := 52) (by kernel_rfl) (by decide) 480 433 (by decide) (by kernel_rfl) (by kernel_rfl) (by grind)
theorem n_cq3 : Near cq3 (740 / 433) 1 := near_const (m := 7696682965944959) (k := 52) (by kernel_rfl) (by decide) 740 433 (by decide) (by kernel_rfl) (by kernel_rfl) (by grind)
theorem n_0 : Near 0 0 0 := near_const (m := 0) (k := 1074) Flt.decode_zero (by decide) 0 1 (by decide) (by kernel_rfl) (by kernel_rfl) (by grind)
/-! bounds that are handed on -/
/-- between nought and one -/
noncomputable def U (r : Rat) : Prop := 0 ≤ r ∧ r ≤ 1
/-- at most three, by amount -/
noncomputable def W (r : Rat) : Prop := -3 ≤ r ∧ r ≤ 3
theorem U.w {r : Rat} (h : U r) : W r := by
  obtain ⟨h1, h2⟩ := h
  exact ⟨by grind, by grind⟩
theorem U.mul {r s : Rat} (hr : U r) (hs : U s) : U (r * s) := by
  have k1 := mul_le_abs (a := 1) (b := 1) (x := r) (y := s) (by have := hr.1; grind) hr.2 (by have := hs.1; grind) hs.2
  exact ⟨Rat.mul_nonneg hr.1 hs.1, by have := k1.2; grind⟩
theorem U.one_sub {r : Rat} (hr : U r) : U (1 - r) := by
  obtain ⟨h1, h2⟩ := hr
  exact ⟨by grind, by grind⟩
theorem W.add {r s : Rat} (hr : U r) (hs : U s) : W (r + s) := by
  obtain ⟨h1, h2⟩ := hr; obtain ⟨h3, h4⟩ := hs
  exact ⟨by grind, by grind⟩
theorem W.sub {r s : Rat} (hr : U r) (hs : U s) : W (r - s) := by
  obtain ⟨h1, h2⟩ := hr; obtain ⟨h3, h4⟩ := hs
  exact ⟨by grind, by grind⟩
theorem W.one_add {s : Rat} (hs : U s) : W (1 + s) := by
  obtain ⟨h3, h4⟩ := hs
  exact ⟨by grind, by grind⟩
theorem W.two_sub {s : Rat} (hs : U s) : W (2 - s) := by
  obtain ⟨h3, h4⟩ := hs
  exact ⟨by grind, by grind⟩
theorem W.two_mul {s : Rat} (hs : U s) : W (2 * s) := by
  obtain ⟨h3, h4⟩ := hs
  exact ⟨by grind, by grind⟩
theorem W.two : W 2 := ⟨by decide +kernel, by decide +kernel⟩
theorem W.one : W 1 := ⟨by decide +kernel, by decide +kernel⟩
theorem Near.addW {x y : UInt64} {r s : Rat} {n k : Nat} (hx : Near x r n) (hy : Near y s k) (hn : n ≤ small) (hk : k ≤ small) (wr : W r) (ws : W s) : Near (Float64.add x y) (r + s) (n + k + 1) := by
  obtain ⟨h1, h2⟩ := wr; obtain ⟨h3, h4⟩ := ws
  exact hx.add hy hn hk (by clear hx hy; grind) (by clear hx hy; grind)
theorem Near.subW {x y : UInt64} {r s : Rat} {n k : Nat} (hx : Near x r n) (hy : Near y s k) (hn : n ≤ small) (hk : k ≤ small) (wr : W r) (ws : W s) : Near (Float64.sub x y) (r - s) (n + k + 1) := by
  obtain ⟨h1, h2⟩ := wr; obtain ⟨h3, h4⟩ := ws
  exact hx.sub hy hn hk (by clear hx hy; grind) (by clear hx hy; grind)
theorem Near.mulWU {x y : UInt64} {r s : Rat} {n k : Nat} (hx : Near x r n) (hy : Near y s k) (hn : n ≤ small) (hk : k ≤ small) (wr : W r) (us : U s) : Near (Float64.mul x y) (r * s) (7 * n + 7 * k + 1) := by
  obtain ⟨h1, h2⟩ := wr; obtain ⟨h3, h4⟩ := us
  have k1 := mul_le_abs (a := 3) (b := 1) (x := r) (y := s) h1 h2 (by clear hx hy; grind) h4
  exact hx.mul hy hn hk (by clear hx hy k1; grind) (by clear hx hy k1; grind) (by clear hx hy k1; grind) (by clear hx hy k1; grind) (by clear hx hy; grind) (by clear hx hy; grind)
theorem Near.mulUW {x y : UInt64} {r s : Rat} {n k : Nat} (hx : Near x r n) (hy : Near y s k) (hn : n ≤ small) (hk : k ≤ small) (ur : U r) (ws : W s) : Near (Float64.mul x y) (r * s) (7 * n + 7 * k + 1) := by
  obtain ⟨h1, h2⟩ := ws; obtain ⟨h3, h4⟩ := ur
  have k1 := mul_le_abs (a := 1) (b := 3) (x := r) (y := s) (by clear hx hy; grind) h4 h1 h2
  exact hx.mul hy hn hk (by clear hx hy k1; grind) (by clear hx hy k1; grind) (by clear hx hy k1; grind) (by clear hx hy k1; grind) (by clear hx hy; grind) (by clear hx hy; grind)
theorem Near.divU {x y : UInt64} {r s q : Rat} {n k : Nat} (hx : Near x r n) (hy : Near y s k) (hn : n ≤ 1000000) (hk : k ≤ 1000000) (hq : r = q * s) (s1 : 1 / 32 ≤ s) (uq : U q) : Near (Float64.div x y) q (33 * n + 200 * k + 1) := by
  obtain ⟨h3, h4⟩ := uq
  exact hx.div hy hn hk hq s1 (by clear hx hy hq s1; grind) (by clear hx hy hq s1; grind)
theorem rv_fh : rv fh = 1 / 2 := by
  have i1 := n_fh.lo
  have i2 := n_fh.hi
  have en0 : ((0 : Nat) : Rat) = 0 := rfl
  rw [en0] at i1 i2
  grind
end Mine
end

section -- Fl4
open PySem PySem.W PyProof.Rows PySem.Calls
namespace Mine
set_option maxRecDepth 100000
set_option linter.unusedVariables false
set_option linter.unusedSimpArgs false
set_option exponentiation.threshold 5000
open PySem.Float64 (val Right decode sgn infMag)

theorem n_s16 : Near s16 (1 / 6) 1 := near_const (m := 6004799503160661) (k := 55) (by kernel_rfl) (by decide) 1 6 (by decide) (by kernel_rfl) (by kernel_rfl) (by grind)
theorem n_h12 : Near h12 (1 / 2) 0 := near_const (m := 4503599627370496) (k := 53) (by kernel_rfl) (by decide) 1 2 (by decide) (by kernel_rfl) (by kernel_rfl) (by grind)
theorem n_i1 : Near (Float64.ofInt 1) 1 0 := near_const (m := 4503599627370496) (k := 52) (by kernel_rfl) (by decide) 1 1 (by decide) (by kernel_rfl) (by kernel_rfl) (by grind)

theorem in16_rv {a : Int} (h0 : 0 ≤ a) (h1 : a ≤ 16) : Fn (divII a 16) ∧ rv (divII a 16) = (a : Rat) / 16 := by
  have r : Right (divII a 16) (decide (a < 0) != decide ((16 : Int) < 0)) (a.natAbs * 2 ^ 1074) 16 := Float64.ofFrac_right (by decide) (by show a.natAbs * 2 ^ 1074 * 16 = a.natAbs * 2 ^ 1074 * 16; rfl) (by decide)
  have hn : (decide (a < 0) != decide ((16 : Int) < 0)) = false := by rw [decide_eq_false (by lia), decide_eq_false (by decide)]; rfl
  rw [hn] at r
  have e4 : (2 : Nat) ^ 1074 = 2 ^ 1070 * 16 := by rw [show (1074 : Nat) = 1070 + 4 by rfl, Nat.pow_add]
  obtain ⟨f, v⟩ := right_exact (c := 1070) (j := a.natAbs) r (by decide) (by decide) (by lia) (by rw [e4]; generalize 2 ^ 1070 = z; grind)
  refine ⟨f, ?_⟩
  have hp := UR_pos
  have v' : val (divII a 16) * 16 = a * UI := by
    rw [v, UI_eq, e4]
    generalize 2 ^ 1070 = z
    unfold sgn
    rw [if_neg (by decide), Int.natCast_mul, Int.natCast_mul]
    rw [show ((a.natAbs : Nat) : Int) = a by lia]
    grind
  have v2 := congrArg (fun i : Int => (i : Rat)) v'
  simp only [Rat.intCast_mul] at v2
  rw [rv_val] at v2
  have e1 : ((UI : Int) : Rat) = UR := rfl
  have e2 : ((16 : Int) : Rat) = 16 := rfl
  rw [e1, e2] at v2
  have hne : UR ≠ 0 := by grind
  have : (rv (divII a 16) * 16 - (a : Rat)) * UR = 0 := by grind
  rcases Rat.mul_eq_zero.mp this with h | h
  · grind
  · exact (hne h).elim
theorem in16 {a : Int} (h0 : 0 ≤ a) (h1 : a ≤ 16) : Near (divII a 16) ((a : Rat) / 16) 0 := by
  obtain ⟨f, e⟩ := in16_rv h0 h1
  exact ⟨f, by rw [e]; grind, by rw [e]; grind⟩
theorem ofInt_rv {i : Int} (h1 : i.natAbs ≤ 2 ^ 53) : Fn (Float64.ofInt i) ∧ rv (Float64.ofInt i) = (i : Rat) := by
  obtain ⟨f, v⟩ := right_exact (c := 1074) (j := i.natAbs) (Float64.ofInt_right i) (by decide) (by decide) h1 (by rw [Nat.one_mul])
  refine ⟨f, ?_⟩
  have hp := UR_pos
  have v' : val (Float64.ofInt i) = i * UI := by
    rw [v, UI_eq]
    generalize 2 ^ 1074 = z
    unfold sgn
    split
    · rename_i q
      rw [Int.natCast_mul, ← Int.neg_mul]
      congr 1
      have : i < 0 := by simpa using q
      lia
    · rename_i q
      rw [Int.natCast_mul]
      congr 1
      have : ¬ i < 0 := by simpa using q
      lia
  unfold rv
  rw [v', Rat.intCast_mul]
  have e1 : ((UI : Int) : Rat) = UR := rfl
  rw [e1]
  grind

/-! the remainder by 1.0 -/
theorem dec_f1 : decode f1 = .fin false 4503599627370496 (-52) := by kernel_rfl
theorem fmod_one {x : UInt64} {a : Bool} {m : Nat} {e : Int} (dx : decode x = .fin a m e) : Fn (Float64.fmod x f1) ∧ val (Float64.fmod x f1) = sgn a ((val x).natAbs % 2 ^ 1074) := by
  have he := Float64.decode_ge dx
  obtain ⟨hm, _⟩ := Float64.decode_le dx
  have h0 : Float64.fmod x f1 = Float64.ofBin a (m * 2 ^ (e - min e (-52)).toNat % (4503599627370496 * 2 ^ (-52 - min e (-52)).toNat)) (min e (-52)) := by
    unfold Float64.fmod
    rw [dx, dec_f1]
    rfl
  rw [h0]
  have hg : -1074 ≤ min e (-52) := by lia
  have r := Float64.ofBin_right (neg := a) (M := m * 2 ^ (e - min e (-52)).toNat % (4503599627370496 * 2 ^ (-52 - min e (-52)).toNat)) hg
  have hM : m * 2 ^ (e - min e (-52)).toNat % (4503599627370496 * 2 ^ (-52 - min e (-52)).toNat) ≤ 2 ^ 53 := by
    by_cases h : e ≤ -52
    · have e1 : (e - min e (-52)).toNat = 0 := by lia
      rw [e1]
      have := Nat.mod_le (m * 2 ^ 0) (4503599627370496 * 2 ^ (-52 - min e (-52)).toNat)
      lia
    · have e1 : (-52 - min e (-52)).toNat = 0 := by lia
      rw [e1]
      have := Nat.mod_lt (m * 2 ^ (e - min e (-52)).toNat) (show 0 < 4503599627370496 * 2 ^ 0 by decide)
      lia
  have hW : m * 2 ^ (e - min e (-52)).toNat % (4503599627370496 * 2 ^ (-52 - min e (-52)).toNat) * 2 ^ (min e (-52) + 1074).toNat = (val x).natAbs % 2 ^ 1074 := by
    rw [Float64.val_natAbs dx, ← Nat.mul_mod_mul_right, Nat.mul_assoc, ← Nat.pow_add, Nat.mul_assoc, ← Nat.pow_add]
    have e1 : (e - min e (-52)).toNat + (min e (-52) + 1074).toNat = (e + 1074).toNat := by lia
    have e2 : (-52 - min e (-52)).toNat + (min e (-52) + 1074).toNat = 1022 := by lia
    rw [e1, e2, show (4503599627370496 : Nat) = 2 ^ 52 by rfl, ← Nat.pow_add]
  obtain ⟨f, v⟩ := right_exact (c := (min e (-52) + 1074).toNat) r (by decide) (by lia) hM (by rw [Nat.one_mul])
  rw [hW] at v
  exact ⟨f, v⟩
theorem divmod_snd (x y : UInt64) : (Float64.divmod x y).2 = if Float64.isZero (Float64.fmod x y) = true then Float64.copysign (Float64.zero false) y else
    if (Float64.lt y (Float64.zero false) != Float64.lt (Float64.fmod x y) (Float64.zero false)) = true then Float64.add (Float64.fmod x y) y else Float64.fmod x y := by
  unfold Float64.divmod
  simp only
  split
  · rfl
  · split <;> rfl
theorem lt_f1 : Float64.lt f1 (Float64.zero false) = false := by kernel_rfl
theorem copy_f1 : Float64.copysign (Float64.zero false) f1 = 0 := by kernel_rfl
theorem isZero_val {x : UInt64} (hx : Fn x) : Float64.isZero x = true ↔ val x = 0 := by
  obtain ⟨a, m, e, d⟩ := hx
  have hp : 0 < 2 ^ (e + 1074).toNat := Nat.two_pow_pos _
  unfold Float64.isZero
  rw [Float64.val_eq d, d]
  cases m with
  | zero => simp [sgn]
  | succ m =>
    have : 0 < (m + 1) * 2 ^ (e + 1074).toNat := Nat.mul_pos (by lia) hp
    generalize (m + 1) * 2 ^ (e + 1074).toNat = t at *
    simp only [sgn]
    constructor
    · intro h; cases h
    · intro h; split at h <;> lia
theorem val_zero_lt {x : UInt64} (hx : Fn x) : Float64.lt x (Float64.zero false) = true ↔ val x < 0 := by
  obtain ⟨f0, v0⟩ := zero_fn false
  have h := flt_iff hx f0
  rw [← rv_lt, v0] at h
  exact h
theorem rv_zero : rv 0 = 0 := by
  have := n_0
  obtain ⟨f, l, h⟩ := n_0
  grind
theorem fmod1_rv {x : UInt64} (hx : Fn x) (b1 : -3 ≤ rv x) (b2 : rv x ≤ 3) :
    ∃ j : Int, (-3 ≤ j ∧ j ≤ 3) ∧ Fn (fmod1 x) ∧ (rv x - j - EE ≤ rv (fmod1 x) ∧ rv (fmod1 x) ≤ rv x - j + EE) ∧ 0 ≤ rv x - j ∧ rv x - j < 1 := by
  have hx' := hx
  obtain ⟨a, m, e, dx⟩ := hx
  obtain ⟨fm, vm⟩ := fmod_one dx
  have hp := UR_pos
  have hUp := UI_pos
  have hU : (UI : Rat) = UR := rfl
  have hN : ((2 ^ 1074 : Nat) : Int) = UI := UI_eq.symm
  have va : val x = sgn a (val x).natAbs := by rw [Float64.val_natAbs dx, Float64.val_eq dx]
  -- the floor
  have d1 := Int.emod_add_mul_ediv (val x) UI
  have d2 := Int.emod_nonneg (val x) (show UI ≠ 0 by lia)
  have d3 := Int.emod_lt_of_pos (val x) hUp
  have hr : (rv x - ((val x / UI : Int) : Rat)) * UR = ((val x % UI : Int) : Rat) := by
    have := congrArg (fun i : Int => (i : Rat)) d1
    simp only [Rat.intCast_add, Rat.intCast_mul] at this
    rw [hU, rv_val] at this
    grind
  have g0 : 0 ≤ rv x - ((val x / UI : Int) : Rat) := by
    refine Rat.le_of_mul_le_mul_right (c := UR) ?_ hp
    rw [hr, Rat.zero_mul]
    exact Rat.intCast_nonneg.mpr d2
  have g1 : rv x - ((val x / UI : Int) : Rat) < 1 := by
    refine Rat.lt_of_mul_lt_mul_right (c := UR) ?_ (Rat.le_of_lt hp)
    rw [hr, Rat.one_mul, ← hU]
    exact Rat.intCast_lt_intCast.mpr d3
  generalize hj : val x / UI = j at *
  have j1 : (j : Rat) ≤ ((3 : Int) : Rat) := by
    have e3 : ((3 : Int) : Rat) = 3 := rfl
    rw [e3]; grind
  have j2 : ((-4 : Int) : Rat) < (j : Rat) := by
    have e3 : ((-4 : Int) : Rat) = -4 := rfl
    rw [e3]; grind
  have j1' := Rat.intCast_le_intCast.mp j1
  have j2' := Rat.intCast_lt_intCast.mp j2
  refine ⟨j, ⟨by lia, j1'⟩, ?_⟩
  refine (fun (h : Fn (fmod1 x) ∧ (rv x - j - EE ≤ rv (fmod1 x) ∧ rv (fmod1 x) ≤ rv x - j + EE)) => ⟨h.1, h.2, g0, g1⟩) ?_
  have em : ((((val x).natAbs % 2 ^ 1074 : Nat)) : Int) = ((val x).natAbs : Int) % UI := by rw [Int.natCast_emod, hN]
  generalize (val x).natAbs % 2 ^ 1074 = M at *
  have hfx : fmod1 x = (Float64.divmod x f1).2 := rfl
  rw [hfx, divmod_snd, lt_f1, copy_f1]
  by_cases hz : Float64.isZero (Float64.fmod x f1) = true
  · rw [if_pos hz]
    have hz' := (isZero_val fm).mp hz
    have hM : M = 0 := by rw [vm] at hz'; unfold sgn at hz'; split at hz' <;> lia
    have h0 : val x % UI = 0 := by
      rw [hM] at em
      have : UI ∣ ((val x).natAbs : Int) := Int.dvd_of_emod_eq_zero em.symm
      exact Int.emod_eq_zero_of_dvd (Int.dvd_natAbs.mp this)
    rw [h0] at hr
    have hz0 : ((0 : Int) : Rat) = 0 := rfl
    rw [hz0] at hr
    have : rv x - (j : Rat) = 0 := by
      rcases Rat.mul_eq_zero.mp hr with q | q
      · exact q
      · grind
    refine ⟨n_0.f, ?_⟩
    rw [rv_zero]
    grind
  · rw [if_neg hz]
    have hz' : ¬ val (Float64.fmod x f1) = 0 := fun q => hz ((isZero_val fm).mpr q)
    cases a with
    | true =>
      have hMp : 0 < M := by rw [vm] at hz'; unfold sgn at hz'; simp at hz'; lia
      have hlt : Float64.lt (Float64.fmod x f1) (Float64.zero false) = true := (val_zero_lt fm).mpr (by rw [vm]; show -(M : Int) < 0; lia)
      rw [hlt, if_pos (by decide)]
      have va' : val x = -((val x).natAbs : Int) := va
      have hmod : val x % UI = UI - (M : Int) := by
        have k1 := Int.emod_add_mul_ediv ((val x).natAbs : Int) UI
        rw [← em] at k1
        have k2 := Int.emod_lt_of_pos ((val x).natAbs : Int) hUp
        rw [← em] at k2
        generalize ((val x).natAbs : Int) / UI = q at *
        have : val x = (UI - M) + UI * (-q - 1) := by rw [va', ← k1]; grind
        rw [this, Int.add_mul_emod_self_left]
        exact Int.emod_eq_of_lt (by lia) (by lia)
      have hv : rv (Float64.fmod x f1) * UR = -((M : Int) : Rat) := by rw [← rv_val, vm]; rfl
      rw [hmod, Rat.intCast_sub, hU] at hr
      have heq : rv (Float64.fmod x f1) + 1 = rv x - j := by
        have : (rv (Float64.fmod x f1) + 1 - (rv x - j)) * UR = 0 := by grind
        rcases Rat.mul_eq_zero.mp this with q | q
        · grind
        · grind
      obtain ⟨q1, q2, q3⟩ := n_f1
      have hone : rv f1 = 1 := by grind
      have := add_rv sz8 fm q1 (by rw [hone]; grind) (by rw [hone]; grind)
      rw [hone, heq] at this
      exact ⟨this.1, by grind, by grind⟩
    | false =>
      have hlt : Float64.lt (Float64.fmod x f1) (Float64.zero false) = false := by
        have h := val_zero_lt fm
        rw [vm] at h
        have : ¬ (sgn false M < 0) := by show ¬ ((M : Int) < 0); lia
        simpa [this] using h
      rw [hlt, if_neg (by decide)]
      have va' : val x = ((val x).natAbs : Int) := va
      have hmod : val x % UI = (M : Int) := by rw [em, ← va']
      have hv : rv (Float64.fmod x f1) * UR = ((M : Int) : Rat) := by rw [← rv_val, vm]; rfl
      rw [hmod, ← hv] at hr
      have heq : rv x - j = rv (Float64.fmod x f1) := by
        have : (rv (Float64.fmod x f1) - (rv x - j)) * UR = 0 := by grind
        rcases Rat.mul_eq_zero.mp this with q | q
        · grind
        · grind
      exact ⟨fm, by grind, by grind⟩
end Mine
end

section -- Fl5
open PySem PySem.W PyProof.Rows PySem.Calls
namespace Mine
set_option maxRecDepth 100000
set_option linter.unusedVariables false
set_option linter.unusedSimpArgs false
set_option exponentiation.threshold 5000
open PySem.Float64 (val Right decode sgn infMag)

theorem trunc_val {x : UInt64} (hx : Fn x) (h0 : 0 ≤ val x) : truncI x = val x / UI := by
  obtain ⟨a, m, e, d⟩ := hx
  have he := Float64.decode_ge d
  unfold truncI
  rw [Flt.toInt_fin d]
  rw [Float64.val_eq d] at h0 ⊢
  have hN : ((2 ^ 1074 : Nat) : Int) = UI := UI_eq.symm
  have key : Float64.floorOf false m e = ((m * 2 ^ (e + 1074).toNat : Nat) : Int) / UI := by
    unfold Float64.floorOf
    rw [← hN]
    split
    · rename_i h
      have e1 : (e + 1074).toNat = e.toNat + 1074 := by lia
      rw [e1, Nat.pow_add, ← Nat.mul_assoc, ← Int.natCast_ediv, Nat.mul_div_cancel _ (Nat.two_pow_pos _)]
      simp [sgn]
    · rename_i h
      have e1 : (2 : Nat) ^ 1074 = 2 ^ (-e).toNat * 2 ^ (e + 1074).toNat := by rw [← Nat.pow_add]; congr 1; lia
      rw [e1, ← Int.natCast_ediv, Nat.mul_div_mul_right _ _ (Nat.two_pow_pos _), Int.fdiv_eq_ediv_of_nonneg _ (by exact Int.le_of_lt (Int.pow_pos (by decide)))]
      simp [sgn]
  unfold Float64.truncOf
  cases a with
  | false =>
    rw [if_neg (by decide), key]; rfl
  | true =>
    have hm : m = 0 := by
      have hp : 0 < 2 ^ (e + 1074).toNat := Nat.two_pow_pos _
      rcases Nat.eq_zero_or_pos m with h | h
      · exact h
      · have := Nat.mul_pos h hp
        unfold sgn at h0
        rw [if_pos rfl] at h0
        lia
    subst hm
    rw [if_pos rfl]
    unfold Float64.ceilOf
    rw [show (!true) = false from rfl, key, Nat.zero_mul]
    simp [sgn]
theorem trunc_rv {x : UInt64} (hx : Fn x) (b1 : 0 ≤ rv x) : 0 ≤ rv x - (truncI x : Rat) ∧ rv x - (truncI x : Rat) < 1 := by
  have hp := UR_pos
  have hUp := UI_pos
  have hU : (UI : Rat) = UR := rfl
  have h0 : 0 ≤ val x := by
    have : (0 : Rat) ≤ (val x : Rat) := by rw [rv_val]; exact Rat.mul_nonneg b1 (Rat.le_of_lt hp)
    exact Rat.intCast_nonneg.mp this
  rw [trunc_val hx h0]
  have d1 := Int.emod_add_mul_ediv (val x) UI
  have d2 := Int.emod_nonneg (val x) (show UI ≠ 0 by lia)
  have d3 := Int.emod_lt_of_pos (val x) hUp
  have hr : (rv x - ((val x / UI : Int) : Rat)) * UR = ((val x % UI : Int) : Rat) := by
    have := congrArg (fun i : Int => (i : Rat)) d1
    simp only [Rat.intCast_add, Rat.intCast_mul] at this
    rw [hU, rv_val] at this
    grind
  constructor
  · refine Rat.le_of_mul_le_mul_right (c := UR) ?_ hp
    rw [hr, Rat.zero_mul]
    exact Rat.intCast_nonneg.mpr d2
  · refine Rat.lt_of_mul_lt_mul_right (c := UR) ?_ (Rat.le_of_lt hp)
    rw [hr, Rat.one_mul, ← hU]
    exact Rat.intCast_lt_intCast.mpr d3

theorem near_core {n d U s j : Nat} (hd : 0 < d) (hU : 0 < U) (h : n * U = s * d) (hs1 : 2 * s < 2 * (j * U) + U) (hs2 : 2 * (j * U) < 2 * s + U) : Float64.halfEven n d = j := by
  have hn := Float64.halfEven_nearest n d hd j
  have q1 : 2 * n < 2 * (j * d) + d := by
    have : d * (2 * s) < d * (2 * (j * U) + U) := Nat.mul_lt_mul_of_pos_left hs1 hd
    refine Nat.lt_of_mul_lt_mul_right (a := U) ?_
    calc 2 * n * U = d * (2 * s) := by rw [Nat.mul_assoc, h]; grind
      _ < _ := this
      _ = _ := by grind
  have q2 : 2 * (j * d) < 2 * n + d := by
    have : d * (2 * (j * U)) < d * (2 * s + U) := Nat.mul_lt_mul_of_pos_left hs2 hd
    refine Nat.lt_of_mul_lt_mul_right (a := U) ?_
    calc 2 * (j * d) * U = d * (2 * (j * U)) := by grind
      _ < _ := this
      _ = 2 * (n * U) + d * U := by rw [h]; grind
      _ = _ := by grind
  generalize hH : Float64.halfEven n d = H at *
  have c1 : d * j = j * d := Nat.mul_comm _ _
  unfold Float64.dist at hn
  rcases Nat.lt_trichotomy H j with g | g | g
  · exfalso
    have : d * (H + 1) ≤ d * j := Nat.mul_le_mul_left d g
    rw [Nat.mul_add, Nat.mul_one] at this
    lia
  · exact g
  · exfalso
    have : d * (j + 1) ≤ d * H := Nat.mul_le_mul_left d g
    rw [Nat.mul_add, Nat.mul_one] at this
    lia
theorem nearest_is {x : UInt64} (hx : Fn x) {i : Int} (h0 : 0 ≤ i) (b1 : i - 1 / 4 ≤ rv x) (b2 : rv x ≤ i + 1 / 4) : Flt.toInt Float64.nearestOf x = i := by
  have hp := UR_pos
  have hUp := UI_pos
  have hU : (UI : Rat) = UR := rfl
  have hN : ((2 ^ 1074 : Nat) : Int) = UI := UI_eq.symm
  have c1 : 4 * (i * UI) - UI ≤ 4 * val x := by
    refine Rat.intCast_le_intCast.mp ?_
    rw [Rat.intCast_sub, Rat.intCast_mul, Rat.intCast_mul, Rat.intCast_mul, hU, rv_val]
    have := Rat.mul_le_mul_of_nonneg_right b1 (Rat.le_of_lt hp)
    have e : ((4 : Int) : Rat) = 4 := rfl
    rw [e]
    grind
  have c2 : 4 * val x ≤ 4 * (i * UI) + UI := by
    refine Rat.intCast_le_intCast.mp ?_
    rw [Rat.intCast_add, Rat.intCast_mul, Rat.intCast_mul, Rat.intCast_mul, hU, rv_val]
    have := Rat.mul_le_mul_of_nonneg_right b2 (Rat.le_of_lt hp)
    have e : ((4 : Int) : Rat) = 4 := rfl
    rw [e]
    grind
  obtain ⟨a, m, e, d⟩ := hx
  have he := Float64.decode_ge d
  rw [Flt.toInt_fin d]
  have va : val x = sgn a (val x).natAbs := by rw [Float64.val_natAbs d, Float64.val_eq d]
  have hs := Float64.shift_one m e 1074 (by lia)
  have hd : 0 < (Float64.shift m 1 e).2 := Float64.shift_pos _ _ _ (by decide)
  have e2 : (e + ((1074 : Nat) : Int)).toNat = (e + 1074).toNat := rfl
  rw [e2, ← Float64.val_natAbs d] at hs
  have hN' : 0 < (2 : Nat) ^ 1074 := Nat.two_pow_pos _
  obtain ⟨j, rfl⟩ := Int.eq_ofNat_of_zero_le h0
  have hne : Float64.nearestOf a m e = sgn a (Float64.halfEven (Float64.shift m 1 e).1 (Float64.shift m 1 e).2) := rfl
  rw [hne]
  have hmul : (j : Int) * UI = ((j * 2 ^ 1074 : Nat) : Int) := by rw [Int.natCast_mul, hN]
  rw [hmul] at c1 c2
  rw [← hN] at c1 c2
  rcases Nat.eq_zero_or_pos j with hj | hj
  · subst hj
    rw [near_core (j := 0) hd hN' hs (by lia) (by lia)]
    unfold sgn; cases a <;> rfl
  · have hj1 : 1 * 2 ^ 1074 ≤ j * 2 ^ 1074 := Nat.mul_le_mul_right _ hj
    cases a with
    | true =>
      exfalso
      have va' : val x = -((val x).natAbs : Int) := va
      lia
    | false =>
      have va' : val x = ((val x).natAbs : Int) := va
      rw [near_core (j := j) hd hN' hs (by lia) (by lia)]
      rfl

/-- a part that is near a 16th -/
theorem part_is {x : UInt64} {e : Int} {n : Nat} (hn : n ≤ 10000000) (h0 : 0 ≤ e) (h1 : e ≤ 16) (hx : Near x ((e : Rat) / 16) n) : Float64.isFinite (scaled x) = true ∧ roundI x = e * 1048576 := by
  obtain ⟨f, l, u⟩ := hx
  have d1 := near_bd (n := n) (Nat.le_trans hn (by decide))
  obtain ⟨f2, v2⟩ := ofInt_rv (i := 16777216) (by decide)
  have e24 : (((16777216 : Int)) : Rat) = 16777216 := rfl
  rw [e24] at v2
  have h0' : ((0 : Int) : Rat) ≤ (e : Rat) := Rat.intCast_le_intCast.mpr h0
  have h1' : (e : Rat) ≤ ((16 : Int) : Rat) := Rat.intCast_le_intCast.mpr h1
  have z0 : ((0 : Int) : Rat) = 0 := rfl
  have z16 : ((16 : Int) : Rat) = 16 := rfl
  rw [z0] at h0'
  rw [z16] at h1'
  have hn' : ((n : Nat) : Rat) ≤ ((10000000 : Nat) : Rat) := Rat.natCast_le_natCast.mpr hn
  have e6 : ((10000000 : Nat) : Rat) = 10000000 := rfl
  rw [e6] at hn'
  have := mul_rv sz25 f f2 (by rw [v2]; grind) (by rw [v2]; grind)
  rw [v2] at this
  obtain ⟨g, g1, g2⟩ := this
  refine ⟨fin_of g, ?_⟩
  have ee : ((e * 1048576 : Int) : Rat) = (e : Rat) * 1048576 := by rw [Rat.intCast_mul]; rfl
  refine nearest_is g (by lia) ?_ ?_
  · rw [ee]; show _ ≤ rv (Float64.mul x (Float64.ofInt 16777216)); grind
  · rw [ee]; show rv (Float64.mul x (Float64.ofInt 16777216)) ≤ _; grind
end Mine
end

section -- Fl6
open PySem PySem.W PyProof.Rows PySem.Calls
namespace Mine
set_option maxRecDepth 100000
set_option linter.unusedVariables false
set_option linter.unusedSimpArgs false
set_option exponentiation.threshold 5000
open PySem.Float64 (val Right decode sgn infMag)

theorem moved_near {x y z : UInt64} {e f g : Int} {n : Nat} (hn : n ≤ 10000000) (he : 0 ≤ e ∧ e ≤ 16) (hf : 0 ≤ f ∧ f ≤ 16) (hg : 0 ≤ g ∧ g ≤ 16)
    (hx : Near x ((e : Rat) / 16) n) (hy : Near y ((f : Rat) / 16) n) (hz : Near z ((g : Rat) / 16) n) : MovedTo e f g (.tup [.flt x, .flt y, .flt z]) := by
  have h1 := part_is hn he.1 he.2 hx
  have h2 := part_is hn hf.1 hf.2 hy
  have h3 := part_is hn hg.1 hg.2 hz
  exact ⟨x, y, z, rfl, ⟨h1.1, h2.1, h3.1⟩, h1.2, h2.2, h3.2⟩

theorem clamp0 {K : UInt64 → Prop} {x : UInt64} {r : Rat} {n : Nat} (hx : Near x r n) (h : 0 ≤ r) (hK : ∀ x', Near x' r n → K x') : condP (flt x 0) (K 0) (K x) := by
  refine ⟨fun q => hK 0 ?_, fun _ => hK x hx⟩
  have := (flt_iff hx.f n_0.f).mp q
  rw [rv_zero] at this
  obtain ⟨f, l, u⟩ := hx
  refine ⟨n_0.f, by rw [rv_zero]; grind, ?_⟩
  rw [rv_zero]
  have : (0 : Rat) ≤ (n : Rat) := Rat.natCast_nonneg
  grind
theorem rv_f1 : rv f1 = 1 := by
  obtain ⟨f, l, u⟩ := n_f1
  grind
theorem clamp1 {K : UInt64 → Prop} {x : UInt64} {r : Rat} {n : Nat} (hx : Near x r n) (h : r ≤ 1) (hK : ∀ x', Near x' r n → K x') : condP (fgt x f1) (K f1) (K x) := by
  refine ⟨fun q => hK f1 ?_, fun _ => hK x hx⟩
  have := (fgt_iff hx.f n_f1.f).mp q
  rw [rv_f1] at this
  obtain ⟨f, l, u⟩ := hx
  refine ⟨n_f1.f, ?_, by rw [rv_f1]; grind⟩
  rw [rv_f1]
  have : (0 : Rat) ≤ (n : Rat) := Rat.natCast_nonneg
  grind

theorem cast16 {a : Int} (h : 0 ≤ a ∧ a ≤ 16) : 0 ≤ (a : Rat) / 16 ∧ (a : Rat) / 16 ≤ 1 := by
  have h0' : ((0 : Int) : Rat) ≤ (a : Rat) := Rat.intCast_le_intCast.mpr h.1
  have h1' : (a : Rat) ≤ ((16 : Int) : Rat) := Rat.intCast_le_intCast.mpr h.2
  have z0 : ((0 : Int) : Rat) = 0 := rfl
  have z16 : ((16 : Int) : Rat) = 16 := rfl
  rw [z0] at h0'
  rw [z16] at h1'
  grind
noncomputable def cbK (Q : V → Prop) (r g b : UInt64) : Prop := condP (fgt b f1) (Q (.tup [.flt r, .flt g, .flt f1])) (Q (.tup [.flt r, .flt g, .flt b]))
noncomputable def cgK (Q : V → Prop) (r g b : UInt64) : Prop := condP (fgt g f1) (cbK Q r f1 b) (cbK Q r g b)
noncomputable def crK (Q : V → Prop) (r g b : UInt64) : Prop := condP (fgt r f1) (cgK Q f1 g b) (cgK Q r g b)
noncomputable def lbK (Q : V → Prop) (r g b : UInt64) : Prop := condP (flt b 0) (crK Q r g 0) (crK Q r g b)
noncomputable def lgK (Q : V → Prop) (r g b : UInt64) : Prop := condP (flt g 0) (lbK Q r 0 b) (lbK Q r g b)
theorem rgbYiq_eq (y i q : UInt64) (Q : V → Prop) : rgbYiq y i q Q = condP (flt (Float64.add (Float64.add y (Float64.mul ci1 i)) (Float64.mul cq1 q)) 0) (lgK Q 0 (Float64.sub (Float64.sub y (Float64.mul ci2 i)) (Float64.mul cq2 q)) (Float64.add (Float64.sub y (Float64.mul ci3 i)) (Float64.mul cq3 q)))
    (lgK Q (Float64.add (Float64.add y (Float64.mul ci1 i)) (Float64.mul cq1 q)) (Float64.sub (Float64.sub y (Float64.mul ci2 i)) (Float64.mul cq2 q)) (Float64.add (Float64.sub y (Float64.mul ci3 i)) (Float64.mul cq3 q))) := rfl
/-! linear forms in the three parts, their coefficients written -/
noncomputable def bdB (α β γ δ : Rat) : Bool := decide (α.abs + β.abs + γ.abs + δ.abs ≤ 6)
theorem bd_lin {α β γ δ r g b : Rat} (h : bdB α β γ δ = true) (r0 : 0 ≤ r ∧ r ≤ 1) (g0 : 0 ≤ g ∧ g ≤ 1) (b0 : 0 ≤ b ∧ b ≤ 1) : -6 ≤ α * r + β * g + γ * b + δ ∧ α * r + β * g + γ * b + δ ≤ 6 := by
  have h := of_decide_eq_true h
  have one : ∀ q x : Rat, 0 ≤ x ∧ x ≤ 1 → -q.abs ≤ q * x ∧ q * x ≤ q.abs := by
    intro q x hx
    have n1 := mul_le_abs (a := q.abs) (b := 1) (x := q) (y := x) (by unfold Rat.abs; split <;> grind) (by unfold Rat.abs; split <;> grind) (by grind) (by grind)
    grind
  have h1 := one α r r0
  have h2 := one β g g0
  have h3 := one γ b b0
  have h4 := one δ 1 (by grind)
  grind
structure Lin (r g b : Rat) (x : UInt64) (α β γ δ : Rat) (n : Nat) : Prop where
  near : Near x (α * r + β * g + γ * b + δ) n
  bd : bdB α β γ δ = true
section
variable {r g b : Rat} (r0 : 0 ≤ r ∧ r ≤ 1) (g0 : 0 ≤ g ∧ g ≤ 1) (b0 : 0 ≤ b ∧ b ≤ 1) {x y : UInt64} {α β γ δ α' β' γ' δ' : Rat} {n k : Nat}
include r0 g0 b0
theorem Lin.add (hx : Lin r g b x α β γ δ n) (hy : Lin r g b y α' β' γ' δ' k) (hn : n ≤ small) (hk : k ≤ small) (ok : bdB (α + α') (β + β') (γ + γ') (δ + δ') = true) : Lin r g b (Float64.add x y) (α + α') (β + β') (γ + γ') (δ + δ') (n + k + 1) := by
  have bd := bd_lin ok r0 g0 b0
  have e : α * r + β * g + γ * b + δ + (α' * r + β' * g + γ' * b + δ') = (α + α') * r + (β + β') * g + (γ + γ') * b + (δ + δ') := by grind
  exact ⟨(hx.near.add hy.near hn hk (by rw [e]; grind) (by rw [e]; grind)).to e, ok⟩
theorem Lin.neg (hx : Lin r g b x α β γ δ n) (ok : bdB (-α) (-β) (-γ) (-δ) = true) : Lin r g b (Float64.neg x) (-α) (-β) (-γ) (-δ) n :=
  ⟨hx.near.neg.to (by grind), ok⟩
theorem Lin.sub (hx : Lin r g b x α β γ δ n) (hy : Lin r g b y α' β' γ' δ' k) (hn : n ≤ small) (hk : k ≤ small) (ok : bdB (α - α') (β - β') (γ - γ') (δ - δ') = true) : Lin r g b (Float64.sub x y) (α - α') (β - β') (γ - γ') (δ - δ') (n + k + 1) := by
  have bd := bd_lin ok r0 g0 b0
  have e : α * r + β * g + γ * b + δ - (α' * r + β' * g + γ' * b + δ') = (α - α') * r + (β - β') * g + (γ - γ') * b + (δ - δ') := by grind
  exact ⟨(hx.near.sub hy.near hn hk (by rw [e]; grind) (by rw [e]; grind)).to e, ok⟩
theorem Lin.mul {c : UInt64} {q : Rat} (hc : Near c q k) (hx : Lin r g b x α β γ δ n) (hk : k ≤ small) (hn : n ≤ small) (hq : decide (-6 ≤ q ∧ q ≤ 6) = true) (ok : bdB (q * α) (q * β) (q * γ) (q * δ) = true) : Lin r g b (Float64.mul c x) (q * α) (q * β) (q * γ) (q * δ) (7 * k + 7 * n + 1) := by
  have bd := bd_lin ok r0 g0 b0
  have bx := bd_lin hx.bd r0 g0 b0
  have hq := of_decide_eq_true hq
  have e : q * (α * r + β * g + γ * b + δ) = q * α * r + q * β * g + q * γ * b + q * δ := by grind
  exact ⟨(hc.mul hx.near hk hn hq.1 hq.2 bx.1 bx.2 (by rw [e]; grind) (by rw [e]; grind)).to e, ok⟩
end
theorem yiq_near {x y z : UInt64} {r g b : Rat} (hx : Near x r 0) (hy : Near y g 0) (hz : Near z b 0) (r0 : 0 ≤ r ∧ r ≤ 1) (g0 : 0 ≤ g ∧ g ≤ 1) (b0 : 0 ≤ b ∧ b ≤ 1) {Q : V → Prop}
    (hQ : ∀ x' y' z', Near x' (1 - r) 100000 → Near y' (1 - g) 100000 → Near z' (1 - b) 100000 → Q (.tup [.flt x', .flt y', .flt z'])) :
    yiqK x y z fun d => ∃ u i q, d = .tup [.flt u, .flt i, .flt q] ∧ rgbYiq (fsub (Float64.ofInt 1) u) (Float64.neg i) (Float64.neg q) Q := by
  unfold yiqK
  refine ⟨_, _, _, rfl, ?_⟩
  delta fadd fsub fmul
  have lx : Lin r g b x 1 0 0 0 0 := ⟨hx.to (by grind), by decide +kernel⟩
  have ly : Lin r g b y 0 1 0 0 0 := ⟨hy.to (by grind), by decide +kernel⟩
  have lz : Lin r g b z 0 0 1 0 0 := ⟨hz.to (by grind), by decide +kernel⟩
  have l1 : Lin r g b (Float64.ofInt 1) 0 0 0 1 0 := ⟨n_i1.to (by grind), by decide +kernel⟩
  have hY := Lin.add r0 g0 b0 (Lin.add r0 g0 b0 (Lin.mul r0 g0 b0 n_c30 lx (by decide) (by decide) (by decide +kernel) (by decide +kernel)) (Lin.mul r0 g0 b0 n_c59 ly (by decide) (by decide) (by decide +kernel) (by decide +kernel)) (by decide) (by decide) (by decide +kernel)) (Lin.mul r0 g0 b0 n_c11 lz (by decide) (by decide) (by decide +kernel) (by decide +kernel)) (by decide) (by decide) (by decide +kernel)
  generalize Float64.add (Float64.add (Float64.mul c30 x) (Float64.mul c59 y)) (Float64.mul c11 z) = Y at *
  have hdr := Lin.sub r0 g0 b0 lx hY (by decide) (by decide) (by decide +kernel)
  have hdb := Lin.sub r0 g0 b0 lz hY (by decide) (by decide) (by decide +kernel)
  have hO := Lin.sub r0 g0 b0 l1 hY (by decide) (by decide) (by decide +kernel)
  have hI := Lin.neg r0 g0 b0 (Lin.sub r0 g0 b0 (Lin.mul r0 g0 b0 n_c74 hdr (by decide) (by decide) (by decide +kernel) (by decide +kernel)) (Lin.mul r0 g0 b0 n_c27 hdb (by decide) (by decide) (by decide +kernel) (by decide +kernel)) (by decide) (by decide) (by decide +kernel)) (by decide +kernel)
  have hN := Lin.neg r0 g0 b0 (Lin.add r0 g0 b0 (Lin.mul r0 g0 b0 n_c48 hdr (by decide) (by decide) (by decide +kernel) (by decide +kernel)) (Lin.mul r0 g0 b0 n_c41 hdb (by decide) (by decide) (by decide +kernel) (by decide +kernel)) (by decide) (by decide) (by decide +kernel)) (by decide +kernel)
  generalize Float64.sub (Float64.ofInt 1) Y = O at *
  generalize Float64.neg (Float64.sub (Float64.mul c74 (Float64.sub x Y)) (Float64.mul c27 (Float64.sub z Y))) = NI at *
  generalize Float64.neg (Float64.add (Float64.mul c48 (Float64.sub x Y)) (Float64.mul c41 (Float64.sub z Y))) = NQ at *
  have R := Lin.add r0 g0 b0 (Lin.add r0 g0 b0 hO (Lin.mul r0 g0 b0 n_ci1 hI (by decide) (by decide) (by decide +kernel) (by decide +kernel)) (by decide) (by decide) (by decide +kernel)) (Lin.mul r0 g0 b0 n_cq1 hN (by decide) (by decide) (by decide +kernel) (by decide +kernel)) (by decide) (by decide) (by decide +kernel)
  have G := Lin.sub r0 g0 b0 (Lin.sub r0 g0 b0 hO (Lin.mul r0 g0 b0 n_ci2 hI (by decide) (by decide) (by decide +kernel) (by decide +kernel)) (by decide) (by decide) (by decide +kernel)) (Lin.mul r0 g0 b0 n_cq2 hN (by decide) (by decide) (by decide +kernel) (by decide +kernel)) (by decide) (by decide) (by decide +kernel)
  have Bb := Lin.add r0 g0 b0 (Lin.sub r0 g0 b0 hO (Lin.mul r0 g0 b0 n_ci3 hI (by decide) (by decide) (by decide +kernel) (by decide +kernel)) (by decide) (by decide) (by decide +kernel)) (Lin.mul r0 g0 b0 n_cq3 hN (by decide) (by decide) (by decide +kernel) (by decide +kernel)) (by decide) (by decide) (by decide +kernel)
  have fix : ∀ {x : UInt64} {α β γ δ α' β' γ' δ' : Rat} {n : Nat}, Lin r g b x α β γ δ n → n ≤ 100000 → decide (α = α' ∧ β = β' ∧ γ = γ' ∧ δ = δ') = true → Near x (α' * r + β' * g + γ' * b + δ') 100000 := by
    intro x α β γ δ α' β' γ' δ' n h hn he
    obtain ⟨rfl, rfl, rfl, rfl⟩ := of_decide_eq_true he
    exact h.near.mono hn
  have R' := (fix (α' := -1) (β' := 0) (γ' := 0) (δ' := 1) R (by decide) (by decide +kernel)).to (r' := 1 - r) (by grind)
  have G' := (fix (α' := 0) (β' := -1) (γ' := 0) (δ' := 1) G (by decide) (by decide +kernel)).to (r' := 1 - g) (by grind)
  have B' := (fix (α' := 0) (β' := 0) (γ' := -1) (δ' := 1) Bb (by decide) (by decide +kernel)).to (r' := 1 - b) (by grind)
  clear R G Bb hI hN hO hdr hdb hY lx ly lz l1
  rw [rgbYiq_eq]
  generalize Float64.add (Float64.add O (Float64.mul ci1 NI)) (Float64.mul cq1 NQ) = r1 at *
  generalize Float64.sub (Float64.sub O (Float64.mul ci2 NI)) (Float64.mul cq2 NQ) = g1 at *
  generalize Float64.add (Float64.sub O (Float64.mul ci3 NI)) (Float64.mul cq3 NQ) = b1 at *
  refine clamp0 (K := fun r => lgK Q r g1 b1) R' (by grind) fun x' R' => ?_
  refine clamp0 (K := fun g => lbK Q x' g b1) G' (by grind) fun y' G' => ?_
  refine clamp0 (K := fun b => crK Q x' y' b) B' (by grind) fun z' B' => ?_
  refine clamp1 (K := fun r => cgK Q r y' z') R' (by grind) fun x'' R' => ?_
  refine clamp1 (K := fun g => cbK Q x'' g z') G' (by grind) fun y'' G' => ?_
  exact clamp1 (K := fun b => Q (.tup [.flt x'', .flt y'', .flt b])) B' (by grind) fun z'' B' => hQ _ _ _ R' G' B'
theorem law4 {a b c : Int} (ha : 0 ≤ a ∧ a ≤ 16) (hb : 0 ≤ b ∧ b ≤ 16) (hc : 0 ≤ c ∧ c ≤ 16) {Q : V → Prop} (hQ : ∀ v, MovedTo (16 - a) (16 - b) (16 - c) v → Q v) :
    movedP (divII a 16) (divII b 16) (divII c 16) 4 Q := by
  refine ⟨fun q => (by cases q), fun _ => ⟨fun _ => ?_, fun q => (by cases q)⟩⟩
  refine yiq_near (in16 ha.1 ha.2) (in16 hb.1 hb.2) (in16 hc.1 hc.2) (cast16 ha) (cast16 hb) (cast16 hc) fun x y z hx hy hz => hQ _ (moved_near (n := 100000) (by decide) (by lia) (by lia) (by lia) (hx.to ?_) (hy.to ?_) (hz.to ?_))
  all_goals
    rw [Rat.intCast_sub]
    have : ((16 : Int) : Rat) = 16 := rfl
    rw [this]
    grind
end Mine
end

section -- Fl7
open PySem PySem.W PyProof.Rows PySem.Calls
namespace Mine
set_option maxRecDepth 100000
set_option linter.unusedVariables false
set_option linter.unusedSimpArgs false
set_option exponentiation.threshold 5000
open PySem.Float64 (val Right decode sgn infMag)

noncomputable abbrev In16 (a : Int) : Prop := 0 ≤ a ∧ a ≤ 16
theorem gt16 {a b : Int} (ha : In16 a) (hb : In16 b) : fgt (divII a 16) (divII b 16) = decide (b < a) := by
  obtain ⟨f1, e1⟩ := in16_rv ha.1 ha.2
  obtain ⟨f2, e2⟩ := in16_rv hb.1 hb.2
  have h := fgt_iff f1 f2
  rw [e1, e2] at h
  have h2 : (b : Rat) / 16 < (a : Rat) / 16 ↔ b < a := by
    rw [← Rat.intCast_lt_intCast]
    constructor <;> intro q <;> grind
  rw [h2] at h
  by_cases q : b < a
  · rw [h.mpr q, decide_eq_true q]
  · rw [decide_eq_false q]
    simpa [q] using h
theorem lt16 {a b : Int} (ha : In16 a) (hb : In16 b) : flt (divII a 16) (divII b 16) = decide (a < b) := by
  obtain ⟨f1, e1⟩ := in16_rv ha.1 ha.2
  obtain ⟨f2, e2⟩ := in16_rv hb.1 hb.2
  have h := flt_iff f1 f2
  rw [e1, e2] at h
  have h2 : (a : Rat) / 16 < (b : Rat) / 16 ↔ a < b := by
    rw [← Rat.intCast_lt_intCast]
    constructor <;> intro q <;> grind
  rw [h2] at h
  by_cases q : a < b
  · rw [h.mpr q, decide_eq_true q]
  · rw [decide_eq_false q]
    simpa [q] using h
theorem eq16 {a b : Int} (ha : In16 a) (hb : In16 b) : feq (divII a 16) (divII b 16) = decide (a = b) := by
  obtain ⟨f1, e1⟩ := in16_rv ha.1 ha.2
  obtain ⟨f2, e2⟩ := in16_rv hb.1 hb.2
  have h := feq_iff f1 f2
  rw [e1, e2] at h
  have h2 : (a : Rat) / 16 = (b : Rat) / 16 ↔ a = b := by
    rw [← Rat.intCast_inj]
    constructor <;> intro q <;> grind
  rw [h2] at h
  by_cases q : a = b
  · rw [h.mpr q, decide_eq_true q]
  · rw [decide_eq_false q]
    simpa [q] using h
theorem max16 {a b c : Int} (ha : In16 a) (hb : In16 b) (hc : In16 c) : fmax3 (divII a 16) (divII b 16) (divII c 16) = divII (imax3 a b c) 16 := by
  unfold fmax3 imax3
  rw [gt16 hb ha, gt16 hc hb, gt16 hc ha]
  simp only [decide_eq_true_eq]
  repeat' split
  all_goals first | rfl | (congr 1; lia)
theorem min16 {a b c : Int} (ha : In16 a) (hb : In16 b) (hc : In16 c) : fmin3 (divII a 16) (divII b 16) (divII c 16) = divII (imin3 a b c) 16 := by
  unfold fmin3 imin3
  rw [lt16 hb ha, lt16 hc hb, lt16 hc ha]
  simp only [decide_eq_true_eq]
  repeat' split
  all_goals first | rfl | (congr 1; lia)

/-- the hue in sixths, as a numerator over the range -/
noncomputable def HueN (a b c M R N : Int) : Prop := (a = M ∧ N = b - c) ∨ (b = M ∧ N = 2 * R + (c - a)) ∨ (c = M ∧ N = 4 * R + (a - b))
theorem castle {a b : Int} (h : a ≤ b) : (a : Rat) ≤ (b : Rat) := Rat.intCast_le_intCast.mpr h
theorem hue_near {a b c M m : Int} (ha : In16 a) (hb : In16 b) (hc : In16 c) (hM : In16 M) (hm : In16 m) (hlt : m < M) (am : m ≤ a ∧ a ≤ M) (bm : m ≤ b ∧ b ≤ M) (cm : m ≤ c ∧ c ≤ M) (hmax : a = M ∨ b = M ∨ c = M) {fin : UInt64 → Prop}
    (hf : ∀ h N, HueN a b c M (M - m) N → Near h ((N : Rat) / ((M - m : Int) : Rat)) 1000 → fin h) :
    guardF (fzero (Float64.sub (divII M 16) (divII m 16))) (guardF (fzero (Float64.sub (divII M 16) (divII m 16))) (guardF (fzero (Float64.sub (divII M 16) (divII m 16)))
      (condP (feq (divII a 16) (divII M 16)) (fin (Float64.sub (Float64.div (Float64.sub (divII M 16) (divII c 16)) (Float64.sub (divII M 16) (divII m 16))) (Float64.div (Float64.sub (divII M 16) (divII b 16)) (Float64.sub (divII M 16) (divII m 16)))))
        (condP (feq (divII b 16) (divII M 16)) (fin (Float64.sub (Float64.add f2 (Float64.div (Float64.sub (divII M 16) (divII a 16)) (Float64.sub (divII M 16) (divII m 16)))) (Float64.div (Float64.sub (divII M 16) (divII c 16)) (Float64.sub (divII M 16) (divII m 16)))))
          (fin (Float64.sub (Float64.add f4 (Float64.div (Float64.sub (divII M 16) (divII b 16)) (Float64.sub (divII M 16) (divII m 16)))) (Float64.div (Float64.sub (divII M 16) (divII a 16)) (Float64.sub (divII M 16) (divII m 16))))))))) := by
  have qa := cast16 ha
  have qb := cast16 hb
  have qc := cast16 hc
  have qM := cast16 hM
  have qm := cast16 hm
  have k1 := castle am.1
  have k2 := castle am.2
  have k3 := castle bm.1
  have k4 := castle bm.2
  have k5 := castle cm.1
  have k6 := castle cm.2
  have k7 := castle (show m + 1 ≤ M by lia)
  have one : ((1 : Int) : Rat) = 1 := rfl
  rw [Rat.intCast_add, one] at k7
  have hR : ((M - m : Int) : Rat) = (M : Rat) - (m : Rat) := Rat.intCast_sub ..
  have nR := ((in16 hM.1 hM.2).subW (in16 hm.1 hm.2) (by decide) (by decide) (U.w qM) (U.w qm)).mono (m := 1) (by decide)
  have nA := ((in16 hM.1 hM.2).subW (in16 ha.1 ha.2) (by decide) (by decide) (U.w qM) (U.w qa)).mono (m := 1) (by decide)
  have nB := ((in16 hM.1 hM.2).subW (in16 hb.1 hb.2) (by decide) (by decide) (U.w qM) (U.w qb)).mono (m := 1) (by decide)
  have nC := ((in16 hM.1 hM.2).subW (in16 hc.1 hc.2) (by decide) (by decide) (U.w qM) (U.w qc)).mono (m := 1) (by decide)
  have hz : fzero (Float64.sub (divII M 16) (divII m 16)) = false := by
    refine not_zero nR.f ?_
    have := nR.lo
    have e1 : ((1 : Nat) : Rat) = 1 := rfl
    rw [e1] at this
    grind
  refine guardF_in hz (guardF_in hz (guardF_in hz ?_))
  rw [eq16 ha hM, eq16 hb hM]
  generalize hRR : (M : Rat) - (m : Rat) = R at *
  have Rp : R ≠ 0 := by grind
  have Rinv : R * R⁻¹ = 1 := by grind
  have quot : ∀ u : Rat, 0 ≤ u → u ≤ R → 0 ≤ u / R ∧ u / R ≤ 1 := by
    intro u u0 u1
    have Rpos : 0 < R := by grind
    have e : u / R * R = u := by grind
    constructor
    · refine Rat.le_of_mul_le_mul_right (c := R) ?_ Rpos
      rw [e]; grind
    · refine Rat.le_of_mul_le_mul_right (c := R) ?_ Rpos
      rw [e]; grind
  have uA := quot ((M : Rat) - a) (by grind) (by grind)
  have uB := quot ((M : Rat) - b) (by grind) (by grind)
  have uC := quot ((M : Rat) - c) (by grind) (by grind)
  have sR : 1 / 32 ≤ (M : Rat) / 16 - (m : Rat) / 16 := by grind
  have rc := (nA.divU nR (q := ((M : Rat) - a) / R) (by decide) (by decide) (by grind) sR uA).mono (m := 300) (by decide)
  have gc := (nB.divU nR (q := ((M : Rat) - b) / R) (by decide) (by decide) (by grind) sR uB).mono (m := 300) (by decide)
  have bc := (nC.divU nR (q := ((M : Rat) - c) / R) (by decide) (by decide) (by grind) sR uC).mono (m := 300) (by decide)
  clear nA nB nC nR quot
  refine ⟨fun h => ?_, fun h => ⟨fun h' => ?_, fun h' => ?_⟩⟩
  · have h : a = M := by simpa using h
    refine hf _ _ (.inl ⟨h, rfl⟩) (((bc.subW gc (by decide) (by decide) (U.w uC) (U.w uB)).mono (by decide)).to ?_)
    rw [hR, Rat.intCast_sub]; grind
  · have h' : b = M := by simpa using h'
    refine hf _ _ (.inr (.inl ⟨h', rfl⟩)) ((((n_f2.addW rc (by decide) (by decide) W.two (U.w uA)).sub bc (by decide) (by decide) (by grind) (by grind)).mono (by decide)).to ?_)
    have e2 : ((2 : Int) : Rat) = 2 := rfl
    rw [Rat.intCast_add, Rat.intCast_mul, Rat.intCast_sub c a, hR, e2]; grind
  · have h' : c = M := by
      have h1 : a ≠ M := by simpa using h
      have h2 : b ≠ M := by simpa using h'
      lia
    refine hf _ _ (.inr (.inr ⟨h', rfl⟩)) ((((n_f4.add gc (by decide) (by decide) (by grind) (by grind)).sub rc (by decide) (by decide) (by grind) (by grind)).mono (by decide)).to ?_)
    have e2 : ((4 : Int) : Rat) = 4 := rfl
    rw [Rat.intCast_add, Rat.intCast_mul, Rat.intCast_sub a b, hR, e2]; grind
end Mine
end

section -- Fl8
open PySem PySem.W PyProof.Rows PySem.Calls
namespace Mine
set_option maxRecDepth 100000
set_option linter.unusedVariables false
set_option linter.unusedSimpArgs false
set_option exponentiation.threshold 5000
open PySem.Float64 (val Right decode sgn infMag)

/-- nearly at most is at most -/
theorem disc_le {p R k : Int} (h1 : 1 ≤ R) (h2 : R ≤ 16) {u : Rat} (hu : u * (6 * (R : Rat)) = (p : Rat)) (h : u ≤ (k : Rat) / 6 + 1 / 1000) : p ≤ k * R := by
  have q1 := castle h1
  have q2 := castle h2
  have e1 : ((1 : Int) : Rat) = 1 := rfl
  have e2 : ((16 : Int) : Rat) = 16 := rfl
  rw [e1] at q1
  rw [e2] at q2
  have := Rat.mul_le_mul_of_nonneg_right (c := 6 * (R : Rat)) h (by grind)
  rw [hu] at this
  have hlt : (p : Rat) < ((k * R + 1 : Int) : Rat) := by
    rw [Rat.intCast_add, Rat.intCast_mul, e1]
    grind
  have := Rat.intCast_lt_intCast.mp hlt
  lia
theorem disc_ge {p R k : Int} (h1 : 1 ≤ R) (h2 : R ≤ 16) {u : Rat} (hu : u * (6 * (R : Rat)) = (p : Rat)) (h : (k : Rat) / 6 - 1 / 1000 ≤ u) : k * R ≤ p := by
  have := disc_le (p := -p) (k := -k) h1 h2 (u := -u) (by rw [Rat.intCast_neg]; grind) (by rw [Rat.intCast_neg]; grind)
  have e : -k * R = -(k * R) := Int.neg_mul ..
  lia
/-- a hue brought between nought and one -/
theorem fmod1_near {x : UInt64} {N R : Int} {n : Nat} (hn : n ≤ 1000000000) (h1 : 1 ≤ R) (h2 : R ≤ 16) (b1 : -(12 * R) ≤ N) (b2 : N ≤ 15 * R) (hx : Near x ((N : Rat) / (6 * (R : Rat))) n) :
    ∃ j : Int, (-3 ≤ j ∧ j ≤ 3) ∧ Near (fmod1 x) (((N - 6 * (R * j) : Int) : Rat) / (6 * (R : Rat))) (n + 1) ∧ 0 ≤ N - 6 * (R * j) ∧ N - 6 * (R * j) ≤ 6 * R := by
  have q1 := castle h1
  have q2 := castle h2
  have q3 := castle b1
  have q4 := castle b2
  have e1 : ((1 : Int) : Rat) = 1 := rfl
  have e2 : ((16 : Int) : Rat) = 16 := rfl
  have e6 : ((6 : Int) : Rat) = 6 := rfl
  have e12 : ((12 : Int) : Rat) = 12 := rfl
  have e15 : ((15 : Int) : Rat) = 15 := rfl
  rw [e1] at q1
  rw [e2] at q2
  rw [Rat.intCast_neg, Rat.intCast_mul, e12] at q3
  rw [Rat.intCast_mul, e15] at q4
  have d := near_bd (n := n) hn
  obtain ⟨f, l, u⟩ := hx
  have Rpos : (0 : Rat) < 6 * (R : Rat) := by grind
  have Rne : (R : Rat) ≠ 0 := by grind
  have eN : (N : Rat) / (6 * (R : Rat)) * (6 * (R : Rat)) = (N : Rat) := by grind
  have eP : ∀ j : Int, ((N - 6 * (R * j) : Int) : Rat) / (6 * (R : Rat)) = (N : Rat) / (6 * (R : Rat)) - (j : Rat) := by
    intro j
    rw [Rat.intCast_sub, Rat.intCast_mul, Rat.intCast_mul, e6]
    grind
  have hN : ∀ j : Int, ((N : Rat) / (6 * (R : Rat)) - (j : Rat)) * (6 * (R : Rat)) = ((N - 6 * (R * j) : Int) : Rat) := by
    intro j
    rw [Rat.intCast_sub, Rat.intCast_mul, Rat.intCast_mul, e6]
    grind
  generalize hh : (N : Rat) / (6 * (R : Rat)) = h at *
  have hb1 : -2 ≤ h := by
    refine Rat.le_of_mul_le_mul_right (c := 6 * (R : Rat)) ?_ Rpos
    rw [eN]; grind
  have hb2 : h ≤ 5 / 2 := by
    refine Rat.le_of_mul_le_mul_right (c := 6 * (R : Rat)) ?_ Rpos
    rw [eN]; grind
  obtain ⟨j, hj, g, ⟨g1, g2⟩, g3, g4⟩ := fmod1_rv f (by grind) (by grind)
  refine ⟨j, hj, ⟨g, ?_, ?_⟩, ?_, ?_⟩
  · rw [eP, Rat.natCast_add]
    show h - j - ((n : Rat) + 1) * EE ≤ _
    grind
  · rw [eP, Rat.natCast_add]
    show _ ≤ h - j + ((n : Rat) + 1) * EE
    grind
  · have := disc_ge (k := 0) h1 h2 (hN j) (by
      have : ((0 : Int) : Rat) = 0 := rfl
      rw [this]; grind)
    lia
  · have := disc_le (k := 6) h1 h2 (hN j) (by rw [e6]; grind)
    lia

/-- the height of the wave over the hue -/
noncomputable def Wt (R p t : Int) : Prop := (0 ≤ p ∧ p ≤ R ∧ t = p) ∨ (R ≤ p ∧ p ≤ 3 * R ∧ t = R) ∨ (3 * R ≤ p ∧ p ≤ 4 * R ∧ t = 4 * R - p) ∨ (4 * R ≤ p ∧ p ≤ 6 * R ∧ t = 0)
theorem Near.mul6 {x : UInt64} {r : Rat} {n : Nat} (hx : Near x r n) (hn : n ≤ small) (ur : U r) : Near (Float64.mul x f6) (r * 6) (7 * n + 7 * 0 + 1) := by
  obtain ⟨h3, h4⟩ := ur
  exact hx.mul n_f6 hn (by decide) (by clear hx; grind) (by clear hx; grind) (by decide +kernel) (by decide +kernel) (by clear hx; grind) (by clear hx; grind)
theorem rise_near {m1 m2 z : UInt64} {m R t : Int} {v : Rat} (hm : 0 ≤ m) (hM : m + R ≤ 16) (x1 : Near m1 ((m : Rat) / 16) 20000) (x2 : Near m2 (((m + R : Int) : Rat) / 16) 20000) (hz : Near z v 100010) (uv : U v) (hv : (R : Rat) * v * 6 = (t : Rat)) (t0 : 0 ≤ t) (tR : t ≤ R) :
    Near (Float64.add m1 (Float64.mul (Float64.mul (Float64.sub m2 m1) z) f6)) (((m + t : Int) : Rat) / 16) 10000000 := by
  have um : U ((m : Rat) / 16) := cast16 ⟨hm, by lia⟩
  have uM : U (((m + R : Int) : Rat) / 16) := cast16 ⟨by lia, hM⟩
  have ut : U ((t : Rat) / 16) := cast16 ⟨t0, by lia⟩
  have uR : U ((R : Rat) / 16) := cast16 ⟨by lia, by lia⟩
  have dm := ((x2.subW x1 (by decide) (by decide) (U.w uM) (U.w um)).mono (m := 40001) (by decide)).to (r' := (R : Rat) / 16) (by rw [Rat.intCast_add]; clear hv; grind)
  have a1 := (dm.mulWU hz (by decide) (by decide) (U.w uR) uv).mono (m := 1000000) (by decide)
  have e3 : (R : Rat) / 16 * v * 6 = (t : Rat) / 16 := by clear x1 x2 hz dm a1; grind
  have a2 := ((a1.mul6 (by decide) (uR.mul uv)).mono (m := 8000000) (by decide)).to e3
  exact ((x1.addW a2 (by decide) (by decide) (U.w um) (U.w ut)).mono (by decide)).to (by rw [Rat.intCast_add]; clear x1 x2 hz dm a1 hv e3; grind)
theorem v_near {m1 m2 hue : UInt64} {m R N : Int} {n : Nat} (hn : n ≤ 100000) (h1 : 1 ≤ R) (hm : 0 ≤ m) (hM : m + R ≤ 16) (b1 : -(12 * R) ≤ N) (b2 : N ≤ 15 * R)
    (x1 : Near m1 ((m : Rat) / 16) 20000) (x2 : Near m2 (((m + R : Int) : Rat) / 16) 20000) (hx : Near hue ((N : Rat) / (6 * (R : Rat))) n) {Q : V → Prop}
    (hQ : ∀ y t j, (-3 ≤ j ∧ j ≤ 3) → Wt R (N - 6 * (R * j)) t → Near y (((m + t : Int) : Rat) / 16) 10000000 → Q (F y)) : vK m1 m2 hue Q := by
  obtain ⟨j, hj, hp, p0, p1⟩ := fmod1_near (Nat.le_trans hn (by decide)) h1 (by lia) b1 b2 hx
  have hp := hp.mono (m := 100001) (by lia)
  clear hx
  unfold vK
  generalize fmod1 hue = y0 at *
  have hQ' := fun y t => hQ y t j hj
  generalize hpp : N - 6 * (R * j) = p at *
  have q1 := castle h1
  have q2 := castle hM
  have q0 := castle hm
  have q3 := castle p0
  have q4 := castle p1
  have e0 : ((0 : Int) : Rat) = 0 := rfl
  have e1 : ((1 : Int) : Rat) = 1 := rfl
  have e2 : ((16 : Int) : Rat) = 16 := rfl
  have e4 : ((4 : Int) : Rat) = 4 := rfl
  have e6 : ((6 : Int) : Rat) = 6 := rfl
  rw [e0] at q0 q3
  rw [e1] at q1
  rw [Rat.intCast_add, e2] at q2
  rw [Rat.intCast_mul, e6] at q4
  have Rpos : (0 : Rat) < 6 * (R : Rat) := by grind
  have Rne : (R : Rat) ≠ 0 := by grind
  have Rinv : (R : Rat) * (R : Rat)⁻¹ = 1 := by grind
  have eu : (p : Rat) / (6 * (R : Rat)) * (6 * (R : Rat)) = (p : Rat) := by grind
  have u0 : 0 ≤ (p : Rat) / (6 * (R : Rat)) := by
    refine Rat.le_of_mul_le_mul_right (c := 6 * (R : Rat)) ?_ Rpos
    rw [eu]; grind
  have u1 : (p : Rat) / (6 * (R : Rat)) ≤ 1 := by
    refine Rat.le_of_mul_le_mul_right (c := 6 * (R : Rat)) ?_ Rpos
    rw [eu]; grind
  have lo := hp.lo
  have hi := hp.hi
  have en : ((100001 : Nat) : Rat) = 100001 := rfl
  rw [en] at lo hi
  have s1 := n_sixth.lo
  have s2 := n_sixth.hi
  have t1 := n_twothird.lo
  have t2 := n_twothird.hi
  have i1 := n_fh.lo
  have i2 := n_fh.hi
  have en1 : ((1 : Nat) : Rat) = 1 := rfl
  have en0 : ((0 : Nat) : Rat) = 0 := rfl
  rw [en1] at s1 s2 t1 t2
  rw [en0] at i1 i2
  generalize hu : (p : Rat) / (6 * (R : Rat)) = u at *
  have uu : U u := ⟨u0, u1⟩
  have rise : ∀ (z : UInt64) (v : Rat) (t : Int), Near z v 100010 → U v → (R : Rat) * v * 6 = (t : Rat) → 0 ≤ t → t ≤ R → Near (Float64.add m1 (Float64.mul (Float64.mul (Float64.sub m2 m1) z) f6)) (((m + t : Int) : Rat) / 16) 10000000 :=
    fun z v t hz uv hv t0 tR => rise_near hm hM x1 x2 hz uv hv t0 tR
  refine ⟨fun h => ?_, fun h => ⟨fun h' => ?_, fun h' => ⟨fun h'' => ?_, fun h'' => ?_⟩⟩⟩
  · have h := (flt_iff hp.f n_sixth.f).mp h
    have pR := disc_le (k := 1) h1 (by lia) eu (by rw [e1]; grind)
    rw [Int.one_mul] at pR
    exact hQ' _ p (.inl ⟨p0, pR, rfl⟩) (rise y0 u p (hp.mono (by decide)) uu (by grind) p0 pR)
  · have h : ¬ rv y0 < rv sixth := fun q => by rw [(flt_iff hp.f n_sixth.f).mpr q] at h; cases h
    have h' := (flt_iff hp.f n_fh.f).mp h'
    have pR := disc_ge (k := 1) h1 (by lia) eu (by rw [e1]; grind)
    rw [Int.one_mul] at pR
    have e3 : ((3 : Int) : Rat) = 3 := rfl
    have p3 := disc_le (k := 3) h1 (by lia) eu (by rw [e3]; grind)
    exact hQ' _ R (.inr (.inl ⟨pR, p3, rfl⟩)) (x2.mono (by decide))
  · have h' : ¬ rv y0 < rv fh := fun q => by rw [(flt_iff hp.f n_fh.f).mpr q] at h'; cases h'
    have h'' := (flt_iff hp.f n_twothird.f).mp h''
    have e3 : ((3 : Int) : Rat) = 3 := rfl
    have p3 := disc_ge (k := 3) h1 (by lia) eu (by rw [e3]; grind)
    have p4 := disc_le (k := 4) h1 (by lia) eu (by rw [e4]; grind)
    have z1 := (n_twothird.subW hp (by decide) (by decide) ⟨by decide +kernel, by decide +kernel⟩ (U.w uu)).mono (m := 100010) (by decide)
    have p4' := castle p4
    have p3' := castle p3
    rw [Rat.intCast_mul, e4] at p4'
    rw [Rat.intCast_mul, e3] at p3'
    have v0 : 0 ≤ 2 / 3 - u := by
      refine Rat.le_of_mul_le_mul_right (c := 6 * (R : Rat)) ?_ Rpos
      grind
    exact hQ' _ (4 * R - p) (.inr (.inr (.inl ⟨p3, p4, rfl⟩))) (rise _ (2 / 3 - u) (4 * R - p) z1 ⟨v0, by grind⟩ (by rw [Rat.intCast_sub, Rat.intCast_mul, e4]; grind) (by lia) (by lia))
  · have h'' : ¬ rv y0 < rv twothird := fun q => by rw [(flt_iff hp.f n_twothird.f).mpr q] at h''; cases h''
    have p4 := disc_ge (k := 4) h1 (by lia) eu (by rw [e4]; grind)
    exact hQ' _ 0 (.inr (.inr (.inr ⟨p4, p1, rfl⟩))) ((x1.mono (by decide)).to (by rw [Rat.intCast_add, e0]; grind))
end Mine
end

section -- Fl9
open PySem PySem.W PyProof.Rows PySem.Calls
namespace Mine
set_option maxRecDepth 100000
set_option linter.unusedVariables false
set_option linter.unusedSimpArgs false
set_option exponentiation.threshold 5000
open PySem.Float64 (val Right decode sgn infMag)

noncomputable def hueP (maxc minc r g b : UInt64) (fin : UInt64 → Prop) : Prop :=
  guardF (fzero (Float64.sub maxc minc)) (guardF (fzero (Float64.sub maxc minc)) (guardF (fzero (Float64.sub maxc minc))
    (condP (feq r maxc) (fin (Float64.sub (Float64.div (Float64.sub maxc b) (Float64.sub maxc minc)) (Float64.div (Float64.sub maxc g) (Float64.sub maxc minc))))
      (condP (feq g maxc) (fin (Float64.sub (Float64.add f2 (Float64.div (Float64.sub maxc r) (Float64.sub maxc minc))) (Float64.div (Float64.sub maxc b) (Float64.sub maxc minc))))
        (fin (Float64.sub (Float64.add f4 (Float64.div (Float64.sub maxc g) (Float64.sub maxc minc))) (Float64.div (Float64.sub maxc r) (Float64.sub maxc minc))))))))
noncomputable def hlsM (maxc minc r g b : UInt64) (Q : V → Prop) : Prop :=
  condP (feq minc maxc) (Q (.tup [.flt 0, .flt (Float64.div (Float64.add maxc minc) f2), .flt 0])) (condP (fle (Float64.div (Float64.add maxc minc) f2) fh)
    (guardF (fzero (Float64.add maxc minc)) (hueP maxc minc r g b fun h => Q (.tup [.flt (fmod1 (Float64.div h f6)), .flt (Float64.div (Float64.add maxc minc) f2), .flt (Float64.div (Float64.sub maxc minc) (Float64.add maxc minc))])))
    (guardF (fzero (Float64.sub (Float64.sub f2 maxc) minc)) (hueP maxc minc r g b fun h => Q (.tup [.flt (fmod1 (Float64.div h f6)), .flt (Float64.div (Float64.add maxc minc) f2), .flt (Float64.div (Float64.sub maxc minc) (Float64.sub (Float64.sub f2 maxc) minc))]))))
theorem hlsK_eq (r g b : UInt64) (Q : V → Prop) : hlsK r g b Q = hlsM (fmax3 r g b) (fmin3 r g b) r g b Q := rfl

/-- the saturation by HLS -/
noncomputable def SatOk (T R : Int) (σ : Rat) : Prop := (1 / 32 ≤ σ ∧ σ ≤ 1) ∧ ((T ≤ 16 ∧ σ * (T : Rat) = (R : Rat)) ∨ (16 ≤ T ∧ σ * (32 - (T : Rat)) = (R : Rat)))
theorem sat_ok {T R : Int} (h1 : 1 ≤ R) (h : R ≤ T) (hT : T ≤ 32) : 1 / 32 ≤ (R : Rat) / (T : Rat) ∧ (R : Rat) / (T : Rat) ≤ 1 ∧ (R : Rat) / (T : Rat) * (T : Rat) = (R : Rat) := by
  have q1 := castle h1
  have q2 := castle h
  have q3 := castle hT
  have e1 : ((1 : Int) : Rat) = 1 := rfl
  have e32 : ((32 : Int) : Rat) = 32 := rfl
  rw [e1] at q1
  rw [e32] at q3
  have Tpos : (0 : Rat) < (T : Rat) := by grind
  have e : (R : Rat) / (T : Rat) * (T : Rat) = (R : Rat) := by grind
  refine ⟨?_, ?_, e⟩
  · refine Rat.le_of_mul_le_mul_right (c := (T : Rat)) ?_ Tpos
    rw [e]; grind
  · refine Rat.le_of_mul_le_mul_right (c := (T : Rat)) ?_ Tpos
    rw [e]; grind
theorem hueN_bd {a b c M m N : Int} (hlt : m < M) (am : m ≤ a ∧ a ≤ M) (bm : m ≤ b ∧ b ≤ M) (cm : m ≤ c ∧ c ≤ M) (h : HueN a b c M (M - m) N) : -(M - m) ≤ N ∧ N ≤ 5 * (M - m) := by
  rcases h with ⟨_, rfl⟩ | ⟨_, rfl⟩ | ⟨_, rfl⟩ <;> lia
/-- the hue, brought between nought and one -/
theorem hue6 {h : UInt64} {N R : Int} (h1 : 1 ≤ R) (h2 : R ≤ 16) (b1 : -R ≤ N) (b2 : N ≤ 5 * R) (hx : Near h ((N : Rat) / (R : Rat)) 1000) :
    ∃ j : Int, (-3 ≤ j ∧ j ≤ 3) ∧ Near (fmod1 (Float64.div h f6)) (((N - 6 * (R * j) : Int) : Rat) / (6 * (R : Rat))) 40000 ∧ 0 ≤ N - 6 * (R * j) ∧ N - 6 * (R * j) ≤ 6 * R := by
  have q1 := castle h1
  have q3 := castle b1
  have q4 := castle b2
  have e1 : ((1 : Int) : Rat) = 1 := rfl
  have e5 : ((5 : Int) : Rat) = 5 := rfl
  rw [e1] at q1
  rw [Rat.intCast_neg] at q3
  rw [Rat.intCast_mul, e5] at q4
  have Rpos : (0 : Rat) < (R : Rat) := by grind
  have e : (N : Rat) / (R : Rat) * (R : Rat) = (N : Rat) := by grind
  have l : -1 ≤ (N : Rat) / (R : Rat) := by
    refine Rat.le_of_mul_le_mul_right (c := (R : Rat)) ?_ Rpos
    rw [e]; grind
  have u : (N : Rat) / (R : Rat) ≤ 5 := by
    refine Rat.le_of_mul_le_mul_right (c := (R : Rat)) ?_ Rpos
    rw [e]; grind
  have d := (hx.div n_f6 (q := (N : Rat) / (6 * (R : Rat))) (by decide) (by decide) (by grind) (by grind) (by
    have : (N : Rat) / (6 * (R : Rat)) = (N : Rat) / (R : Rat) / 6 := by grind
    rw [this]; grind) (by
    have : (N : Rat) / (6 * (R : Rat)) = (N : Rat) / (R : Rat) / 6 := by grind
    rw [this]; grind)).mono (m := 39000) (by decide)
  obtain ⟨j, hj, hn, p⟩ := fmod1_near (by decide) h1 h2 (by lia) (by lia) d
  exact ⟨j, hj, hn.mono (by decide), p⟩
theorem hlsM_near {a b c M m : Int} (ha : In16 a) (hb : In16 b) (hc : In16 c) (hM : In16 M) (hm : In16 m) (am : m ≤ a ∧ a ≤ M) (bm : m ≤ b ∧ b ≤ M) (cm : m ≤ c ∧ c ≤ M) (hmax : a = M ∨ b = M ∨ c = M) {Q : V → Prop}
    (h0 : m = M → ∀ l, Near l (((M + m : Int) : Rat) / 32) 100 → Q (.tup [.flt 0, .flt l, .flt 0]))
    (h1 : m < M → ∀ (h l s : UInt64) (N j : Int) (σ : Rat), HueN a b c M (M - m) N → (-3 ≤ j ∧ j ≤ 3) → Near h (((N - 6 * ((M - m) * j) : Int) : Rat) / (6 * ((M - m : Int) : Rat))) 40000 → 0 ≤ N - 6 * ((M - m) * j) → N - 6 * ((M - m) * j) ≤ 6 * (M - m) →
      Near l (((M + m : Int) : Rat) / 32) 100 → Near s σ 500 → SatOk (M + m) (M - m) σ → Q (.tup [.flt h, .flt l, .flt s])) :
    hlsM (divII M 16) (divII m 16) (divII a 16) (divII b 16) (divII c 16) Q := by
  have qM := cast16 hM
  have qm := cast16 hm
  have nS := ((in16 hM.1 hM.2).addW (in16 hm.1 hm.2) (by decide) (by decide) (U.w qM) (U.w qm)).mono (m := 1) (by decide)
  have nL := (nS.div n_f2 (q := ((M + m : Int) : Rat) / 32) (by decide) (by decide) (by rw [Rat.intCast_add]; grind) (by grind) (by rw [Rat.intCast_add]; grind) (by rw [Rat.intCast_add]; grind)).mono (m := 100) (by decide)
  unfold hlsM
  rw [eq16 hm hM]
  refine ⟨fun q => h0 (by simpa using q) _ nL, fun q => ?_⟩
  have hlt : m < M := by
    have : m ≠ M := by simpa using q
    lia
  have h1' := h1 hlt
  clear h0 h1 q
  have k7 := castle (show m + 1 ≤ M by lia)
  have one : ((1 : Int) : Rat) = 1 := rfl
  have zz : ((0 : Int) : Rat) = 0 := rfl
  rw [Rat.intCast_add, one] at k7
  have nR := ((in16 hM.1 hM.2).subW (in16 hm.1 hm.2) (by decide) (by decide) (U.w qM) (U.w qm)).mono (m := 1) (by decide)
  have nD := ((n_f2.subW (in16 hM.1 hM.2) (by decide) (by decide) W.two (U.w qM)).subW (in16 hm.1 hm.2) (by decide) (by decide) (W.two_sub qM) (U.w qm)).mono (m := 2) (by decide)
  have lo := nL.lo
  have hi := nL.hi
  have e100 : ((100 : Nat) : Rat) = 100 := rfl
  rw [e100] at lo hi
  have rh := rv_fh
  have hue : ∀ (fin : UInt64 → Prop), (∀ h N, HueN a b c M (M - m) N → Near h ((N : Rat) / ((M - m : Int) : Rat)) 1000 → fin h) → hueP (divII M 16) (divII m 16) (divII a 16) (divII b 16) (divII c 16) fin :=
    fun fin => hue_near ha hb hc hM hm hlt am bm cm hmax
  refine ⟨fun q => ?_, fun q => ?_⟩
  · have q := (fle_iff nL.f n_fh.f).mp q
    rw [rh] at q
    have hT : M + m ≤ 16 := by
      have : ((M + m : Int) : Rat) < ((17 : Int) : Rat) := by
        have e17 : ((17 : Int) : Rat) = 17 := rfl
        rw [e17]; grind
      have := Rat.intCast_lt_intCast.mp this
      lia
    have Tpos := castle (show 1 ≤ M + m by lia)
    rw [one] at Tpos
    have e1 : ((1 : Nat) : Rat) = 1 := rfl
    refine guardF_in (not_zero nS.f (by have := nS.lo; rw [e1] at this; rw [Rat.intCast_add] at Tpos; grind)) (hue _ fun h N hN hh => ?_)
    obtain ⟨j, hj, hn, p0, p1⟩ := hue6 (by lia) (by lia) (hueN_bd hlt am bm cm hN).1 (hueN_bd hlt am bm cm hN).2 hh
    have s := sat_ok (T := M + m) (R := M - m) (by lia) (by lia) (by lia)
    have nσ := (nR.div nS (q := ((M - m : Int) : Rat) / ((M + m : Int) : Rat)) (by decide) (by decide) (by
      have := s.2.2
      rw [Rat.intCast_add, Rat.intCast_sub] at this ⊢
      grind) (by rw [Rat.intCast_add] at Tpos; grind) (by grind) (by grind)).mono (m := 500) (by decide)
    exact h1' _ _ _ N j _ hN hj hn p0 p1 nL nσ ⟨⟨s.1, s.2.1⟩, .inl ⟨hT, s.2.2⟩⟩
  · have q : ¬ rv (Float64.div (Float64.add (divII M 16) (divII m 16)) f2) ≤ 1 / 2 := by
      intro r
      rw [← rh] at r
      rw [(fle_iff nL.f n_fh.f).mpr r] at q
      cases q
    have hT : 16 ≤ M + m := by
      have : ((15 : Int) : Rat) < ((M + m : Int) : Rat) := by
        have e15 : ((15 : Int) : Rat) = 15 := rfl
        rw [e15]; grind
      have := Rat.intCast_lt_intCast.mp this
      lia
    have Tpos := castle (show M + m ≤ 31 by lia)
    have e31 : ((31 : Int) : Rat) = 31 := rfl
    rw [e31] at Tpos
    have e1 : ((2 : Nat) : Rat) = 2 := rfl
    refine guardF_in (not_zero nD.f (by have := nD.lo; rw [e1] at this; rw [Rat.intCast_add] at Tpos; grind)) (hue _ fun h N hN hh => ?_)
    obtain ⟨j, hj, hn, p0, p1⟩ := hue6 (by lia) (by lia) (hueN_bd hlt am bm cm hN).1 (hueN_bd hlt am bm cm hN).2 hh
    have s := sat_ok (T := 32 - (M + m)) (R := M - m) (by lia) (by lia) (by lia)
    have e32 : ((32 : Int) : Rat) = 32 := rfl
    have nσ := (nR.div nD (q := ((M - m : Int) : Rat) / ((32 - (M + m) : Int) : Rat)) (by decide) (by decide) (by
      have := s.2.2
      rw [Rat.intCast_sub 32, Rat.intCast_add, Rat.intCast_sub, e32] at this ⊢
      grind) (by rw [Rat.intCast_add] at Tpos; grind) (by grind) (by grind)).mono (m := 500) (by decide)
    have s3 := s.2.2
    refine h1' _ _ _ N j _ hN hj hn p0 p1 nL nσ ⟨⟨s.1, s.2.1⟩, .inr ⟨hT, ?_⟩⟩
    rw [Rat.intCast_sub 32, e32] at s3 ⊢
    exact s3
end Mine
end

section -- Fl10
open PySem PySem.W PyProof.Rows PySem.Calls
namespace Mine
set_option maxRecDepth 100000
set_option linter.unusedVariables false
set_option linter.unusedSimpArgs false
set_option exponentiation.threshold 5000
open PySem.Float64 (val Right decode sgn infMag)

noncomputable def WtE (R N t : Int) : Prop := ∃ j : Int, Wt R (N - 6 * (R * j)) t
theorem WtE.turn {R x t : Int} (h : WtE R x t) : WtE R (x + 6 * R) t := by
  obtain ⟨j, h⟩ := h
  refine ⟨j + 1, ?_⟩
  rw [show x + 6 * R - 6 * (R * (j + 1)) = x - 6 * (R * j) by rw [Int.mul_add]; lia]; exact h
theorem WtE.back {R x t : Int} (h : WtE R x t) : WtE R (x - 6 * R) t := by
  obtain ⟨j, h⟩ := h
  refine ⟨j - 1, ?_⟩
  rw [show x - 6 * R - 6 * (R * (j - 1)) = x - 6 * (R * j) by rw [Int.mul_sub]; lia]; exact h
theorem WtE.to {R x y t : Int} (h : WtE R x t) (e : x = y) : WtE R y t := e ▸ h
/-- half a turn on: the wave stands on its head -/
theorem WtE.half {R x t : Int} (h1 : 1 ≤ R) (h : WtE R (x + 3 * R) t) : WtE R x (R - t) := by
  obtain ⟨j, h⟩ := h
  have hj : R * (j - 1) = R * j - R := by rw [Int.mul_sub]; lia
  generalize hy : R * j = y at *
  rcases h with ⟨p0, p1, rfl⟩ | ⟨p0, p1, rfl⟩ | ⟨p0, p1, rfl⟩ | ⟨p0, p1, rfl⟩
  · exact ⟨j - 1, .inr (.inr (.inl ⟨by lia, by lia, by lia⟩))⟩
  · exact ⟨j - 1, .inr (.inr (.inr ⟨by lia, by lia, by lia⟩))⟩
  · exact ⟨j, .inl ⟨by lia, by lia, by lia⟩⟩
  · exact ⟨j, .inr (.inl ⟨by lia, by lia, by lia⟩)⟩
theorem WtE.half' {R x t : Int} (h1 : 1 ≤ R) (h : WtE R (x - 3 * R) t) : WtE R x (R - t) := WtE.half h1 (h.turn.to (by lia))
/-- the two turns that are met -/
theorem tent {R x t : Int} (h1 : 1 ≤ R) (b1 : -(3 * R) ≤ x) (b2 : x ≤ 3 * R) (h : WtE R x t) : Wt R x t ∨ Wt R (x + 6 * R) t := by
  obtain ⟨J, h⟩ := h
  have hp : 0 ≤ x - 6 * (R * J) ∧ x - 6 * (R * J) ≤ 6 * R := by rcases h with h | h | h | h <;> lia
  have u : J ≤ 0 := by
    by_cases q : J ≤ 0
    · exact q
    · have := Int.mul_le_mul_of_nonneg_left (c := R) (show 1 ≤ J by lia) (by lia)
      lia
  have l : -1 ≤ J := by
    by_cases q : -1 ≤ J
    · exact q
    · have := Int.mul_le_mul_of_nonneg_left (c := R) (show J ≤ -2 by lia) (by lia)
      lia
  rcases (show J = -1 ∨ J = 0 by lia) with rfl | rfl
  · exact .inr (by rw [show x - 6 * (R * -1) = x + 6 * R by lia] at h; exact h)
  · exact .inl (by rw [show x - 6 * (R * 0) = x by lia] at h; exact h)
/-- the three channels of a colour whose first part is the greatest -/
theorem wave_first {a b c m R t : Int} (h1 : 1 ≤ R) (hR : a = m + R) (bm : m ≤ b ∧ b ≤ a) (cm : m ≤ c ∧ c ≤ a) (hmin : m = b ∨ m = c) :
    (WtE R (b - c + 2 * R) t → m + t = a) ∧ (WtE R (b - c) t → m + t = b) ∧ (WtE R (b - c - 2 * R) t → m + t = c) := by
  subst hR
  refine ⟨fun h => ?_, fun h => ?_, fun h => ?_⟩
  · have h := tent h1 (by lia) (by lia) h
    unfold Wt at h; omega
  · have h := tent h1 (by lia) (by lia) h
    unfold Wt at h; omega
  · have h := tent h1 (by lia) (by lia) h
    unfold Wt at h; omega
theorem wave_any {a b c M m N t : Int} (hlt : m < M) (am : m ≤ a ∧ a ≤ M) (bm : m ≤ b ∧ b ≤ M) (cm : m ≤ c ∧ c ≤ M) (hmin : m = a ∨ m = b ∨ m = c) (hN : HueN a b c M (M - m) N) :
    (WtE (M - m) (N + 2 * (M - m)) t → m + t = a) ∧ (WtE (M - m) N t → m + t = b) ∧ (WtE (M - m) (N - 2 * (M - m)) t → m + t = c) := by
  have h1 : 1 ≤ M - m := by lia
  rcases hN with ⟨rfl, rfl⟩ | ⟨rfl, rfl⟩ | ⟨rfl, rfl⟩
  · exact wave_first h1 (by lia) bm cm (by lia)
  · have w := wave_first (a := b) (b := c) (c := a) (t := t) h1 (by lia) cm am (by lia)
    exact ⟨fun h => w.2.2 (h.back.to (by lia)), fun h => w.1 (h.to (by lia)), fun h => w.2.1 (h.to (by lia))⟩
  · have w := wave_first (a := c) (b := a) (c := b) (t := t) h1 (by lia) am bm (by lia)
    exact ⟨fun h => w.2.1 (h.back.to (by lia)), fun h => w.2.2 (h.back.to (by lia)), fun h => w.1 (h.to (by lia))⟩
theorem rgbHls_near {h l s : UInt64} {m R P : Int} {σ : Rat} (h1 : 1 ≤ R) (hm : 0 ≤ m) (hM : m + R ≤ 16) (b1 : -(10 * R) ≤ P) (b2 : P ≤ 13 * R)
    (nh : Near h ((P : Rat) / (6 * (R : Rat))) 50000) (nl : Near l (((2 * m + R : Int) : Rat) / 32) 200) (ns : Near s σ 500) (hs : SatOk (2 * m + R) R σ) {Q : V → Prop}
    (hQ : ∀ x y z t1 t2 t3, WtE R (P + 2 * R) t1 → WtE R P t2 → WtE R (P - 2 * R) t3 → Near x (((m + t1 : Int) : Rat) / 16) 10000000 → Near y (((m + t2 : Int) : Rat) / 16) 10000000 → Near z (((m + t3 : Int) : Rat) / 16) 10000000 → Q (.tup [.flt x, .flt y, .flt z])) :
    rgbHlsP h l s Q := by
  obtain ⟨⟨s0, s1⟩, hsat⟩ := hs
  have q1 := castle h1
  have q2 := castle hM
  have q0 := castle hm
  have e0 : ((0 : Int) : Rat) = 0 := rfl
  have e1 : ((1 : Int) : Rat) = 1 := rfl
  have e2 : ((2 : Int) : Rat) = 2 := rfl
  have e16 : ((16 : Int) : Rat) = 16 := rfl
  rw [e0] at q0
  rw [e1] at q1
  rw [Rat.intCast_add, e16] at q2
  have eT : ((2 * m + R : Int) : Rat) = 2 * (m : Rat) + (R : Rat) := by rw [Rat.intCast_add, Rat.intCast_mul, e2]
  have hp1 := castle b1
  have hp2 := castle b2
  have e10 : ((10 : Int) : Rat) = 10 := rfl
  have e13 : ((13 : Int) : Rat) = 13 := rfl
  rw [Rat.intCast_neg, Rat.intCast_mul, e10] at hp1
  rw [Rat.intCast_mul, e13] at hp2
  have Rne : (R : Rat) ≠ 0 := by grind
  have Rpos : (0 : Rat) < 6 * (R : Rat) := by grind
  have eP : (P : Rat) / (6 * (R : Rat)) * (6 * (R : Rat)) = (P : Rat) := by grind
  have c1 : -2 ≤ (P : Rat) / (6 * (R : Rat)) := by
    refine Rat.le_of_mul_le_mul_right (c := 6 * (R : Rat)) ?_ Rpos
    rw [eP]; grind
  have c2 : (P : Rat) / (6 * (R : Rat)) ≤ 5 / 2 := by
    refine Rat.le_of_mul_le_mul_right (c := 6 * (R : Rat)) ?_ Rpos
    rw [eP]; grind
  -- the two further hues
  have nh1 := ((nh.add n_third (by decide) (by decide) (by grind) (by grind)).mono (m := 100000) (by decide)).to (r' := ((P + 2 * R : Int) : Rat) / (6 * (R : Rat))) (by
    rw [Rat.intCast_add, Rat.intCast_mul, e2]; grind)
  have nh3 := ((nh.sub n_third (by decide) (by decide) (by grind) (by grind)).mono (m := 100000) (by decide)).to (r' := ((P - 2 * R : Int) : Rat) / (6 * (R : Rat))) (by
    rw [Rat.intCast_sub, Rat.intCast_mul, e2]; grind)
  have uσ : U σ := ⟨by clear hsat; grind, s1⟩
  have uL : U (((2 * m + R : Int) : Rat) / 32) := by rw [eT]; exact ⟨by grind, by grind⟩
  have uM : U (((m + R : Int) : Rat) / 16) := by rw [Rat.intCast_add]; exact ⟨by grind, by grind⟩
  have fin : ∀ m2 : UInt64, Near m2 (((m + R : Int) : Rat) / 16) 10000 → vK (Float64.sub (Float64.mul f2 l) m2) m2 (Float64.add h third) fun a => vK (Float64.sub (Float64.mul f2 l) m2) m2 h fun b => vK (Float64.sub (Float64.mul f2 l) m2) m2 (Float64.sub h third) fun c => tupQ Q a b c := by
    intro m2 n2
    have k1 := (n_f2.mulWU nl (by decide) (by decide) W.two uL).mono (m := 2000) (by decide)
    have n1 := ((k1.subW n2 (by decide) (by decide) (W.two_mul uL) (U.w uM)).mono (m := 20000) (by decide)).to (r' := (m : Rat) / 16) (by rw [eT, Rat.intCast_add]; grind)
    have n2 := n2.mono (m := 20000) (by decide)
    refine v_near (n := 100000) (by decide) h1 hm hM (by lia) (by lia) n1 n2 nh1 fun x t1 j1 _ w1 x1 => ?_
    refine v_near (n := 50000) (by decide) h1 hm hM (by lia) (by lia) n1 n2 nh fun y t2 j2 _ w2 x2 => ?_
    refine v_near (n := 100000) (by decide) h1 hm hM (by lia) (by lia) n1 n2 nh3 fun z t3 j3 _ w3 x3 => ?_
    exact guardF_in (by rfl) (hQ x y z t1 t2 t3 ⟨_, w1⟩ ⟨_, w2⟩ ⟨_, w3⟩ x1 x2 x3)
  have rh := rv_fh
  have lo := nl.lo
  have hi := nl.hi
  have e200 : ((200 : Nat) : Rat) = 200 := rfl
  have e500 : ((500 : Nat) : Rat) = 500 := rfl
  rw [e200] at lo hi
  have sl := ns.lo
  rw [e500] at sl
  unfold rgbHlsP
  refine ⟨fun q => ?_, fun _ => ⟨fun q => ?_, fun q => ?_⟩⟩
  · exfalso
    have q := (feq_iff ns.f n_0.f).mp q
    rw [rv_zero] at q
    grind
  · have q := (fle_iff nl.f n_fh.f).mp q
    rw [rh] at q
    have hT : 2 * m + R ≤ 16 := by
      have : ((2 * m + R : Int) : Rat) < ((17 : Int) : Rat) := by
        have e17 : ((17 : Int) : Rat) = 17 := rfl
        rw [e17]; grind
      have := Rat.intCast_lt_intCast.mp this
      lia
    have hσ : σ * (2 * (m : Rat) + (R : Rat)) = (R : Rat) := by
      rcases hsat with ⟨_, h⟩ | ⟨h16, h⟩
      · rw [← eT]; exact h
      · have : 2 * m + R = 16 := by lia
        rw [← eT, this, e16]
        rw [this, e16] at h
        grind
    have k1 := (n_f1.addW ns (by decide) (by decide) W.one (U.w uσ)).mono (m := 501) (by decide)
    have kb : ((2 * m + R : Int) : Rat) / 32 * (1 + σ) = (((m + R : Int)) : Rat) / 16 := by rw [eT, Rat.intCast_add]; grind
    have k2 := ((nl.mulUW k1 (by decide) (by decide) uL (W.one_add uσ)).mono (m := 10000) (by decide)).to kb
    exact fin _ k2
  · have q : ¬ rv l ≤ 1 / 2 := by
      intro r
      rw [← rh] at r
      rw [(fle_iff nl.f n_fh.f).mpr r] at q
      cases q
    have hT : 16 ≤ 2 * m + R := by
      have : ((15 : Int) : Rat) < ((2 * m + R : Int) : Rat) := by
        have e15 : ((15 : Int) : Rat) = 15 := rfl
        rw [e15]; grind
      have := Rat.intCast_lt_intCast.mp this
      lia
    have hσ : σ * (32 - (2 * (m : Rat) + (R : Rat))) = (R : Rat) := by
      rcases hsat with ⟨h16, h⟩ | ⟨_, h⟩
      · have : 2 * m + R = 16 := by lia
        rw [← eT, this, e16]
        rw [this, e16] at h
        grind
      · rw [← eT]; exact h
    have k1 := (nl.addW ns (by decide) (by decide) (U.w uL) (U.w uσ)).mono (m := 701) (by decide)
    have k2 := (nl.mulWU ns (by decide) (by decide) (U.w uL) uσ).mono (m := 5000) (by decide)
    have k3 := ((k1.subW k2 (by decide) (by decide) (W.add uL uσ) (U.w (uL.mul uσ))).mono (m := 10000) (by decide)).to (r' := (((m + R : Int)) : Rat) / 16) (by rw [eT, Rat.intCast_add]; grind)
    exact fin _ k3
end Mine
end

section -- Fl11
open PySem PySem.W PyProof.Rows PySem.Calls
namespace Mine
set_option maxRecDepth 100000
set_option linter.unusedVariables false
set_option linter.unusedSimpArgs false
set_option exponentiation.threshold 5000
open PySem.Float64 (val Right decode sgn infMag)

theorem feq00 : feq 0 0 = true := by kernel_rfl
theorem grey_near {h l : UInt64} {T : Int} (nl : Near l ((T : Rat) / 32) 200) {Q : V → Prop} (hQ : ∀ x, Near x ((T : Rat) / 32) 10000000 → Q (.tup [.flt x, .flt x, .flt x])) : rgbHlsP h l 0 Q :=
  ⟨fun _ => hQ l (nl.mono (by decide)), fun q => by rw [feq00] at q; cases q⟩

theorem wave (N R J : Int) {t d : Int} (h : WtE R (N - 6 * (R * J) + d) t) : WtE R (N + d) t := by
  obtain ⟨j, hj⟩ := h
  refine ⟨J + j, ?_⟩
  have e : N + d - 6 * (R * (J + j)) = N - 6 * (R * J) + d - 6 * (R * j) := by rw [Int.mul_add]; lia
  rw [e]; exact hj

/-- what the three hues give -/
theorem hls_deed {a b c M m : Int} (ha : In16 a) (hb : In16 b) (hc : In16 c) (hM : In16 M) (hm : In16 m) (am : m ≤ a ∧ a ≤ M) (bm : m ≤ b ∧ b ≤ M) (cm : m ≤ c ∧ c ≤ M) (hmax : a = M ∨ b = M ∨ c = M)
    {f : UInt64 → UInt64} {fl : UInt64 → UInt64} {dl m' e f' g : Int} (hdl : -3 ≤ dl ∧ dl ≤ 3) (hm' : 0 ≤ m') (hM' : m' + (M - m) ≤ 16) {Q : V → Prop}
    (hf : ∀ (h : UInt64) (P R : Int), 1 ≤ R → R ≤ 16 → 0 ≤ P → P ≤ 6 * R → Near h ((P : Rat) / (6 * (R : Rat))) 40000 → Near (f h) (((P + dl * R : Int) : Rat) / (6 * (R : Rat))) 50000)
    (hfl : ∀ l, Near l (((M + m : Int) : Rat) / 32) 100 → Near (fl l) (((2 * m' + (M - m) : Int) : Rat) / 32) 200)
    (hs : ∀ σ, SatOk (M + m) (M - m) σ → SatOk (2 * m' + (M - m)) (M - m) σ)
    (he : In16 e) (hf' : In16 f') (hg : In16 g)
    (hgrey : m = M → e = m' ∧ f' = m' ∧ g = m')
    (hw : m < M → ∀ N t, HueN a b c M (M - m) N → (WtE (M - m) (N + (dl * (M - m) + 2 * (M - m))) t → m' + t = e) ∧ (WtE (M - m) (N + dl * (M - m)) t → m' + t = f') ∧ (WtE (M - m) (N + (dl * (M - m) - 2 * (M - m))) t → m' + t = g))
    (hQ : ∀ v, MovedTo e f' g v → Q v) :
    hlsM (divII M 16) (divII m 16) (divII a 16) (divII b 16) (divII c 16) fun d => ∃ h l s, d = .tup [.flt h, .flt l, .flt s] ∧ rgbHlsP (f h) (fl l) s Q := by
  refine hlsM_near ha hb hc hM hm am bm cm hmax (fun hEq l nl => ⟨_, _, _, rfl, ?_⟩) fun hlt h l s N j σ hN hj nh p0 p1 nl ns hσ => ⟨_, _, _, rfl, ?_⟩
  · obtain ⟨r1, r2, r3⟩ := hgrey hEq
    subst r1 r2 r3
    refine grey_near (hfl l nl) fun x hx => hQ _ ?_
    have hx := hx.to (r' := ((g : Int) : Rat) / 16) (by
      have : 2 * g + (M - m) = 2 * g := by lia
      rw [this, Rat.intCast_mul]
      have : ((2 : Int) : Rat) = 2 := rfl
      rw [this]; grind)
    exact moved_near (by decide) he he he hx hx hx
  · have hR : 1 ≤ M - m := by lia
    have hR2 : M - m ≤ 16 := by lia
    have nb := hueN_bd hlt am bm cm hN
    have hw := fun t => hw hlt N t hN
    have nf := hf h _ _ hR hR2 p0 p1 nh
    have nl := hfl l nl
    have hσ := hs σ hσ
    have k1 : -3 * (M - m) ≤ dl * (M - m) := Int.mul_le_mul_of_nonneg_right hdl.1 (by lia)
    have k2 : dl * (M - m) ≤ 3 * (M - m) := Int.mul_le_mul_of_nonneg_right hdl.2 (by lia)
    generalize hdd : dl * (M - m) = dd at *
    generalize hRR : M - m = R at *
    refine rgbHls_near hR hm' hM' (by lia) (by lia) nf nl ns hσ fun x y z t1 t2 t3 w1 w2 w3 x1 x2 x3 => hQ _ ?_
    have v1 := (hw t1).1 (wave N R j (w1.to (by lia)))
    have v2 := (hw t2).2.1 (wave N R j w2)
    have v3 := (hw t3).2.2 (wave N R j (w3.to (by lia)))
    rw [v1] at x1
    rw [v2] at x2
    rw [v3] at x3
    exact moved_near (by decide) he hf' hg x1 x2 x3
end Mine
end

section -- Fl12
open PySem PySem.W PyProof.Rows PySem.Calls
namespace Mine
set_option maxRecDepth 100000
set_option linter.unusedVariables false
set_option linter.unusedSimpArgs false
set_option exponentiation.threshold 5000
open PySem.Float64 (val Right decode sgn infMag)

theorem hue_bd {P R : Int} (h1 : 1 ≤ R) (p0 : 0 ≤ P) (p1 : P ≤ 6 * R) : 0 ≤ (P : Rat) / (6 * (R : Rat)) ∧ (P : Rat) / (6 * (R : Rat)) ≤ 1 := by
  have q1 := castle h1
  have q2 := castle p0
  have q3 := castle p1
  have e0 : ((0 : Int) : Rat) = 0 := rfl
  have e1 : ((1 : Int) : Rat) = 1 := rfl
  have e6 : ((6 : Int) : Rat) = 6 := rfl
  rw [e1] at q1
  rw [e0] at q2
  rw [Rat.intCast_mul, e6] at q3
  have Rpos : (0 : Rat) < 6 * (R : Rat) := by grind
  have eu : (P : Rat) / (6 * (R : Rat)) * (6 * (R : Rat)) = (P : Rat) := by grind
  constructor
  · refine Rat.le_of_mul_le_mul_right (c := 6 * (R : Rat)) ?_ Rpos
    rw [eu]; grind
  · refine Rat.le_of_mul_le_mul_right (c := 6 * (R : Rat)) ?_ Rpos
    rw [eu]; grind
theorem R_ne {R : Int} (h1 : 1 ≤ R) : (R : Rat) ≠ 0 := by
  have q1 := castle h1
  have e1 : ((1 : Int) : Rat) = 1 := rfl
  rw [e1] at q1
  grind
theorem turn_back (h : UInt64) (P R : Int) (h1 : 1 ≤ R) (h2 : R ≤ 16) (p0 : 0 ≤ P) (p1 : P ≤ 6 * R) (nh : Near h ((P : Rat) / (6 * (R : Rat))) 40000) : Near (Float64.sub h s16) (((P + -1 * R : Int) : Rat) / (6 * (R : Rat))) 50000 := by
  have b := hue_bd h1 p0 p1
  have r := R_ne h1
  refine ((nh.sub n_s16 (by decide) (by decide) (by grind) (by grind)).mono (by decide)).to ?_
  rw [Rat.intCast_add, Rat.intCast_mul]
  have e1 : ((-1 : Int) : Rat) = -1 := rfl
  rw [e1]; grind
theorem turn_half (h : UInt64) (P R : Int) (h1 : 1 ≤ R) (h2 : R ≤ 16) (p0 : 0 ≤ P) (p1 : P ≤ 6 * R) (nh : Near h ((P : Rat) / (6 * (R : Rat))) 40000) : Near (Float64.add h h12) (((P + 3 * R : Int) : Rat) / (6 * (R : Rat))) 50000 := by
  have b := hue_bd h1 p0 p1
  have r := R_ne h1
  refine ((nh.add n_h12 (by decide) (by decide) (by grind) (by grind)).mono (by decide)).to ?_
  rw [Rat.intCast_add, Rat.intCast_mul]
  have e1 : ((3 : Int) : Rat) = 3 := rfl
  rw [e1]; grind
theorem turn_on (h : UInt64) (P R : Int) (h1 : 1 ≤ R) (h2 : R ≤ 16) (p0 : 0 ≤ P) (p1 : P ≤ 6 * R) (nh : Near h ((P : Rat) / (6 * (R : Rat))) 40000) : Near (Float64.add h s16) (((P + 1 * R : Int) : Rat) / (6 * (R : Rat))) 50000 := by
  have b := hue_bd h1 p0 p1
  have r := R_ne h1
  refine ((nh.add n_s16 (by decide) (by decide) (by grind) (by grind)).mono (by decide)).to ?_
  rw [Rat.intCast_add, Rat.intCast_mul]
  have e1 : ((1 : Int) : Rat) = 1 := rfl
  rw [e1]; grind
theorem turn_none (h : UInt64) (P R : Int) (h1 : 1 ≤ R) (h2 : R ≤ 16) (p0 : 0 ≤ P) (p1 : P ≤ 6 * R) (nh : Near h ((P : Rat) / (6 * (R : Rat))) 40000) : Near h (((P + 0 * R : Int) : Rat) / (6 * (R : Rat))) 50000 :=
  (nh.mono (by decide)).to (by rw [show P + 0 * R = P by lia])
theorem light_same {M m : Int} (l : UInt64) (nl : Near l (((M + m : Int) : Rat) / 32) 100) : Near l (((2 * m + (M - m) : Int) : Rat) / 32) 200 :=
  (nl.mono (by decide)).to (by rw [show 2 * m + (M - m) = M + m by lia])
theorem light_inv {M m : Int} (hM : In16 M) (hm : In16 m) (l : UInt64) (nl : Near l (((M + m : Int) : Rat) / 32) 100) : Near (Float64.sub (Float64.ofInt 1) l) (((2 * (16 - M) + (M - m) : Int) : Rat) / 32) 200 := by
  have q1 := cast16 hM
  have q2 := cast16 hm
  refine ((n_i1.sub nl (by decide) (by decide) (by rw [Rat.intCast_add]; grind) (by rw [Rat.intCast_add]; grind)).mono (by decide)).to ?_
  rw [show 2 * (16 - M) + (M - m) = 32 - (M + m) by lia, Rat.intCast_sub]
  have e : ((32 : Int) : Rat) = 32 := rfl
  rw [e]; grind
theorem sat_inv {M m : Int} (σ : Rat) (h : SatOk (M + m) (M - m) σ) : SatOk (2 * (16 - M) + (M - m)) (M - m) σ := by
  obtain ⟨h0, h⟩ := h
  rw [show 2 * (16 - M) + (M - m) = 32 - (M + m) by lia]
  have e : ((32 : Int) : Rat) = 32 := rfl
  refine ⟨h0, ?_⟩
  rcases h with ⟨h, k⟩ | ⟨h, k⟩
  · refine .inr ⟨by lia, ?_⟩
    rw [Rat.intCast_sub, e]; grind
  · refine .inl ⟨by lia, ?_⟩
    rw [Rat.intCast_sub, e]; grind

theorem sh1 (N R : Int) : N + (-1 * R + 2 * R) = N - 2 * R + 3 * R := by lia
theorem sh2 (N R : Int) : N + -1 * R = N + 2 * R - 3 * R := by lia
theorem sh3 (N R : Int) : N + (-1 * R - 2 * R) = N - 3 * R := by lia
theorem sh4 (N R : Int) : N + (3 * R + 2 * R) = N + 2 * R + 3 * R := by lia
theorem sh5 (N R : Int) : N + (3 * R - 2 * R) = N - 2 * R + 3 * R := by lia
theorem sh6 (N R : Int) : N + (0 * R + 2 * R) = N + 2 * R := by lia
theorem sh7 (N R : Int) : N + 0 * R = N := by lia
theorem sh8 (N R : Int) : N + (0 * R - 2 * R) = N - 2 * R := by lia
theorem gr2 {M m x : Int} (n : m ≤ x) (x1 : x ≤ M) (h : m = M) : x + 16 - (M + m) = 16 - M := by lia
theorem hv2 {M m t a : Int} (h : m + t = a) : 16 - M + t = a + 16 - (M + m) := by lia
theorem sat_same {M m : Int} (σ : Rat) (h : SatOk (M + m) (M - m) σ) : SatOk (2 * m + (M - m)) (M - m) σ := by
  rw [show 2 * m + (M - m) = M + m by lia]; exact h
theorem hv {M m t a : Int} (h : m + (M - m - t) = a) : m + t = M + m - a := by lia
theorem sub_bd {M m : Int} (hM : M ≤ 16) : m + (M - m) ≤ 16 := by lia
theorem grey1 {a b c M m : Int} (x2 : a ≤ M) (x3 : b ≤ M) (x4 : c ≤ M) (n2 : m ≤ a) (n3 : m ≤ b) (n4 : m ≤ c) (h : m = M) : M + m - a = m ∧ M + m - b = m ∧ M + m - c = m := ⟨by lia, by lia, by lia⟩
theorem hueP_mono {maxc minc r g b : UInt64} {f f' : UInt64 → Prop} (h : hueP maxc minc r g b f) (hf : ∀ x, f x → f' x) : hueP maxc minc r g b f' :=
  h.imp fun h => h.imp fun h => h.imp fun h => h.imp (hf _) fun h => h.imp (hf _) (hf _)
theorem hlsM_mono {maxc minc r g b : UInt64} {Q Q' : V → Prop} (h : hlsM maxc minc r g b Q) (hQ : ∀ d, Q d → Q' d) : hlsM maxc minc r g b Q' :=
  h.imp (hQ _) fun h => h.imp (fun h => h.imp fun h => hueP_mono h fun _ => hQ _) fun h => h.imp fun h => hueP_mono h fun _ => hQ _

section
variable {a b c : Int} (ha : In16 a) (hb : In16 b) (hc : In16 c) {Q : V → Prop}
include ha hb hc
theorem law1 (hQ : ∀ v, MovedTo (imax3 a b c + imin3 a b c - c) (imax3 a b c + imin3 a b c - a) (imax3 a b c + imin3 a b c - b) v → Q v) : movedP (divII a 16) (divII b 16) (divII c 16) 1 Q := by
  refine ⟨fun q => (by cases q), fun _ => ⟨fun q => (by cases q), fun _ => ?_⟩⟩
  rw [hlsK_eq, max16 ha hb hc, min16 ha hb hc]
  obtain ⟨x1, x2, x3, x4⟩ := max_is a b c
  obtain ⟨n1, n2, n3, n4⟩ := min_is a b c
  obtain ⟨hM, hm⟩ := bd_max ha hb hc
  generalize imax3 a b c = M at *
  generalize imin3 a b c = m at *
  refine hlsM_mono (Q := fun d => ∃ h l s, d = .tup [.flt h, .flt l, .flt s] ∧ rgbHlsP (Float64.sub h s16) l s Q) ?_ fun d ⟨h, l, s, e, q⟩ => ⟨h, l, s, e, fun _ => q, fun q => by cases q⟩
  refine hls_deed ha hb hc hM hm ⟨n2, x2⟩ ⟨n3, x3⟩ ⟨n4, x4⟩ (x1.imp Eq.symm (Or.imp Eq.symm Eq.symm)) (f := fun h => Float64.sub h s16) (fl := fun l => l) (dl := -1) (m' := m) (e := M + m - c) (f' := M + m - a) (g := M + m - b) (by decide) hm.1 (sub_bd hM.2)
    turn_back light_same sat_same (bd1 hm.1 hM.2 n4 x4) (bd1 hm.1 hM.2 n2 x2) (bd1 hm.1 hM.2 n3 x3) (fun h => have g := grey1 x2 x3 x4 n2 n3 n4 h; ⟨g.2.2, g.1, g.2.1⟩) ?_ hQ
  · intro hlt N t hN
    have hR : 1 ≤ M - m := by lia
    have w := wave_any (t := M - m - t) hlt ⟨n2, x2⟩ ⟨n3, x3⟩ ⟨n4, x4⟩ n1 hN
    generalize hRR : M - m = R at *
    exact ⟨fun h => hv (by rw [hRR]; exact w.2.2 (WtE.half hR (h.to (sh1 N R)))), fun h => hv (by rw [hRR]; exact w.1 (WtE.half' hR (h.to (sh2 N R)))), fun h => hv (by rw [hRR]; exact w.2.1 (WtE.half' hR (h.to (sh3 N R))))⟩
theorem law5 (hQ : ∀ v, MovedTo (imax3 a b c + imin3 a b c - a) (imax3 a b c + imin3 a b c - b) (imax3 a b c + imin3 a b c - c) v → Q v) : movedP (divII a 16) (divII b 16) (divII c 16) 5 Q := by
  refine ⟨fun q => (by cases q), fun _ => ⟨fun q => (by cases q), fun _ => ?_⟩⟩
  rw [hlsK_eq, max16 ha hb hc, min16 ha hb hc]
  obtain ⟨x1, x2, x3, x4⟩ := max_is a b c
  obtain ⟨n1, n2, n3, n4⟩ := min_is a b c
  obtain ⟨hM, hm⟩ := bd_max ha hb hc
  generalize imax3 a b c = M at *
  generalize imin3 a b c = m at *
  refine hlsM_mono (Q := fun d => ∃ h l s, d = .tup [.flt h, .flt l, .flt s] ∧ rgbHlsP (Float64.add h h12) l s Q) ?_ fun d ⟨h, l, s, e, q⟩ => ⟨h, l, s, e, fun q => (by cases q), fun _ => ⟨fun q => (by cases q), fun _ => q⟩⟩
  refine hls_deed ha hb hc hM hm ⟨n2, x2⟩ ⟨n3, x3⟩ ⟨n4, x4⟩ (x1.imp Eq.symm (Or.imp Eq.symm Eq.symm)) (f := fun h => Float64.add h h12) (fl := fun l => l) (dl := 3) (m' := m) (e := M + m - a) (f' := M + m - b) (g := M + m - c) (by decide) hm.1 (sub_bd hM.2)
    turn_half light_same sat_same (bd1 hm.1 hM.2 n2 x2) (bd1 hm.1 hM.2 n3 x3) (bd1 hm.1 hM.2 n4 x4) (grey1 x2 x3 x4 n2 n3 n4) ?_ hQ
  · intro hlt N t hN
    have hR : 1 ≤ M - m := by lia
    have w := wave_any (t := M - m - t) hlt ⟨n2, x2⟩ ⟨n3, x3⟩ ⟨n4, x4⟩ n1 hN
    generalize hRR : M - m = R at *
    exact ⟨fun h => hv (by rw [hRR]; exact w.1 (WtE.half hR (h.to (sh4 N R)))), fun h => hv (by rw [hRR]; exact w.2.1 (WtE.half hR h)), fun h => hv (by rw [hRR]; exact w.2.2 (WtE.half hR (h.to (sh5 N R))))⟩
theorem law2 (hQ : ∀ v, MovedTo (a + 16 - (imax3 a b c + imin3 a b c)) (b + 16 - (imax3 a b c + imin3 a b c)) (c + 16 - (imax3 a b c + imin3 a b c)) v → Q v) : movedP (divII a 16) (divII b 16) (divII c 16) 2 Q := by
  refine ⟨fun q => (by cases q), fun _ => ⟨fun q => (by cases q), fun _ => ?_⟩⟩
  rw [hlsK_eq, max16 ha hb hc, min16 ha hb hc]
  obtain ⟨x1, x2, x3, x4⟩ := max_is a b c
  obtain ⟨n1, n2, n3, n4⟩ := min_is a b c
  obtain ⟨hM, hm⟩ := bd_max ha hb hc
  generalize imax3 a b c = M at *
  generalize imin3 a b c = m at *
  refine hlsM_mono (Q := fun d => ∃ h l s, d = .tup [.flt h, .flt l, .flt s] ∧ rgbHlsP h (Float64.sub (Float64.ofInt 1) l) s Q) ?_ fun d ⟨h, l, s, e, q⟩ => ⟨h, l, s, e, fun q => (by cases q), fun _ => ⟨fun _ => q, fun q => (by cases q)⟩⟩
  refine hls_deed ha hb hc hM hm ⟨n2, x2⟩ ⟨n3, x3⟩ ⟨n4, x4⟩ (x1.imp Eq.symm (Or.imp Eq.symm Eq.symm)) (f := fun h => h) (fl := fun l => Float64.sub (Float64.ofInt 1) l) (dl := 0) (m' := 16 - M) (e := a + 16 - (M + m)) (f' := b + 16 - (M + m)) (g := c + 16 - (M + m)) (by decide) (bd4 hM).1 (by lia)
    turn_none (light_inv hM hm) sat_inv (bd2 hm.1 hM.2 n2 x2) (bd2 hm.1 hM.2 n3 x3) (bd2 hm.1 hM.2 n4 x4) (fun h => ⟨gr2 n2 x2 h, gr2 n3 x3 h, gr2 n4 x4 h⟩) ?_ hQ
  · intro hlt N t hN
    have w := wave_any (t := t) hlt ⟨n2, x2⟩ ⟨n3, x3⟩ ⟨n4, x4⟩ n1 hN
    exact ⟨fun h => hv2 (w.1 (h.to (sh6 N (M - m)))), fun h => hv2 (w.2.1 (h.to (sh7 N (M - m)))), fun h => hv2 (w.2.2 (h.to (sh8 N (M - m))))⟩
end
end Mine
end

section -- Fl13
open PySem PySem.W PyProof.Rows PySem.Calls
namespace Mine
set_option maxRecDepth 100000
set_option linter.unusedVariables false
set_option linter.unusedSimpArgs false
set_option exponentiation.threshold 5000
open PySem.Float64 (val Right decode sgn infMag)

theorem U.quo {p q : Int} (p0 : 0 ≤ p) (h : p ≤ q) (h1 : 1 ≤ q) : U ((p : Rat) / (q : Rat)) ∧ (p : Rat) / (q : Rat) * (q : Rat) = (p : Rat) := by
  have q1 := castle h1
  have q2 := castle p0
  have q3 := castle h
  have e0 : ((0 : Int) : Rat) = 0 := rfl
  have e1 : ((1 : Int) : Rat) = 1 := rfl
  rw [e1] at q1
  rw [e0] at q2
  have Rpos : (0 : Rat) < (q : Rat) := by grind
  have eu : (p : Rat) / (q : Rat) * (q : Rat) = (p : Rat) := by grind
  refine ⟨⟨?_, ?_⟩, eu⟩
  · refine Rat.le_of_mul_le_mul_right (c := (q : Rat)) ?_ Rpos
    rw [eu]; grind
  · refine Rat.le_of_mul_le_mul_right (c := (q : Rat)) ?_ Rpos
    rw [eu]; grind
theorem Near.mul1 {x y : UInt64} {r s : Rat} {n k : Nat} (hx : Near x r n) (hy : Near y s k) (hn : n ≤ small) (hk : k ≤ small) (ur : U r) (us : U s) :
    Near (Float64.mul x y) (r * s) (2 * n + 2 * k + 1) := by
  obtain ⟨f, l, u⟩ := hx
  obtain ⟨f', l', u'⟩ := hy
  have um := ur.mul us
  obtain ⟨r1, r2⟩ := ur
  obtain ⟨s1, s2⟩ := us
  obtain ⟨m1', m2'⟩ := um
  have d1 := near_bd hn
  have d2 := near_bd hk
  have m1 := mul_le_abs (a := (n : Rat) * EE) (b := 2) (x := rv x - r) (y := rv y) (by grind) (by grind) (by grind) (by grind)
  have m2 := mul_le_abs (a := 1) (b := (k : Rat) * EE) (x := r) (y := rv y - s) (by grind) (by grind) (by grind) (by grind)
  have e : rv x * rv y - r * s = (rv x - r) * rv y + r * (rv y - s) := by grind
  have := mul_rv sz8 f f' (by grind) (by grind)
  refine ⟨this.1, ?_, ?_⟩
  · rw [Rat.natCast_add, Rat.natCast_add, Rat.natCast_mul, Rat.natCast_mul]
    show r * s - (2 * (n : Rat) + 2 * k + 1) * EE ≤ _
    grind
  · rw [Rat.natCast_add, Rat.natCast_add, Rat.natCast_mul, Rat.natCast_mul]
    show _ ≤ r * s + (2 * (n : Rat) + 2 * k + 1) * EE
    grind
theorem Near.one_sub {y : UInt64} {s : Rat} {k : Nat} (hy : Near y s k) (us : U s) (hk : k ≤ small) : Near (Float64.sub f1 y) (1 - s) (k + 1) := by
  obtain ⟨s1, s2⟩ := us
  exact (n_f1.sub hy (by decide) hk (by grind) (by grind)).mono (by lia)

noncomputable def hsvM (maxc minc r g b : UInt64) (Q : V → Prop) : Prop :=
  condP (feq minc maxc) (Q (.tup [.flt 0, .flt 0, .flt maxc])) (guardF (fzero maxc) (hueP maxc minc r g b fun h => Q (.tup [.flt (fmod1 (Float64.div h f6)), .flt (Float64.div (Float64.sub maxc minc) maxc), .flt maxc])))
theorem hsvK_eq (r g b : UInt64) (Q : V → Prop) : hsvK r g b Q = hsvM (fmax3 r g b) (fmin3 r g b) r g b Q := rfl
/-- the six faces -/
noncomputable def hsvF (i : Int) (v p q t : UInt64) (Q : V → Prop) : Prop :=
  condP (i.fmod 6 == 0) (Q (.tup [.flt v, .flt t, .flt p])) (condP (i.fmod 6 == 1) (Q (.tup [.flt q, .flt v, .flt p])) (condP (i.fmod 6 == 2) (Q (.tup [.flt p, .flt v, .flt t])) (condP (i.fmod 6 == 3) (Q (.tup [.flt p, .flt q, .flt v]))
    (condP (i.fmod 6 == 4) (Q (.tup [.flt t, .flt p, .flt v])) (condP (i.fmod 6 == 5) (Q (.tup [.flt v, .flt p, .flt q])) False)))))
theorem rgbHsv_eq (h s v : UInt64) (Q : V → Prop) : rgbHsv h s v Q = condP (feq s 0) (Q (.tup [.flt v, .flt v, .flt v])) (guardF (!Float64.isFinite (Float64.mul h f6)) ((truncI (Float64.mul h f6)).natAbs < 2 ^ 1023 ∧ ((6 : Int) ≠ 0 ∧
    hsvF (truncI (Float64.mul h f6)) v (Float64.mul v (Float64.sub f1 s)) (Float64.mul v (Float64.sub f1 (Float64.mul s (Float64.sub (Float64.mul h f6) (Float64.ofInt (truncI (Float64.mul h f6)))))))
      (Float64.mul v (Float64.sub f1 (Float64.mul s (Float64.sub f1 (Float64.sub (Float64.mul h f6) (Float64.ofInt (truncI (Float64.mul h f6)))))))) Q))) := rfl
noncomputable def HsvI (i M m w e f g : Int) : Prop := ((i = 0 ∨ i = 6) ∧ M = e ∧ m + w = f ∧ m = g) ∨ ((i = 1 ∨ i = 7) ∧ M - w = e ∧ M = f ∧ m = g) ∨ (i = 2 ∧ m = e ∧ M = f ∧ m + w = g) ∨ (i = 3 ∧ m = e ∧ M - w = f ∧ M = g) ∨ (i = 4 ∧ m + w = e ∧ m = f ∧ M = g) ∨ (i = 5 ∧ M = e ∧ m = f ∧ M - w = g)
theorem hsvF_near {i M m w e f g : Int} {v p q t : UInt64} {Q : V → Prop} (h : HsvI i M m w e f g) {n : Nat} (hn : n ≤ 10000000) (he : In16 e) (hf : In16 f) (hg : In16 g)
    (nv : Near v ((M : Rat) / 16) n) (np : Near p ((m : Rat) / 16) n) (nq : Near q (((M - w : Int) : Rat) / 16) n) (nt : Near t (((m + w : Int) : Rat) / 16) n) (hQ : ∀ v, MovedTo e f g v → Q v) : hsvF i v p q t Q := by
  unfold hsvF
  rcases h with ⟨h, r1, r2, r3⟩ | ⟨h, r1, r2, r3⟩ | ⟨h, r1, r2, r3⟩ | ⟨h, r1, r2, r3⟩ | ⟨h, r1, r2, r3⟩ | ⟨h, r1, r2, r3⟩
  · have hi : i.fmod 6 = 0 := by rcases h with rfl | rfl <;> decide
    rw [hi]
    rw [r1] at nv; rw [r2] at nt; rw [r3] at np
    exact ⟨fun _ => hQ _ (moved_near hn he hf hg nv nt np), fun q => by cases q⟩
  · have hi : i.fmod 6 = 1 := by rcases h with rfl | rfl <;> decide
    rw [hi]
    rw [r1] at nq; rw [r2] at nv; rw [r3] at np
    exact ⟨fun q => (by cases q), fun _ => ⟨fun _ => hQ _ (moved_near hn he hf hg nq nv np), fun q => by cases q⟩⟩
  · have hi : i.fmod 6 = 2 := by subst h; decide
    rw [hi]
    rw [r1] at np; rw [r2] at nv; rw [r3] at nt
    exact ⟨fun q => (by cases q), fun _ => ⟨fun q => (by cases q), fun _ => ⟨fun _ => hQ _ (moved_near hn he hf hg np nv nt), fun q => by cases q⟩⟩⟩
  · have hi : i.fmod 6 = 3 := by subst h; decide
    rw [hi]
    rw [r1] at np; rw [r2] at nq; rw [r3] at nv
    exact ⟨fun q => (by cases q), fun _ => ⟨fun q => (by cases q), fun _ => ⟨fun q => (by cases q), fun _ => ⟨fun _ => hQ _ (moved_near hn he hf hg np nq nv), fun q => by cases q⟩⟩⟩⟩
  · have hi : i.fmod 6 = 4 := by subst h; decide
    rw [hi]
    rw [r1] at nt; rw [r2] at np; rw [r3] at nv
    exact ⟨fun q => (by cases q), fun _ => ⟨fun q => (by cases q), fun _ => ⟨fun q => (by cases q), fun _ => ⟨fun q => (by cases q), fun _ => ⟨fun _ => hQ _ (moved_near hn he hf hg nt np nv), fun q => by cases q⟩⟩⟩⟩⟩
  · have hi : i.fmod 6 = 5 := by subst h; decide
    rw [hi]
    rw [r1] at nv; rw [r2] at np; rw [r3] at nq
    exact ⟨fun q => (by cases q), fun _ => ⟨fun q => (by cases q), fun _ => ⟨fun q => (by cases q), fun _ => ⟨fun q => (by cases q), fun _ => ⟨fun q => (by cases q), fun _ => ⟨fun _ => hQ _ (moved_near hn he hf hg nv np nq), fun q => by cases q⟩⟩⟩⟩⟩⟩

theorem rgbHsv_near {h s v : UInt64} {m M R P e f g : Int} (h1 : 1 ≤ R) (hm : 0 ≤ m) (hR : M = m + R) (hM : M ≤ 16) (p0 : 0 ≤ P) (p1 : P ≤ 6 * R)
    (nh : Near h (((P + 1 * R : Int) : Rat) / (6 * (R : Rat))) 50000) (ns : Near s ((R : Rat) / (M : Rat)) 500) (nv : Near v ((M : Rat) / 16) 0) (he : In16 e) (hf : In16 f) (hg : In16 g) {Q : V → Prop}
    (hi : ∀ i w, 0 ≤ i → i ≤ 7 → w = P + R - R * i → 0 ≤ w → w ≤ R → HsvI i M m w e f g) (hQ : ∀ v, MovedTo e f g v → Q v) : rgbHsv h s v Q := by
  have q1 := castle h1
  have q0 := castle hm
  have q2 := castle hM
  have q3 := castle p0
  have q4 := castle p1
  have qR : (M : Rat) = (m : Rat) + (R : Rat) := by rw [hR, Rat.intCast_add]
  have e0 : ((0 : Int) : Rat) = 0 := rfl
  have e1 : ((1 : Int) : Rat) = 1 := rfl
  have e6 : ((6 : Int) : Rat) = 6 := rfl
  have e16 : ((16 : Int) : Rat) = 16 := rfl
  rw [e0] at q0 q3
  rw [e1] at q1
  rw [e16] at q2
  rw [Rat.intCast_mul, e6] at q4
  have Rpos : (0 : Rat) < (R : Rat) := by grind
  have Mpos : (0 : Rat) < (M : Rat) := by grind
  obtain ⟨uS, eS⟩ := U.quo (p := R) (q := M) (by lia) (by lia) (by lia)
  have s0 : 1 / 32 ≤ (R : Rat) / (M : Rat) := by
    refine Rat.le_of_mul_le_mul_right (c := (M : Rat)) ?_ Mpos
    rw [eS]; grind
  have eH : ((P + 1 * R : Int) : Rat) / (6 * (R : Rat)) * 6 = ((P : Rat) + R) / R := by
    rw [Int.one_mul, Rat.intCast_add]; grind
  have eu : ((P : Rat) + R) / R * R = (P : Rat) + R := by grind
  have u0 : 1 ≤ ((P : Rat) + R) / R := by
    refine Rat.le_of_mul_le_mul_right (c := (R : Rat)) ?_ Rpos
    rw [eu]; grind
  have u1 : ((P : Rat) + R) / R ≤ 7 := by
    refine Rat.le_of_mul_le_mul_right (c := (R : Rat)) ?_ Rpos
    rw [eu]; grind
  have n6 := ((nh.mul n_f6 (by decide) (by decide) (by grind) (by grind) (by grind) (by grind) (by grind) (by grind)).mono (m := 400000) (by decide)).to eH
  rw [rgbHsv_eq]
  refine ⟨fun q => ?_, fun _ => ?_⟩
  · exfalso
    have q := (feq_iff ns.f n_0.f).mp q
    rw [rv_zero] at q
    have := ns.lo
    have e500 : ((500 : Nat) : Rat) = 500 := rfl
    rw [e500] at this
    grind
  refine guardF_in (by rw [fin_of n6.f]; rfl) ?_
  generalize Float64.mul h f6 = x at *
  have lo := n6.lo
  have hi' := n6.hi
  have e4 : ((400000 : Nat) : Rat) = 400000 := rfl
  rw [e4] at lo hi'
  obtain ⟨t0, t1⟩ := trunc_rv n6.f (by grind)
  generalize truncI x = i at *
  have i0 : 0 ≤ i := by
    have : ((-1 : Int) : Rat) < (i : Rat) := by
      have : ((-1 : Int) : Rat) = -1 := rfl
      rw [this]; grind
    have := Rat.intCast_lt_intCast.mp this
    lia
  have i7 : i ≤ 7 := by
    have : (i : Rat) < ((8 : Int) : Rat) := by
      have : ((8 : Int) : Rat) = 8 := rfl
      rw [this]; grind
    have := Rat.intCast_lt_intCast.mp this
    lia
  have hnat : i.natAbs < 2 ^ 1023 := by
    refine Nat.lt_of_lt_of_le (show i.natAbs < 2 ^ 3 by lia) (Nat.pow_le_pow_right (by decide) (by decide))
  refine ⟨hnat, by decide, ?_⟩
  obtain ⟨fi, vi⟩ := ofInt_rv (i := i) (by lia)
  have ni : Near (Float64.ofInt i) (i : Rat) 0 := ⟨fi, by rw [vi]; grind, by rw [vi]; grind⟩
  -- the rest of the sixth
  have hw : (((P : Rat) + R) / R - (i : Rat)) / 6 * (6 * (R : Rat)) = ((P + R - R * i : Int) : Rat) := by
    rw [Rat.intCast_sub, Rat.intCast_add, Rat.intCast_mul]; grind
  have w0 := disc_ge (k := 0) h1 (by lia) hw (by rw [e0]; grind)
  have w1 := disc_le (k := 1) h1 (by lia) hw (by rw [e1]; grind)
  have ew : ((P : Rat) + R) / R - (i : Rat) = ((P + R - R * i : Int) : Rat) / (R : Rat) := by rw [← hw]; grind
  have hI := hi i _ i0 i7 rfl (by lia) (by lia)
  have nf := ((n6.sub ni (by decide) (by decide) (by grind) (by grind)).mono (m := 400001) (by decide)).to ew
  generalize hwd : P + R - R * i = w at *
  obtain ⟨uF, eF⟩ := U.quo (p := w) (q := R) (by lia) (by lia) h1
  have uM : U ((M : Rat) / 16) := cast16 (by lia)
  have np := (nv.mul1 (ns.one_sub uS (by decide)) (by decide) (by decide) uM uS.one_sub).mono (m := 10000000) (by decide)
  have nsf := (ns.mul1 nf (by decide) (by decide) uS uF).mono (m := 810000) (by decide)
  have nq := (nv.mul1 (nsf.one_sub (uS.mul uF) (by decide)) (by decide) (by decide) uM (uS.mul uF).one_sub).mono (m := 10000000) (by decide)
  have nsg := (ns.mul1 (nf.one_sub uF (by decide)) (by decide) (by decide) uS uF.one_sub).mono (m := 810000) (by decide)
  have nt := (nv.mul1 (nsg.one_sub (uS.mul uF.one_sub) (by decide)) (by decide) (by decide) uM (uS.mul uF.one_sub).one_sub).mono (m := 10000000) (by decide)
  have Mne : (M : Rat) ≠ 0 := by grind
  have Rne : (R : Rat) ≠ 0 := by grind
  refine hsvF_near hI (n := 10000000) (by decide) he hf hg (nv.mono (by decide)) (np.to ?_) (nq.to ?_) (nt.to ?_) hQ
  · grind
  · rw [Rat.intCast_sub]; grind
  · rw [Rat.intCast_add]; grind
end Mine
end

section -- Fl14
open PySem PySem.W PyProof.Rows PySem.Calls
namespace Mine
set_option maxRecDepth 100000
set_option linter.unusedVariables false
set_option linter.unusedSimpArgs false
set_option exponentiation.threshold 5000
open PySem.Float64 (val Right decode sgn infMag)

/-- the wave on the six faces -/
theorem face0 {R w x : Int} (hw : 0 ≤ w ∧ w ≤ R) (j : Int) (e : x = w + 6 * (R * j)) : WtE R x w := ⟨j, .inl ⟨by lia, by lia, by lia⟩⟩
theorem face1 {R w x : Int} (hw : 0 ≤ w ∧ w ≤ R) (j : Int) (e : x = w + R + 6 * (R * j)) : WtE R x R := ⟨j, .inr (.inl ⟨by lia, by lia, rfl⟩)⟩
theorem face2 {R w x : Int} (hw : 0 ≤ w ∧ w ≤ R) (j : Int) (e : x = w + 2 * R + 6 * (R * j)) : WtE R x R := ⟨j, .inr (.inl ⟨by lia, by lia, rfl⟩)⟩
theorem face3 {R w x : Int} (hw : 0 ≤ w ∧ w ≤ R) (j : Int) (e : x = w + 3 * R + 6 * (R * j)) : WtE R x (R - w) := ⟨j, .inr (.inr (.inl ⟨by lia, by lia, by lia⟩))⟩
theorem face4 {R w x : Int} (hw : 0 ≤ w ∧ w ≤ R) (j : Int) (e : x = w + 4 * R + 6 * (R * j)) : WtE R x 0 := ⟨j, .inr (.inr (.inr ⟨by lia, by lia, rfl⟩))⟩
theorem face5 {R w x : Int} (hw : 0 ≤ w ∧ w ≤ R) (j : Int) (e : x = w + 5 * R + 6 * (R * j)) : WtE R x 0 := ⟨j, .inr (.inr (.inr ⟨by lia, by lia, rfl⟩))⟩
theorem hsv_face {i M m R w P e f g : Int} (hM : M = m + R) (he : ∀ t, WtE R (P + 3 * R) t → m + t = e) (hf : ∀ t, WtE R (P + R) t → m + t = f) (hg : ∀ t, WtE R (P - R) t → m + t = g)
    (i0 : 0 ≤ i) (i7 : i ≤ 7) (e0 : w = P + R - R * i) (w0 : 0 ≤ w) (w1 : w ≤ R) : HsvI i M m w e f g := by
  have hw : 0 ≤ w ∧ w ≤ R := ⟨w0, w1⟩
  rcases (show i = 0 ∨ i = 1 ∨ i = 2 ∨ i = 3 ∨ i = 4 ∨ i = 5 ∨ i = 6 ∨ i = 7 by lia) with rfl | rfl | rfl | rfl | rfl | rfl | rfl | rfl
  · have := he _ (face2 hw 0 (by lia)); have := hf _ (face0 hw 0 (by lia)); have := hg _ (face4 hw (-1) (by lia))
    exact .inl ⟨.inl rfl, by lia, by lia, by lia⟩
  · have := he _ (face3 hw 0 (by lia)); have := hf _ (face1 hw 0 (by lia)); have := hg _ (face5 hw (-1) (by lia))
    exact .inr (.inl ⟨.inl rfl, by lia, by lia, by lia⟩)
  · have := he _ (face4 hw 0 (by lia)); have := hf _ (face2 hw 0 (by lia)); have := hg _ (face0 hw 0 (by lia))
    exact .inr (.inr (.inl ⟨rfl, by lia, by lia, by lia⟩))
  · have := he _ (face5 hw 0 (by lia)); have := hf _ (face3 hw 0 (by lia)); have := hg _ (face1 hw 0 (by lia))
    exact .inr (.inr (.inr (.inl ⟨rfl, by lia, by lia, by lia⟩)))
  · have := he _ (face0 hw 1 (by lia)); have := hf _ (face4 hw 0 (by lia)); have := hg _ (face2 hw 0 (by lia))
    exact .inr (.inr (.inr (.inr (.inl ⟨rfl, by lia, by lia, by lia⟩))))
  · have := he _ (face1 hw 1 (by lia)); have := hf _ (face5 hw 0 (by lia)); have := hg _ (face3 hw 0 (by lia))
    exact .inr (.inr (.inr (.inr (.inr ⟨rfl, by lia, by lia, by lia⟩))))
  · have := he _ (face2 hw 1 (by lia)); have := hf _ (face0 hw 1 (by lia)); have := hg _ (face4 hw 0 (by lia))
    exact .inl ⟨.inr rfl, by lia, by lia, by lia⟩
  · have := he _ (face3 hw 1 (by lia)); have := hf _ (face1 hw 1 (by lia)); have := hg _ (face5 hw 0 (by lia))
    exact .inr (.inl ⟨.inr rfl, by lia, by lia, by lia⟩)
theorem sh9 (N R : Int) : N + R = N - 2 * R + 3 * R := by lia
theorem sh10 (N R : Int) : N + -R = N + 2 * R - 3 * R := by lia
theorem law0 {a b c : Int} (ha : In16 a) (hb : In16 b) (hc : In16 c) {Q : V → Prop} (hQ : ∀ v, MovedTo (imax3 a b c + imin3 a b c - b) (imax3 a b c + imin3 a b c - c) (imax3 a b c + imin3 a b c - a) v → Q v) : movedP (divII a 16) (divII b 16) (divII c 16) 0 Q := by
  refine ⟨fun _ => ?_, fun q => by cases q⟩
  rw [hsvK_eq, max16 ha hb hc, min16 ha hb hc]
  obtain ⟨x1, x2, x3, x4⟩ := max_is a b c
  obtain ⟨n1, n2, n3, n4⟩ := min_is a b c
  obtain ⟨hM, hm⟩ := bd_max ha hb hc
  generalize imax3 a b c = M at *
  generalize imin3 a b c = m at *
  unfold hsvM
  rw [eq16 hm hM]
  refine ⟨fun q => ⟨_, _, _, rfl, ?_⟩, fun q => ?_⟩
  · have q : m = M := by simpa using q
    refine ⟨fun _ => hQ _ ?_, fun q => by rw [feq00] at q; cases q⟩
    have nv := in16 hM.1 hM.2
    obtain ⟨r3, r1, r2⟩ := grey1 x2 x3 x4 n2 n3 n4 q
    rw [r1, r2, r3, q]
    exact moved_near (n := 0) (by decide) hM hM hM nv nv nv
  · have hlt : m < M := by
      have : m ≠ M := by simpa using q
      lia
    have k7 := castle (show m + 1 ≤ M by lia)
    have k8 := castle hm.1
    have one : ((1 : Int) : Rat) = 1 := rfl
    have zz : ((0 : Int) : Rat) = 0 := rfl
    rw [Rat.intCast_add, one] at k7
    rw [zz] at k8
    have qM := cast16 hM
    have qm := cast16 hm
    have nM := in16 hM.1 hM.2
    have nR := ((in16 hM.1 hM.2).sub (in16 hm.1 hm.2) (by decide) (by decide) (by grind) (by grind)).mono (m := 1) (by decide)
    have Mpos : (0 : Rat) < (M : Rat) := by grind
    refine guardF_in (not_zero nM.f (by have := nM.lo; have e0 : ((0 : Nat) : Rat) = 0 := rfl; rw [e0] at this; grind)) ?_
    have hue : ∀ (fin : UInt64 → Prop), (∀ h N, HueN a b c M (M - m) N → Near h ((N : Rat) / ((M - m : Int) : Rat)) 1000 → fin h) → hueP (divII M 16) (divII m 16) (divII a 16) (divII b 16) (divII c 16) fin :=
      fun fin => hue_near ha hb hc hM hm hlt ⟨n2, x2⟩ ⟨n3, x3⟩ ⟨n4, x4⟩ (x1.imp Eq.symm (Or.imp Eq.symm Eq.symm))
    refine hue _ fun h N hN hh => ⟨_, _, _, rfl, ?_⟩
    obtain ⟨j, hj, hn, p0, p1⟩ := hue6 (by lia) (by lia) (hueN_bd hlt ⟨n2, x2⟩ ⟨n3, x3⟩ ⟨n4, x4⟩ hN).1 (hueN_bd hlt ⟨n2, x2⟩ ⟨n3, x3⟩ ⟨n4, x4⟩ hN).2 hh
    have hR : 1 ≤ M - m := by lia
    obtain ⟨us, eS⟩ := U.quo (p := M - m) (q := M) (by lia) (by lia) (by lia)
    obtain ⟨s0, s1⟩ := us
    have ns := (nR.div nM (q := ((M - m : Int) : Rat) / (M : Rat)) (by decide) (by decide) (by rw [Rat.intCast_sub] at eS ⊢; grind) (by grind) (by grind) (by grind)).mono (m := 500) (by decide)
    refine rgbHsv_near (m := m) (M := M) (R := M - m) (P := N - 6 * ((M - m) * j)) hR hm.1 (by lia) hM.2 p0 p1 (turn_on _ _ _ hR (by lia) p0 p1 hn) ns nM (bd1 hm.1 hM.2 n3 x3) (bd1 hm.1 hM.2 n4 x4) (bd1 hm.1 hM.2 n2 x2) ?_ hQ
    intro i w i0 i7 hw w0 w1
    have wv := fun t => wave_any (t := M - m - t) hlt ⟨n2, x2⟩ ⟨n3, x3⟩ ⟨n4, x4⟩ n1 hN
    have up : ∀ d t, WtE (M - m) (N - 6 * ((M - m) * j) + d) t → WtE (M - m) (N + d) t := fun d t h => wave N (M - m) j h
    refine hsv_face (by lia) (fun t h => ?_) (fun t h => ?_) (fun t h => ?_) i0 i7 hw w0 w1
    · exact hv ((wv t).2.1 (WtE.half hR (up _ t h)))
    · exact hv ((wv t).2.2 (WtE.half hR ((up _ t h).to (sh9 N (M - m)))))
    · exact hv ((wv t).1 (WtE.half' hR ((up (-(M - m)) t (h.to (Int.sub_eq_add_neg ..))).to (sh10 N (M - m)))))
/-- the float law, wanted -/
noncomputable def FloatLaw : Prop := ∀ a b c d : Int, 0 ≤ a ∧ a ≤ 16 → 0 ≤ b ∧ b ≤ 16 → 0 ≤ c ∧ c ≤ 16 → (d = 0 ∨ d = 1 ∨ d = 2 ∨ d = 4 ∨ d = 5) → ∀ Q : V → Prop, (∀ v, MovedTo (dueOf d a b c).1 (dueOf d a b c).2.1 (dueOf d a b c).2.2 v → Q v) → movedP (divII a 16) (divII b 16) (divII c 16) d Q
theorem float_law : FloatLaw := by
  intro a b c d ha hb hc hd Q hQ
  rcases hd with rfl | rfl | rfl | rfl | rfl
  · exact law0 ha hb hc hQ
  · exact law1 ha hb hc hQ
  · exact law2 ha hb hc hQ
  · exact law4 ha hb hc hQ
  · exact law5 ha hb hc hQ
end Mine
end

section -- Lt
open PySem PySem.W PyProof.Rows PySem.Calls
namespace Mine
set_option maxRecDepth 100000
set_option linter.unusedVariables false
set_option linter.unusedSimpArgs false
set_option exponentiation.threshold 5000
variable {p : Bool}

theorem exec_split {w : World} {hB : Heap} {k : Nat} {env : Env} {a b : List Stmt} {ρ : Rho} {P : Rho → Prop} {Q : Out → Prop} (h1 : ExecSpec w hB p k env (execs a env) ρ (seqOut P Q))
    (h2 : ∀ ρ', P ρ' → ∃ ρ'', Agree ρ' ρ'' (ρ''.map Prod.fst) ∧ ExecSpec w hB p k env (execs b env) ρ'' Q) : ExecSpec w hB p k env (execs (a ++ b) env) ρ Q := by
  intro s g fm A r E R hR
  refine execs_append ?_
  refine h1 s g fm A r E _ fun fl o h₁ t₁ k1 g1 o1 q1 => ?_
  cases o with
  | nxt ρ' =>
    obtain ⟨rfl, fm1⟩ := o1
    obtain ⟨ρ'', ha, hb⟩ := h2 ρ' q1
    exact hb { s with heap := h₁, toks := t₁ } g1 (fm1.less ρ'' ha) A r E R fun fl o h₂ t₂ k2 g2 o2 q2 => hR fl o h₂ t₂ (k1.trans k2) g2 o2 q2
  | ret d =>
    obtain ⟨v, rfl, hv⟩ := o1
    exact hR _ (.ret d) h₁ t₁ k1 g1 ⟨v, rfl, hv⟩ q1
  | brk ρ' =>
    obtain ⟨rfl, fm1⟩ := o1
    exact hR _ (.brk ρ') h₁ t₁ k1 g1 ⟨rfl, fm1⟩ q1
  | cnt ρ' =>
    obtain ⟨rfl, fm1⟩ := o1
    exact hR _ (.cnt ρ') h₁ t₁ k1 g1 ⟨rfl, fm1⟩ q1

theorem ne_same {l : List Int} {Q : Bool → Prop} (h : Q false) : litC .NotEq (.lst (l.map .int)) (.lst (l.map .int)) Q := by
  simp only [litC, intsOf_map]
  simpa using h
theorem isOne_min (a : Nat) : isOne (a : Int) = ((min 1 a : Nat) : Int) := by unfold isOne; split <;> lia

theorem div_small {b : Nat} (h : b < 2 ^ 40) : b * b + b + 1 < 2 ^ 900 := by
  have : b * b < 2 ^ 40 * 2 ^ 40 := Nat.mul_lt_mul'' h h
  refine Nat.lt_of_lt_of_le (m := 2 ^ 82) ?_ (Nat.pow_le_pow_right (by decide) (by decide))
  have e40 : 2 ^ 40 * 2 ^ 40 = (2 : Nat) ^ 80 := by rw [← Nat.pow_add]
  have e82 : (2 : Nat) ^ 82 = 4 * 2 ^ 80 := by rfl
  have e81 : (2 : Nat) ^ 40 ≤ 2 ^ 80 := Nat.pow_le_pow_right (by decide) (by decide)
  lia
theorem whole_small {n e f g : Nat} (hn : 8 ≤ n) (he : e ≤ 16) (hf : f ≤ 16) (hg : g ≤ 16) : wholeN n e f g < 2 ^ (4 * Builtin.Int.intBits ((2 ^ n * 2 ^ n + 2 ^ n + 1 : Nat) : Int)) := by
  have hP : 256 ≤ 2 ^ n := Nat.le_trans (by decide) (Nat.pow_le_pow_right (show 0 < 2 by decide) hn)
  have hb := nat_bits (2 ^ n * 2 ^ n + 2 ^ n + 1)
  rw [Nat.mul_comm 4, Nat.pow_mul]
  unfold wholeN
  generalize 2 ^ n = b at *
  generalize 2 ^ Builtin.Int.intBits ((b * b + b + 1 : Nat) : Int) = T at *
  have u1 : b * (f + b * g) ≤ b * (16 + b * 16) := Nat.mul_le_mul_left _ (Nat.add_le_add hf (Nat.mul_le_mul_left _ hg))
  have u3 : b * (16 + b * 16) = 16 * b + 16 * (b * b) := by grind
  have u4 : 256 * b ≤ b * b := Nat.mul_le_mul_right _ hP
  have u5 : 256 * (b * b) ≤ (b * b) * (b * b) := Nat.mul_le_mul_right _ (by lia)
  have u6 : (b * b) * (b * b) ≤ T * T := Nat.mul_le_mul (by lia) (by lia)
  have u7 : T * T * 1 ≤ T * T * (T * T) := Nat.mul_le_mul_left _ (Nat.mul_pos (by lia) (by lia))
  have u8 : T ^ 4 = T * T * (T * T) := by grind
  lia
theorem fmod_nat (x : Int) (m : Nat) (hm : 0 < m) : ∃ k : Nat, x.fmod (m : Int) = (k : Int) ∧ k < m := by
  have h1 := Int.fmod_nonneg_of_pos x (show (0 : Int) < (m : Int) by lia)
  have h2 := Int.fmod_lt_of_pos x (show (0 : Int) < (m : Int) by lia)
  exact ⟨(x.fmod m).toNat, by lia, by lia⟩
theorem nat16 {k : Nat} (h : k ≤ 16) : 0 ≤ (k : Int) ∧ (k : Int) ≤ 16 := ⟨Int.natCast_nonneg _, by lia⟩
theorem int1000 {k : Nat} (h : k ≤ 16) : 0 ≤ (k : Int) ∧ (k : Int) < 2 ^ 1000 := by
  refine ⟨Int.natCast_nonneg _, ?_⟩
  have : (2 : Int) ^ 5 ≤ 2 ^ 1000 := by exact_mod_cast Nat.pow_le_pow_right (show 0 < 2 by decide) (show 5 ≤ 1000 by decide)
  have e5 : (2 : Int) ^ 5 = 32 := by decide
  lia
theorem turn {w : World} {hB : Heap} {mg mb : Str → Option Value} (B : Bs w hB mg mb) {k : Nat} {L : Ln} (ok : EnvOk (envW w L)) (hfr : EnvFr hB (envW w L)) {n : Nat} (hn8 : 8 ≤ n) (hn : n ≤ 39) {x a b c rest both : Int}
    (hst : Stt ((2 ^ n : Nat) : Int) ((2 ^ n * 2 ^ n + 2 ^ n + 1 : Nat) : Int) a b c rest both) :
    ExecSpec w hB false (k + 12) (envW w L) (execs (fbW w) (envW w L)) (ρX x a b c rest both ((2 ^ n * 2 ^ n + 2 ^ n + 1 : Nat) : Int) ((2 ^ n : Nat) : Int) (n : Int))
      (fun o => ∃ ρ' a' b' c' rest' both', o = .nxt ρ' ∧ Agree ρ' (ρI a' b' c' rest' both' ((2 ^ n * 2 ^ n + 2 ^ n + 1 : Nat) : Int) ((2 ^ n : Nat) : Int) (n : Int)) ["parts", "rest", "both", "divisor", "base", "n"] ∧ Stt ((2 ^ n : Nat) : Int) ((2 ^ n * 2 ^ n + 2 ^ n + 1 : Nat) : Int) a' b' c' rest' both') := by
  have hP : 256 ≤ 2 ^ n := Nat.le_trans (by decide) (Nat.pow_le_pow_right (show 0 < 2 by decide) hn8)
  have hP2 : 2 ^ n < 2 ^ 200 := Nat.pow_lt_pow_right (by decide) (by lia)
  obtain ⟨h, hh⟩ : ∃ h : Nat, 2 ^ n = 2 * h := ⟨2 ^ (n - 1), by rw [← Nat.pow_succ']; congr 1; lia⟩
  generalize hbase : 2 ^ n = base at *
  have hcast : ((base * base + base + 1 : Nat) : Int) = (base : Int) * base + base + 1 := by push_cast; rfl
  have hD0 : (0 : Int) < ((base * base + base + 1 : Nat) : Int) := by lia
  have hr0 : 0 ≤ rest := by rw [hst.hr]; exact Int.emod_nonneg _ (by lia)
  have hr1 : rest < ((base * base + base + 1 : Nat) : Int) := by rw [hst.hr]; exact Int.emod_lt_of_pos _ hD0
  -- the deed
  have e0 : (fbW w) = (fbW w).take 2 ++ (fbW w).drop 2 := (List.take_append_drop ..).symm
  rw [e0]
  refine exec_split (P := fun ρ' => ∃ d : Int, 0 ≤ d ∧ d < 6 ∧ (d = 3 → imax3 a b c ≠ 16) ∧ Agree ρ' (ρD x a b c rest both ((base * base + base + 1 : Nat) : Int) (base : Int) (n : Int) d) ["deed", "x", "parts", "rest", "both", "divisor", "base", "n"]) (wpS_sound B ok hfr 20 _ _ _ ?_) ?_
  · rw [lb0]
    have m1 := Int.emod_nonneg x (show (6 : Int) ≠ 0 by decide)
    have m2 := Int.emod_lt_of_pos x (show (0 : Int) < 6 by decide)
    rw [Int.fmod_eq_emod_of_nonneg _ (show (0 : Int) ≤ 6 by decide)]
    refine ⟨by decide, fun h3 => ⟨fun h16 => ?_, fun h16 => ?_⟩, fun h3 => ⟨fun q => (by cases q), fun _ => ?_⟩⟩
    · exact ⟨2, by decide, by decide, fun q => (by cases q), rfl, rfl, rfl, rfl, rfl, rfl, rfl, rfl, trivial⟩
    · exact ⟨x % 6, m1, m2, fun _ => (by simpa using h16), rfl, rfl, rfl, rfl, rfl, rfl, rfl, rfl, trivial⟩
    · exact ⟨x % 6, m1, m2, fun q => (by simp [q] at h3), rfl, rfl, rfl, rfl, rfl, rfl, rfl, rfl, trivial⟩
  rintro ρ1 ⟨d, d0, d6, d3, hag⟩
  refine ⟨_, hag, ?_⟩
  have hnx := next_due (d := d) hcast hst ⟨d0, d6⟩ d3
  have hrb := read_back (h := (h : Int)) (by lia) (by rw [hh]; push_cast; rfl) hcast hnx
  generalize hr' : (nextR rest both a b c d (base : Int) ((base * base + base + 1 : Nat) : Int)).1 = r' at *
  generalize hb' : (nextR rest both a b c d (base : Int) ((base * base + base + 1 : Nat) : Int)).2 = b' at *
  generalize he : (dueOf d a b c).1 = e at *
  generalize hf : (dueOf d a b c).2.1 = f at *
  generalize hg : (dueOf d a b c).2.2 = g at *
  have hr0' : 0 ≤ r' := by rw [hnx.hr]; exact Int.emod_nonneg _ (by lia)
  have hr1' : r' < ((base * base + base + 1 : Nat) : Int) := by rw [hnx.hr]; exact Int.emod_lt_of_pos _ hD0
  have e2 : (fbW w).drop 2 = ((fbW w).drop 2).take 2 ++ (fbW w).drop 4 := by
    rw [show (fbW w).drop 4 = ((fbW w).drop 2).drop 2 by rw [List.drop_drop]]
    exact (List.take_append_drop ..).symm
  rw [e2]
  refine exec_split (P := fun ρ' => Agree ρ' (ρE x a b c r' b' ((base * base + base + 1 : Nat) : Int) (base : Int) (n : Int) d e f g) ["due", "deed", "x", "parts", "rest", "both", "divisor", "base", "n"]) (wpS_sound B ok hfr 20 _ _ _ ?_) ?_
  · rw [lb2]
    refine next_call B (k := k + 3) (base := base) (by lia) hP2 hst.ha.1 hst.hb.1 hst.hc.1 hr0 hr1 ?_
    rw [hr', hb']
    refine Eq.mpr (lb3 w hB (k + 12) L _ x a b c rest both _ base n d r' b') ?_
    refine read_call B (k := k + 3) (base := base) (by lia) hP2 hr0' hr1' ?_
    rw [hrb]
    exact ⟨rfl, rfl, rfl, rfl, rfl, rfl, rfl, rfl, rfl, trivial⟩
  intro ρ2 hag2
  refine ⟨_, hag2, ?_⟩
  have e4 : (fbW w).drop 4 = ((fbW w).drop 4).take 1 ++ (fbW w).drop 5 := by
    rw [show (fbW w).drop 5 = ((fbW w).drop 4).drop 1 by rw [List.drop_drop]]
    exact (List.take_append_drop ..).symm
  rw [e4]
  refine exec_split (P := fun ρ' => ρ' = ρE x a b c r' b' ((base * base + base + 1 : Nat) : Int) (base : Int) (n : Int) d e f g) (wpS_sound B ok hfr 20 _ _ _ ?_) ?_
  · rw [lb4]
    refine ⟨fun hd3 => ?_, fun hd3 => ?_⟩
    · have hd3 : d = 3 := eq_of_beq hd3
      have hmx := max_is a b c
      have h16 := d3 hd3
      have ha16 : a < 16 := by have := hst.ha; have := hst.hb; have := hst.hc; lia
      have hb16 : b < 16 := by have := hst.ha; have := hst.hb; have := hst.hc; lia
      have hc16 : c < 16 := by have := hst.ha; have := hst.hb; have := hst.hc; lia
      obtain ⟨an, rfl⟩ := Int.eq_ofNat_of_zero_le hst.ha.1
      obtain ⟨bn, rfl⟩ := Int.eq_ofNat_of_zero_le hst.hb.1
      obtain ⟨cn, rfl⟩ := Int.eq_ofNat_of_zero_le hst.hc.1
      have ee : e = ((an + min 1 an : Nat) : Int) := by rw [← he, hd3]; show (an : Int) + isOne an = _; rw [isOne_min]; push_cast; rfl
      have ef : f = ((bn + min 1 bn : Nat) : Int) := by rw [← hf, hd3]; show (bn : Int) + isOne bn = _; rw [isOne_min]; push_cast; rfl
      have eg : g = ((cn + min 1 cn : Nat) : Int) := by rw [← hg, hd3]; show (cn : Int) + isOne cn = _; rw [isOne_min]; push_cast; rfl
      have hqm := quote_mail (a := an) (b := bn) (c := cn) (by lia) (by lia) (by lia) (x.fdiv 6)
      refine guardF_in (by decide) ⟨by decide, ?_⟩
      refine mail_call B (k := k + 11) (xs := [(an : Int), (bn : Int), (cn : Int)]) (es := ["\n", "\r", "\r\n"]) ?_ (by simp) (by simp) (by simp) ?_ ?_
      · intro y hy
        simp only [List.mem_cons, List.mem_nil_iff, or_false] at hy
        rcases hy with rfl | rfl | rfl
        · exact hst.ha
        · exact hst.hb
        · exact hst.hc
      · intro y hy
        simp only [List.mem_cons, List.mem_nil_iff, or_false] at hy
        rcases hy with rfl | rfl | rfl <;> decide
      refine quote_call B (k := k + 11) (mail_size (by lia) (by lia) (by lia) _) (mail_size2 (by lia) (by lia) (by lia) _) ?_
      refine guardF_in (by decide) ?_
      refine mail_call B (k := k + 11) (xs := [e, f, g]) (es := ["\r\n"]) ?_ (by simp) (by simp) (by simp) ?_ ?_
      · intro y hy
        simp only [List.mem_cons, List.mem_nil_iff, or_false] at hy
        rcases hy with rfl | rfl | rfl
        · exact hnx.ha
        · exact hnx.hb
        · exact hnx.hc
      · intro y hy
        simp only [List.mem_cons, List.mem_nil_iff, or_false] at hy
        subst hy; decide
      show condP (sub1 (sub2 (mailP [(an : Int), (bn : Int), (cn : Int)] ["\n", "\r", "\r\n"] (x.fdiv 6))) != mailP [e, f, g] ["\r\n"] 0) _ _
      rw [hqm, ← ee, ← ef, ← eg, bne_self_eq_false]
      exact ⟨fun q => (by cases q), fun _ => rfl⟩
    · have hd5 : d = 0 ∨ d = 1 ∨ d = 2 ∨ d = 4 ∨ d = 5 := by
        have : d ≠ 3 := by simpa using hd3
        lia
      refine lc_left B ok (fun R hR => moved_call B (k := k + 9) hst.ha hst.hb hst.hc (float_law a b c d hst.ha hst.hb hst.hc hd5 R (by rw [he, hf, hg]; exact hR))) ?_
      refine lc_right B ok hnx.ha hnx.hb hnx.hc ?_
      show condP (!decide ([e * 1048576, f * 1048576, g * 1048576] = [e * 1048576, f * 1048576, g * 1048576])) _ _
      rw [decide_eq_true rfl]
      exact ⟨fun q => (by cases q), fun _ => rfl⟩
  rintro ρ3 rfl
  refine ⟨ρE x a b c r' b' ((base * base + base + 1 : Nat) : Int) (base : Int) (n : Int) d e f g, ⟨rfl, rfl, rfl, rfl, rfl, rfl, rfl, rfl, rfl, trivial⟩, wpS_sound B ok hfr 20 _ _ _ ?_⟩
  rw [lb5]
  obtain ⟨en, rfl⟩ := Int.eq_ofNat_of_zero_le hnx.ha.1
  obtain ⟨fn, rfl⟩ := Int.eq_ofNat_of_zero_le hnx.hb.1
  obtain ⟨gn, rfl⟩ := Int.eq_ofNat_of_zero_le hnx.hc.1
  rw [← hbase] at hnx
  have hval := val3 n en fn gn
  have hwh := whole3_N n en fn gn
  have he16 : en ≤ 16 := Int.ofNat_le.mp hnx.ha.2
  have hf16 : fn ≤ 16 := Int.ofNat_le.mp hnx.hb.2
  have hg16 : gn ≤ 16 := Int.ofNat_le.mp hnx.hc.2
  have hdg := digs3 (n := n) (e := en) (f := fn) (g := gn) hn8 he16 hf16 hg16
  have hb1 : base < 2 ^ 40 := by rw [← hbase]; exact Nat.pow_lt_pow_right (by decide) (by lia)
  refine digits2int_call B (k := k + 7) (vs := [(en : Int), (fn : Int), (gn : Int)]) (n := n) (by lia) (by simp) ?_ ?_
  · intro y hy
    simp only [List.mem_cons, List.mem_nil_iff, or_false] at hy
    rcases hy with rfl | rfl | rfl
    · exact int1000 he16
    · exact int1000 hf16
    · exact int1000 hg16
  rw [hval]
  refine int2digits_call B (k := k + 7) (a := wholeN n en fn gn) (n := n) (by lia) (by lia) rfl hdg.1 ?_
  rw [hdg.2]
  refine figures_call B (k := k + 11) (xs := [(en : Int), (fn : Int), (gn : Int)]) (by simp) ?_
  refine ne_same ⟨fun q => (by cases q), fun _ => ?_⟩
  have hr2 : r' = ((wholeN n en fn gn : Nat) : Int) % ((base * base + base + 1 : Nat) : Int) := by
    rw [← hwh, hbase]
    have := hnx.hr
    rw [hbase] at this
    exact this
  have hW := whole_small hn8 he16 hf16 hg16
  rw [hbase] at hW
  refine intdm_call B (k := k + 4) (a := ((wholeN n en fn gn : Nat) : Int)) (b := base * base + base + 1) (by lia) ?_ (by rw [Int.natAbs_natCast]; exact hW) ?_
  · exact div_small hb1
  rw [← hr2]
  refine guardF_in (by rfl) ?_
  show condP (r' != r') _ _
  rw [bne_self_eq_false]
  refine ⟨fun q => (by cases q), fun _ => ?_⟩
  rw [hbase] at hnx
  exact ⟨_, _, _, _, _, _, rfl, ⟨rfl, rfl, rfl, rfl, rfl, rfl, trivial⟩, hnx⟩
end Mine
end

section -- Lf
open PySem PySem.W PyProof.Rows PySem.Calls
namespace Mine
set_option maxRecDepth 100000
set_option linter.unusedVariables false
set_option linter.unusedSimpArgs false
set_option exponentiation.threshold 5000
variable {p : Bool}

/-- a for over a list of ints, by an invariant over the names -/
theorem for_list {w : World} {hB : Heap} {mg mb : Str → Option Value} (B : Bs w hB mg mb) {k : Nat} {env : Env} (ok : EnvOk env) (hfr : EnvFr hB env) {x : Str} {px : Pos} {it : Expr} {body : List Stmt} {pos : Pos} {ρ : Rho} {xs : List Int} {P : Nat → Rho → Prop} {Q : Out → Prop}
    (hx : okStore env x = true) (hs : ∀ v, foldedSetIterable it env v = pure v) (hit : EvalSpec w hB false k env it ρ (fun d => d = .lst (xs.map .int))) (hlen : xs.length ≤ 1000) (h0 : P 0 ρ)
    (turn : ∀ i ρ', i < xs.length → P i ρ' → ExecSpec w hB false k env (execs body env) ((x, I (xs.getD i 0)) :: ρ') (fun o => ∃ ρ1 ρ2, o = .nxt ρ1 ∧ Agree ρ1 ρ2 (ρ2.map Prod.fst) ∧ P (i + 1) ρ2))
    (fin : ∀ ρ', P xs.length ρ' → Q (.nxt ρ')) : ExecSpec w hB false k env (execs [.For (.Name x px) it body [] pos] env) ρ Q := by
  intro s g fm A r E R hR
  refine wpAny_execs_cons (wpAny_For ?_ hs)
  refine hit s g fm A r E _ fun v d h₁ t₁ k1 g1 i1 q1 => ?_
  subst q1
  obtain ⟨a, vs, rfl, hl, hsv⟩ := i1
  have fm1 := fm.keep g k1
  have hlenA := hsv.length
  rw [List.length_map] at hlenA
  refine wpAny_pyIter_list hl ?_
  have hIt : h₁.get? h₁.objs.size = none := Heap.get?_none_of_le (Nat.le_refl _)
  have ka2 : ∀ b o, h₁.get? b = some o → (h₁.push { cls := .type "list_iterator", data := .fields #[.ref a, .int 0 0] }).get? b = some o := fun b o e => Heap.get?_push_of_some _ e
  have hLI : (h₁.push { cls := .type "list_iterator", data := .fields #[.ref a, .int 0 0] }).IsListIter h₁.objs.size a 0 := ⟨_, Heap.get?_push_size _ rfl, rfl, rfl⟩
  have hlt : a ≠ h₁.objs.size := by obtain ⟨o, ho, _⟩ := hl; exact Nat.ne_of_lt (Heap.lt_size ho)
  generalize hh2 : h₁.push { cls := .type "list_iterator", data := .fields #[.ref a, .int 0 0] } = h₂ at ka2 hLI
  generalize hIt0 : h₁.objs.size = It at hIt hLI hlt
  have hh2' := hh2
  have g2 := g1.keep_all ka2
  have fm2 := fm1.keep (p := false) g1 (.of_all ka2)
  have hl2 : h₂.IsList a vs.toArray := by obtain ⟨o, e, q⟩ := hl; exact ⟨o, ka2 _ _ e, q⟩
  have hItB : hB.get? It = none := by
    cases q : hB.get? It with
    | none => rfl
    | some o => rw [g1.stays _ _ q] at hIt; cases hIt
  have kS2 : KeepF false env s.heap h₂ := (k1.toF env).trans ((Keep.of_all ka2).toF env)
  have oldIt : ∀ b o, (false = true ∨ (b ≠ 54 ∧ b ≠ 47)) → s.heap.get? b = some o → b ≠ It := fun b o h1 e q => by
    have := k1 b o h1 e
    rw [q, hIt] at this; cases this
  subst hh2
  rw [← hIt0] at *
  refine for_walk (Walks.list (prog := prg) (w := w) (A := A) r.1 h₁.objs.size a hlt vs.toArray) (fun i s' => ∃ h t ρ', s' = { s with heap := h, toks := t } ∧ Good hB h ∧ Fm env h ρ' ∧ P i ρ' ∧ KeepF false env s.heap h) ?_ ?_ ?_ ?_
  · exact ⟨hLI, hl2⟩
  · exact ⟨_, _, ρ, rfl, g2, fm2, h0, kS2⟩
  · rintro i s' hi hst ⟨h, t, ρ', rfl, gi, fmi, hP, ki⟩ v h' tk hv hst' hk E'
    have hi' : i < xs.length := by simpa [hlenA] using hi
    obtain ⟨gi2, fmi2⟩ := listIter_ok gi fmi hst.1 hItB hk
    have ki2 : KeepF false env s.heap h' := fun b o q1 q2 e => hk b o (by simpa using oldIt b o q2 e) (ki b o q1 q2 e)
    have hvs : (Sc.int (xs.getD i 0)).Is v := scs_get hsv (by simpa using hv)
    refine wpAny_assign_Name (?_)
    refine store_sound (p := false) (s := { s with heap := h', toks := tk }) ok hfr (x := x) (d := I (xs.getD i 0)) gi2 fmi2 hx hvs fun h₅ t₅ k5 g5 fm5 => ?_
    refine turn i ρ' hi' hP { s with heap := h₅, toks := t₅ } g5 fm5 A r E' _ fun fl o h₆ t₆ k6 g6 o6 q6 => ?_
    obtain ⟨ρ1, ρ2, rfl, hag, hP2⟩ := q6
    obtain ⟨rfl, fm6⟩ := o6
    have hli : h₆.IsListIter h₁.objs.size a (i + 1) := listIter_keepF g5 fm5 k6 (listIter_keepF gi2 fmi2 k5 hst'.1)
    have hll : h₆.IsList a vs.toArray := isList_keepF g5 fm5 k6 (isList_keepF gi2 fmi2 k5 hst'.2)
    exact ⟨⟨hli, hll⟩, h₆, t₆, ρ2, rfl, g6, fm6.less ρ2 hag, hP2, (ki2.trans k5).trans k6⟩
  · rintro s' hst ⟨h, t, ρ', rfl, gi, fmi, hP, ki⟩ h' tk hk
    obtain ⟨gi2, fmi2⟩ := listIter_ok gi fmi hst.1 hItB hk
    have ki2 : KeepF false env s.heap h' := fun b o q1 q2 e => hk b o (by simpa using oldIt b o q2 e) (ki b o q1 q2 e)
    refine wpAny_execs_nil ?_
    have hn : vs.toArray.size = xs.length := by simp [hlenA]
    rw [hn] at hP
    exact hR .next (.nxt ρ') h' tk ki2 gi2 ⟨rfl, fmi2⟩ (fin ρ' hP)
end Mine
end

section -- Lg
open PySem PySem.W PyProof.Rows PySem.Calls
namespace Mine
set_option maxRecDepth 100000
set_option linter.unusedVariables false
set_option linter.unusedSimpArgs false
set_option exponentiation.threshold 5000
variable {p : Bool}

theorem ints_scs : ∀ {ns : List Int} {vs : List Value}, IntsAre vs ns → ScsAre (ns.map .int) vs
  | _, _, .nil => trivial
  | _, _, .cons i t h => ⟨⟨t, rfl⟩, ints_scs h⟩
theorem sum_call {w : World} {hB : Heap} {xs : List Int} {Q : V → Prop} (hQ : Q (I xs.sum)) : CallSpec w hB p 0 (.builtin "sum") [.lst (xs.map .int)] Q := by
  intro s vals g hv A r E R hR
  obtain ⟨v, rfl, l, vs, rfl, hl, hs⟩ := vs1 hv
  have hi := intsOf_are (intsOf_map xs) hs
  obtain ⟨ys, hx⟩ := hi.allInts.items
  have hl' : s.heap.IsList l (intItems ys) := hx ▸ hl
  refine sum_intListG r.1 hl' fun h' tk t' hk => ?_
  have e1 : xs = ys.toList.map (·.1) := by
    rw [← nums_intItems, ← hx]
    exact (show numsOf vs.toArray.toList = xs from hi.numsOf).symm
  have e2 : preSum (numAt ys) ys.size = xs.sum := by
    rw [preSum_eq, List.take_of_length_le (by simp), e1]
  rw [e2]
  exact hR _ (I xs.sum) h' tk (.of_all hk) (g.keep_all hk) ⟨_, rfl⟩ hQ
/-- the first five of a list of ints -/
theorem slice_upto {w : World} {hB : Heap} {mg mb : Str → Option Value} (B : Bs w hB mg mb) {k : Nat} {env : Env} (ok : EnvOk env) {x : Str} {q1 q2 q3 q4 : Pos} {kk : Nat} {ρ : Rho} {ns : List Int} {c : Nat} (hlen : ns.length ≤ 1000)
    (hx : ρ.lookup x = some (.lst (ns.map .int))) {Q : V → Prop} (hQ : Q (.lst ((ns.take c).map .int))) :
    EvalSpec w hB p k env (.Subscript (.Name x q1) (.Slice none (some (.Constant (.int (c : Int)) kk q2)) none q3) q4) ρ Q := by
  intro s g fm A r E R hR
  obtain ⟨m, hn, hloc⟩ := fm.m
  obtain ⟨v, hh, a, vs, rfl, hl, hs⟩ := hloc _ _ hx
  have hvl := hs.length
  rw [List.length_map] at hvl
  refine wpAny_Subscript_Slice slot_list_getitem.lookup (name_held ok hn hh ?_)
  refine wpAny_Slice (wpAny_pure (wpAny_Constant_int (k := kk) (pos := q2) ?_))
  refine wpAny_pure ⟨(hl.push _).typeIs, ?_⟩
  refine wpAny_getItem_list_slice (lo := none) (hi := some (c : Int)) (st := none) (hl.push _) (Heap.IsSliceOf.new _ _ _ _) .none (.int _ _) .none (by decide) ?_ (by rw [List.size_toArray]; exact Nat.le_trans (by omega) (show 1000 ≤ sizeLine by decide))
  rw [slicePick_upto']
  have ka : ∀ b o, s.heap.get? b = some o → ((s.heap.push { cls := .type "slice", data := .fields #[.none, .int (c : Int) s.toks, .none] }).push { cls := .type "list", data := .seq (vs.toArray.toList.take c).toArray }).get? b = some o :=
    fun b o e => Heap.get?_push_of_some _ (Heap.get?_push_of_some _ e)
  refine hR _ (.lst ((ns.take c).map .int)) _ _ (.of_all ka) (g.keep_all ka) ⟨_, vs.take c, rfl, ⟨_, Heap.get?_push_size _ rfl, rfl, _, rfl⟩, ?_⟩ hQ
  have hi := intsOf_are (intsOf_map ns) hs
  exact ints_scs (hi.take c)
end Mine
end

section -- Lh
open PySem PySem.W PyProof.Rows PySem.Calls
namespace Mine
set_option maxRecDepth 100000
set_option linter.unusedVariables false
set_option linter.unusedSimpArgs false
set_option exponentiation.threshold 5000
variable {p : Bool}

theorem ExecSpec.less {w : World} {hB : Heap} {k : Nat} {env : Env} {t : Sem Flow} {ρ ρ2 : Rho} {Q : Out → Prop} (h : ExecSpec w hB p k env t ρ2 Q) (hag : Agree ρ ρ2 (ρ2.map Prod.fst)) : ExecSpec w hB p k env t ρ Q :=
  fun s g fm => h s g (fm.less ρ2 hag)
noncomputable def forIter : Stmt → Expr
  | .For _ e _ _ _ => e
  | _ => default
theorem lw_body2 (w : World) : ∃ q1 q5 q6 q7 kk3, bodyAt w 171 = stAt w 171 0 :: (((bodyAt w 171).drop 1).take 7 ++ ([.For (.Name "x" q1) (forIter (stAt w 171 8)) (fbW w) [] q5] ++ [.Return (some (.Constant (.bool true) kk3 q6)) q7])) := ⟨_, _, _, _, _, rfl⟩
noncomputable def numS : Sc → Sc
  | .int i => .int (i.fmod (10 ^ (6 : Int).toNat))
  | a => a
section
variable (w : World) (hB : Heap) (k : Nat) (L : Ln) (ds : List Sc) (ns : List Sc) (st n base dv a b c rest both : Int)
noncomputable abbrev ρ4 : Rho := ("both", I both) :: ("rest", I rest) :: ("parts", L3 a b c) :: ρ3 ds ns st n base dv
theorem lw_it (R : V → Prop) : wpE w hB p k (envW w L) 12 (forIter (stAt w 171 8)) (ρ4 ds ns st n base dv a b c rest both) R =
    guardF (decide (1000 < 6)) (litB .Add (.lst [.int 0, .int 9, .int 4, .int 1, .int 2, .int 5]) (.lst ns) R) := by kernel_rfl
end
theorem law_exec {w : World} {hB : Heap} {mg mb : Str → Option Value} (B : Bs w hB mg mb) {k : Nat} {L : Ln} (ok : EnvOk (envW w L)) (hfr : EnvFr hB (envW w L)) {ns : List Int} (hlen : ns.length ≤ 63) :
    ExecSpec w hB false (k + 12) (envW w L) (execs (bodyAt w 171) (envW w L)) [("script", .lst (ns.map .int))] (retQ fun d => d = .sc (.bool true)) := by
  obtain ⟨q1, q5, q6, q7, kk3, hbody⟩ := lw_body2 w
  rw [hbody]
  -- numbers
  refine seq_sound (t := pure .next) (P := fun ρ' => ρ' = ρ1 (ns.map .int) (((ns.take 5).map fun i => i.fmod (10 ^ (6 : Int).toNat)).map .int)) ?_ ?_
  · rw [lw0]
    obtain ⟨z1, zk, z2, z3, z4, hit⟩ := lw_iter w
    refine assign_comp_sound ok hfr (ρc := []) (cl := []) (compOk0 (by kernel_rfl) (by kernel_rfl)) numS ((ns.take 5).map .int) (by simp; lia) (by kernel_rfl) (by kernel_rfl) ?_ ?_ (fun v => by kernel_rfl) ?_
    · rw [hit]
      exact slice_upto B ok (c := 5) (by lia) rfl (.inl rfl)
    · intro q hq C
      have okc : EnvOk (compEnvC (cScope (valOf (stAt w 171 0))) [] C (envW w L)) := ⟨by kernel_rfl, by kernel_rfl, by kernel_rfl⟩
      refine (wpE_sound B okc 6).1 _ _ _ ?_
      obtain ⟨i, _, rfl⟩ := List.mem_map.mp hq
      show wpE _ _ _ _ _ 6 _ [("x", I i)] _
      rw [lw_elt]
      exact ⟨by decide, by decide, rfl⟩
    · show (("numbers", V.lst (((ns.take 5).map Sc.int).map numS)) :: [("script", V.lst (ns.map .int))] : Rho) = _
      rw [List.map_map, List.map_map]
      rfl
  rintro ρ' rfl
  have hnl : ((ns.take 5).map fun i => i.fmod (10 ^ (6 : Int).toNat)).length ≤ 5 := by simp; lia
  generalize hnum : ((ns.take 5).map fun i => i.fmod (10 ^ (6 : Int).toNat)) = nums at *
  -- the set-up
  generalize hst : 700 + nums.sum = st
  obtain ⟨n0, hn0, hn32⟩ := fmod_nat st 32 (by decide)
  obtain ⟨n, hn, hn8, hn39⟩ : ∃ n : Nat, 8 + st.fmod 32 = (n : Int) ∧ 8 ≤ n ∧ n ≤ 39 := ⟨8 + n0, by rw [show st.fmod 32 = (n0 : Int) from hn0]; push_cast; rfl, Nat.le_add_right .., Nat.add_le_add_left (Nat.le_of_lt_succ hn32) 8⟩
  clear hn0 hn32
  obtain ⟨an, han, an17⟩ := fmod_nat st 17 (by decide)
  obtain ⟨bn, hbn, bn17⟩ := fmod_nat (st.fdiv 17) 17 (by decide)
  obtain ⟨cn, hcn, cn17⟩ := fmod_nat (st.fdiv 289) 17 (by decide)
  have han : st.fmod 17 = (an : Int) := han
  have hbn : (st.fdiv 17).fmod 17 = (bn : Int) := hbn
  have hcn : (st.fdiv 289).fmod 17 = (cn : Int) := hcn
  have an16 : an ≤ 16 := Nat.le_of_lt_succ an17
  have bn16 : bn ≤ 16 := Nat.le_of_lt_succ bn17
  have cn16 : cn ≤ 16 := Nat.le_of_lt_succ cn17
  clear an17 bn17 cn17
  have hdv : valD n [1, 1, 1] = ((2 ^ n * 2 ^ n + 2 ^ n + 1 : Nat) : Int) := by
    have := val3 n 1 1 1
    rw [show (((1 : Nat)) : Int) = 1 from rfl] at this
    rw [this]
    unfold wholeN
    congr 1
    grind
  have hb1 : 2 ^ n < 2 ^ 40 := Nat.pow_lt_pow_right (by decide) (by lia)
  have hP : 256 ≤ 2 ^ n := Nat.le_trans (by decide) (Nat.pow_le_pow_right (show 0 < 2 by decide) hn8)
  have hS : Stt ((2 ^ n : Nat) : Int) ((2 ^ n * 2 ^ n + 2 ^ n + 1 : Nat) : Int) an bn cn (((wholeN n an bn cn : Nat) : Int) % ((2 ^ n * 2 ^ n + 2 ^ n + 1 : Nat) : Int)) (imax3 an bn cn + imin3 an bn cn) :=
    ⟨nat16 an16, nat16 bn16, nat16 cn16, by rw [whole3_N], rfl⟩
  refine exec_split (P := fun ρ' => ρ' = ρ4 (ns.map .int) (nums.map .int) st n ((2 ^ n : Nat) : Int) ((2 ^ n * 2 ^ n + 2 ^ n + 1 : Nat) : Int) an bn cn (((wholeN n an bn cn : Nat) : Int) % ((2 ^ n * 2 ^ n + 2 ^ n + 1 : Nat) : Int)) (imax3 an bn cn + imin3 an bn cn)) (wpS_sound B ok hfr 30 _ _ _ ?_) ?_
  · rw [lw1]
    refine (sum_call (p := false) (xs := nums) (Q := fun d => d = I nums.sum) rfl).mono (Nat.zero_le _) ?_
    rintro d rfl
    show wpS w hB false (k + 12) (envW w L) 29 (((bodyAt w 171).drop 2).take 6) (("start", I (700 + nums.sum)) :: ρ1 (ns.map .int) (nums.map .int)) _
    rw [hst, lw2]
    show (32 : Int) ≠ 0 ∧ (0 ≤ 8 + st.fmod 32 ∧ 8 + st.fmod 32 ≤ 1000000 ∧ (2 : Int).natAbs < 2 ^ 64) ∧ guardF (decide (1000 < 3)) (CallSpec w hB false (k + 12) (.ref 59) [L3 1 1 1, I (8 + st.fmod 32)] fun d => wpS w hB false (k + 12) (envW w L) 26 (((bodyAt w 171).drop 5).take 3)
      (("divisor", d) :: ("base", I (2 ^ (8 + st.fmod 32).toNat)) :: ("n", I (8 + st.fmod 32)) :: ("start", I st) :: ρ1 (ns.map .int) (nums.map .int)) _)
    rw [hn, Int.toNat_natCast]
    refine ⟨by decide, ⟨Int.natCast_nonneg _, by lia, by decide⟩, guardF_in (by rfl) ?_⟩
    refine digits2int_call B (k := k + 7) (vs := [1, 1, 1]) (n := n) (by lia) (by simp) ?_ ?_
    · intro y hy
      simp only [List.mem_cons, List.mem_nil_iff, or_false, or_self] at hy
      subst hy
      exact int1000 (k := 1) (by decide)
    rw [hdv]
    have hpw : (2 : Int) ^ n = ((2 ^ n : Nat) : Int) := by push_cast; rfl
    rw [hpw]
    show wpS w hB false (k + 12) (envW w L) 26 (((bodyAt w 171).drop 5).take 3) (ρ3 (ns.map .int) (nums.map .int) st n ((2 ^ n : Nat) : Int) ((2 ^ n * 2 ^ n + 2 ^ n + 1 : Nat) : Int)) _
    rw [lw3, han, hbn, hcn]
    refine ⟨by decide, ⟨by decide, by decide⟩, by decide, ⟨by decide, by decide⟩, by decide, guardF_in (by rfl) ?_⟩
    refine digits2int_call B (k := k + 7) (vs := [(an : Int), (bn : Int), (cn : Int)]) (n := n) (by lia) (by simp) ?_ ?_
    · intro y hy
      simp only [List.mem_cons, List.mem_nil_iff, or_false] at hy
      rcases hy with rfl | rfl | rfl
      · exact int1000 an16
      · exact int1000 bn16
      · exact int1000 cn16
    rw [val3]
    refine intdm_call B (k := k + 4) (a := ((wholeN n an bn cn : Nat) : Int)) (b := 2 ^ n * 2 ^ n + 2 ^ n + 1) (by lia) (div_small hb1) (by rw [Int.natAbs_natCast]; exact whole_small hn8 an16 bn16 cn16) ?_
    exact guardF_in (by rfl) rfl
  rintro ρ' rfl
  refine ⟨ρ4 (ns.map .int) (nums.map .int) st n ((2 ^ n : Nat) : Int) ((2 ^ n * 2 ^ n + 2 ^ n + 1 : Nat) : Int) an bn cn (((wholeN n an bn cn : Nat) : Int) % ((2 ^ n * 2 ^ n + 2 ^ n + 1 : Nat) : Int)) (imax3 an bn cn + imin3 an bn cn), ⟨rfl, rfl, rfl, rfl, rfl, rfl, rfl, rfl, rfl, trivial⟩, ?_⟩
  refine exec_split (P := fun ρ' => ∃ a b c rest both, Agree ρ' (ρI a b c rest both ((2 ^ n * 2 ^ n + 2 ^ n + 1 : Nat) : Int) ((2 ^ n : Nat) : Int) (n : Int)) ["parts", "rest", "both", "divisor", "base", "n"] ∧ Stt ((2 ^ n : Nat) : Int) ((2 ^ n * 2 ^ n + 2 ^ n + 1 : Nat) : Int) a b c rest both) ?_ ?_
  · refine for_list B ok hfr (xs := [0, 9, 4, 1, 2, 5] ++ nums) (P := fun _ ρ' => ∃ a b c rest both, Agree ρ' (ρI a b c rest both ((2 ^ n * 2 ^ n + 2 ^ n + 1 : Nat) : Int) ((2 ^ n : Nat) : Int) (n : Int)) ["parts", "rest", "both", "divisor", "base", "n"] ∧ Stt ((2 ^ n : Nat) : Int) ((2 ^ n * 2 ^ n + 2 ^ n + 1 : Nat) : Int) a b c rest both) (by kernel_rfl) (fun v => by kernel_rfl) ?_ (by simp; lia) ?_ ?_ ?_
    · refine (wpE_sound B ok 12).1 _ _ _ ?_
      rw [lw_it]
      refine guardF_in (by rfl) (guardF_in ?_ ?_)
      · rw [List.length_map]
        have : ¬ 1000 < 6 + nums.length := by lia
        simpa using this
      · show V.lst _ = V.lst _
        rw [List.map_append]; rfl
    · exact ⟨_, _, _, _, _, ⟨rfl, rfl, rfl, rfl, rfl, rfl, trivial⟩, hS⟩
    · rintro i ρ' hi ⟨a, b, c, rest, both, hag, hst'⟩ s g fm A r E R hR
      refine turn B ok hfr hn8 hn39 hst' s g (fm.less (ρX (([0, 9, 4, 1, 2, 5] ++ nums).getD i 0) a b c rest both ((2 ^ n * 2 ^ n + 2 ^ n + 1 : Nat) : Int) ((2 ^ n : Nat) : Int) (n : Int)) ?_) A r E R fun fl o h' tk k1 g1 o1 q1 => ?_
      · obtain ⟨a1, a2, a3, a4, a5, a6, _⟩ := hag
        exact ⟨rfl, a1, a2, a3, a4, a5, a6, trivial⟩
      · obtain ⟨ρ1, a', b', c', rest', both', rfl, hag', hs'⟩ := q1
        exact hR fl _ h' tk k1 g1 o1 ⟨ρ1, _, rfl, hag', a', b', c', rest', both', ⟨rfl, rfl, rfl, rfl, rfl, rfl, trivial⟩, hs'⟩
    · rintro ρ' h
      exact h
  · rintro ρ' _
    refine ⟨[], trivial, wpS_sound B ok hfr 5 _ _ _ ?_⟩
    exact rfl
end Mine
end

section -- Le
open PySem PySem.W PyProof.Rows PySem.Calls
namespace Mine
set_option maxRecDepth 100000
set_option linter.unusedVariables false
set_option linter.unusedSimpArgs false
set_option exponentiation.threshold 5000

theorem law_run {w : World} {hB h₁ : Heap} {mg mb : Str → Option Value} {loose : List Str} {mean : ExcName → Option Value} {nm : Str} {sc : Scope} {L fa : Addr} {cd : Value} {body : List Stmt} {a : Addr} {vs : List Value} {ns : List Int}
    (hnm : nm = (fnAt w 171).qualname) (hsc : sc = (fnAt w 171).scope) (hbody : body = bodyAt w 171)
    (X : (KK w).In hB) (T : Top topProg loose mean mg mb hB) (c1 : CodeHd hB 58 54) (c2 : CodeHd hB 51 47) (F : Fr hB L h₁ fun x => List.lookup x [(("script" : Str), Value.ref a)])
    (N : News hB L h₁ [(54, tabObj #[]), (47, tabObj #[])]) (hl : hB.IsList a vs.toArray) (hi : IntsAre vs ns) (hlen : ns.length ≤ 63) {s : Shared} (hs : s.heap = h₁) {E : Value → Shared → Prop} {R : Flow → Shared → Prop}
    (hR : ∀ h' tk, Good hB h' → R (.ret (.bool true)) { s with heap := h', toks := tk }) :
    wpAny (model prg w) (callerA.deeper (envOf nm sc L fa cd)) (execs body (envOf nm sc L fa cd)) R E s := by
  subst hnm hsc hbody hs
  have n54 := N (54, tabObj #[]) (by simp)
  have n47 := N (47, tabObj #[]) (by simp)
  have henv : envOf (fnAt w 171).qualname (fnAt w 171).scope L fa cd = envW w ⟨L, fa, cd⟩ := by kernel_rfl
  rw [henv]
  have B : Bs w hB mg mb := ⟨X, ⟨_, _, T⟩, c1, c2, n54.2.2, n47.2.2⟩
  have g : Good hB s.heap := ⟨F.keep, .inl n54.1, .inl n47.1⟩
  have ok : EnvOk (envW w ⟨L, fa, cd⟩) := ⟨by kernel_rfl, by kernel_rfl, by kernel_rfl⟩
  have hcells : (envW w ⟨L, fa, cd⟩).cells = [] := by kernel_rfl
  have hloc : (envW w ⟨L, fa, cd⟩).locals = L := by kernel_rfl
  have hL : hB.get? L = none := Heap.get?_none_of_le F.above
  have hfr : EnvFr hB (envW w ⟨L, fa, cd⟩) := by
    refine ⟨fun b hb => ?_, fun y z c _ h1 h2 => ?_⟩
    · rcases hb with rfl | ⟨x, _, h2⟩
      · exact hL
      · rw [hcells] at h2; cases h2
    · rw [hcells] at h1; cases h1
  have fm : Fm (envW w ⟨L, fa, cd⟩) s.heap [("script", .lst (ns.map .int))] := by
    refine ⟨⟨_, by rw [hloc]; exact F.ns, ?_⟩, fun x c _ h2 => by rw [hcells] at h2; cases h2⟩
    intro x d e
    rw [List.lookup_cons] at e
    by_cases hx : x = "script"
    · subst hx
      simp only [beq_self_eq_true] at e
      cases e
      refine ⟨.ref a, .inl ⟨by kernel_rfl, by simp⟩, a, vs, rfl, ?_, ints_scs hi⟩
      obtain ⟨o, ho, q⟩ := hl
      exact ⟨o, F.keep _ _ ho, q⟩
    · rw [beq_false_of_ne hx] at e; cases e
  refine law_exec B (k := 0) ok hfr hlen s g fm (callerA.deeper (envW w ⟨L, fa, cd⟩)) ⟨rfl, by show callerA.depth + 1 + 12 < recursionLimit; decide, by show callerA.units + 3 + 10 * 12 + 100 < cLine; decide⟩ E R fun fl o h' tk k1 g1 o1 q1 => ?_
  cases o with
  | ret d =>
    obtain ⟨v, rfl, hv⟩ := o1
    have q1 : d = .sc (.bool true) := q1
    subst q1
    have hv : v = .bool true := hv
    subst hv
    exact hR h' tk g1
  | nxt _ => exact q1.elim
  | brk _ => exact q1.elim
  | cnt _ => exact q1.elim
end Mine
end

section -- Fin
open PySem PySem.W PyProof.Rows PySem.Calls
namespace Mine
set_option maxRecDepth 100000
set_option linter.unusedVariables false

theorem grown {hB h : Heap} (g : Good hB h) : GrownAll [(58, 54), (51, 47)] h := ⟨tab_get g.td, tab_get g.ti, trivial⟩
set_option maxHeartbeats 4000000 in
theorem holds : PySem.Challenge.rw_pe0229_01.Holds := hd (by
  k_go0
  refine law_run (by kernel_rfl) (by kernel_rfl) (by kernel_rfl) ‹Frag.In _ _› ‹Top topProg _ _ _ _ _› ‹CodeHd _ 58 54› ‹CodeHd _ 51 47› ‹Fr _ _ _ _› ‹News _ _ _ _› ‹(ghostOf _ _).IsList _ _› ‹IntsAre _ _› (by omega) rfl fun h' tk g => ?_
  refine ⟨⟨.inl ⟨.bool true, .bool true, [], rfl, fun _ => by kernel_rfl, ?_, ?_, fun _ => ⟨List.nodup_nil, fun _ h => by cases h⟩⟩, g.stays, rfl, ‹_ = #[]›⟩, grown g⟩
  · exact .bool true
  · kernel_rfl)
end Mine
end

theorem PySem.Challenge.cw_pe0229_01_holds : PySem.Challenge.rw_pe0229_01.Holds := by
  exact Mine.holds
