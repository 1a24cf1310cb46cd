import PyProof.Rows.All
import Wide.All
import OpenK.AllK
import Wide.FinOn
import PySem.Challenge.RW_rs0165_01
open PySem PySem.W PyProof.Rows
set_option Elab.async false
set_option linter.unusedVariables false
set_option linter.unusedSimpArgs false
set_option maxRecDepth 100000
namespace Mine
local macro_rules | `(tactic| omega) => `(tactic| lia)

/-! # part G0 -/
section
/-! the heap and the generators only grow in number -/
noncomputable def Gr (s s' : Shared) : Prop := s.heap.objs.size ≤ s'.heap.objs.size ∧ s.gens.size ≤ s'.gens.size
theorem Gr.rfl {s : Shared} : Gr s s := ⟨Nat.le_refl _, Nat.le_refl _⟩
theorem Gr.trans {a b c : Shared} (x : Gr a b) (y : Gr b c) : Gr a c := ⟨Nat.le_trans x.1 y.1, Nat.le_trans x.2 y.2⟩

theorem runs_gr {M : Model} {Γ : Ctx} {p : Pos} {t : Sem PySem.Fin} {fs : List Frame} {s s' : Shared} {e : End} (h : Runs M Γ p t fs s e s') : Gr s s' := by
  induction h <;> (try simp only [Gr, Shared.setGen, Heap.size_push, Heap.size_after_update, Array.size_setIfInBounds, Array.size_push] at *) <;> omega

theorem wakes_gr {M : Model} {Γ : Ctx} {p : Pos} {g : Nat} {r : Resume} {s s' : Shared} {res : GenResult} (h : Wakes M Γ p g r s res s') : Gr s s' := by
  have aux : ∀ {c : Code} {p' : Pos} {t : Sem PySem.Fin} {fs : List Frame} {e₁ : End} {s₁ : Shared}, Runs M (Γ.wake c p) p' t fs (s.setGen g .running) e₁ s₁ → Gr s (s₁.setGen g e₁.genState) := by
    intro c p' t fs e₁ s₁ hr
    have := runs_gr hr
    simp only [Gr, Shared.setGen, Array.size_setIfInBounds] at *
    exact this
  unfold Wakes at h
  split at h
  · exact h.elim
  · split at h
    · obtain ⟨e₁, s₁, hr, _, _, rfl⟩ := h; exact aux hr
    · obtain ⟨_, rfl⟩ := h; exact Gr.rfl
    · obtain ⟨_, rfl⟩ := h; simp only [Gr, Shared.setGen, Array.size_setIfInBounds]; omega
  · obtain ⟨e₁, s₁, hr, _, _, rfl⟩ := h; exact aux hr
  · obtain ⟨_, rfl⟩ := h; exact Gr.rfl
  · obtain ⟨_, rfl⟩ := h; exact Gr.rfl

theorem wp_gr {α : Type} (M : Model) (Γ : Ctx) (s₀ : Shared) (t : Sem α) : ∀ (Q : α → Pos → Shared → Prop) (E : Value → Pos → Shared → Prop) (p : Pos) (s : Shared), Gr s₀ s → Sem.wp M Γ t Q E p s →
    Sem.wp M Γ t (fun a p' s' => Gr s₀ s' ∧ Q a p' s') (fun e p' s' => Gr s₀ s' ∧ E e p' s') p s := by
  induction t with
  | pure a => intro Q E p s g h; exact ⟨g, h⟩
  | raise e => intro Q E p s g h; exact ⟨g, h⟩
  | unsupported _ => intro Q E p s _ h; exact h
  | finish _ => intro Q E p s _ h; exact h
  | register _ _ => intro Q E p s _ h; exact h
  | yield _ _ _ _ => intro Q E p s _ h; exact h
  | fork _ _ => intro Q E p s _ h; exact h
  | await _ _ _ _ _ => intro Q E p s _ h; exact h
  | rule _ k ih => intro Q E p s g h; exact ih () Q E p s g h
  | «at» p' k ih => intro Q E p s g h; exact ih () Q E p' s g h
  | point _ k ih => intro Q E p s g h; exact ih () Q E p s g h
  | loadIfAlive a k ih => intro Q E p s g h; exact ih _ Q E p s g h
  | ask k ih => intro Q E p s g h; exact ih _ Q E p s g h
  | handled own k ih => intro Q E p s g h; exact ih _ Q E p s g h
  | stack k ih => intro Q E p s g h; exact ih _ Q E p s g h
  | thread k ih => intro Q E p s g h; exact ih _ Q E p s g h
  | load a _ k ih => intro Q E p s g h; obtain ⟨o, ho, h⟩ := h; exact ⟨o, ho, ih o Q E p s g h⟩
  | genState x k ih => intro Q E p s g h; obtain ⟨o, ho, h⟩ := h; exact ⟨o, ho, ih _ Q E p s g h⟩
  | update a _ f k ih => intro Q E p s g h; exact ⟨h.1, ih () Q E p _ (g.trans ⟨by simp only [Heap.size_after_update]; exact Nat.le_refl _, Nat.le_refl _⟩) h.2⟩
  | alloc o k ih => intro Q E p s g h; exact ih _ Q E p _ (g.trans ⟨by simp only [Heap.size_push]; omega, Nat.le_refl _⟩) h
  | fresh k ih => intro Q E p s g h; exact ih _ Q E p _ g h
  | os q _ k ih => intro Q E p s g h; exact ih _ Q E p _ g h
  | choose src m k ih => intro Q E p s g h; exact ⟨h.1, ih _ Q E p _ g h.2⟩
  | newGen c k ih => intro Q E p s g h; exact ih _ Q E p _ (g.trans ⟨Nat.le_refl _, by simp⟩) h
  | call c hd _ _ k ih => intro Q E p s g h; obtain ⟨r, s', hr, h⟩ := h; exact ⟨r, s', hr, ih r Q E p s' (g.trans (runs_gr hr)) h⟩
  | resume x r _ k ih => intro Q E p s g h; obtain ⟨res, s', hw, h⟩ := h; exact ⟨res, s', hw, ih res Q E p s' (g.trans (wakes_gr hw)) h⟩

theorem wpAny_gr {α : Type} {M : Model} {A : Around} {s : Shared} {t : Sem α} {Q : α → Shared → Prop} {E : Value → Shared → Prop}
    (h : wpAny M A t (fun a s' => Gr s s' → Q a s') (fun e s' => Gr s s' → E e s') s) : wpAny M A t Q E s :=
  fun Γ p hΓ => Sem.wp_mono M Γ t (fun _ _ _ x => x.2 x.1) (fun _ _ _ x => x.2 x.1) p s (wp_gr M Γ s t _ _ p s Gr.rfl (h Γ p hΓ))
end

/-! # part F1 -/
section
/-- plain data -/
inductive D where
  | none
  | bool (b : Bool)
  | int (i : Int)
  | str (s : Str)
  | list (ds : List D)
  | tup (ds : List D)

mutual
/-- a value that stands for a datum in a heap; its lists lie outside N -/
inductive Rep (N : Addr → Prop) (h : Heap) : D → Value → Prop
  | none : Rep N h .none .none
  | bool (b : Bool) : Rep N h (.bool b) (.bool b)
  | int (i : Int) (t : Tok) : Rep N h (.int i) (.int i t)
  | str (s : Str) (t : Tok) : Rep N h (.str s) (.str s t)
  | list {ds : List D} {a : Addr} {items : Array Value} : ¬ N a → h.PlainList a items → Reps N h ds items.toList → Rep N h (.list ds) (.ref a)
  | tup {ds : List D} {a : Addr} {items : Array Value} : ¬ N a → h.IsTuple a items → Reps N h ds items.toList → Rep N h (.tup ds) (.ref a)
inductive Reps (N : Addr → Prop) (h : Heap) : List D → List Value → Prop
  | nil : Reps N h [] []
  | cons {d : D} {v : Value} {ds : List D} {vs : List Value} : Rep N h d v → Reps N h ds vs → Reps N h (d :: ds) (v :: vs)
end

theorem IsTuple_keep {h h' : Heap} {a : Addr} {its : Array Value} (x : h.IsTuple a its) (k : ∀ o, h.get? a = some o → h'.get? a = some o) : h'.IsTuple a its :=
  let ⟨o, e, r⟩ := x; ⟨o, k o e, r⟩
theorem PlainList_keep {h h' : Heap} {a : Addr} {its : Array Value} (x : h.PlainList a its) (k : ∀ o, h.get? a = some o → h'.get? a = some o) : h'.PlainList a its :=
  let ⟨n, e⟩ := x; ⟨n, k _ e⟩

theorem Rep.keep {N N' : Addr → Prop} {h h' : Heap} {d : D} {v : Value} (r : Rep N h d v) (hN : ∀ a, (h.get? a).isSome → N' a → N a)
    (k : ∀ b o, ¬ N b → h.get? b = some o → h'.get? b = some o) : Rep N' h' d v := by
  refine Rep.rec (motive_1 := fun d v _ => Rep N' h' d v) (motive_2 := fun ds vs _ => Reps N' h' ds vs) .none .bool .int .str ?_ ?_ .nil ?_ r
  · intro ds a items hn hl _ ih
    exact .list (fun q => hn (hN _ (by obtain ⟨n, e⟩ := hl; rw [e]; rfl) q)) (PlainList_keep hl fun o e => k _ o hn e) ih
  · intro ds a items hn hl _ ih
    exact .tup (fun q => hn (hN _ (by obtain ⟨o, e, _⟩ := hl; rw [e]; rfl) q)) (IsTuple_keep hl fun o e => k _ o hn e) ih
  · intro d v ds vs _ _ h1 h2; exact .cons h1 h2

theorem Reps.keep {N N' : Addr → Prop} {h h' : Heap} (hN : ∀ a, (h.get? a).isSome → N' a → N a)
    (k : ∀ b o, ¬ N b → h.get? b = some o → h'.get? b = some o) : ∀ {ds : List D} {vs : List Value}, Reps N h ds vs → Reps N' h' ds vs
  | _, _, .nil => .nil
  | _, _, .cons a b => .cons (a.keep hN k) (Reps.keep hN k b)

theorem Reps.length {N : Addr → Prop} {h : Heap} : ∀ {ds : List D} {vs : List Value}, Reps N h ds vs → ds.length = vs.length
  | _, _, .nil => rfl
  | _, _, .cons _ b => by rw [List.length_cons, List.length_cons, Reps.length b]
theorem Reps.get {N : Addr → Prop} {h : Heap} : ∀ {ds : List D} {vs : List Value}, Reps N h ds vs → ∀ {i : Nat} {d : D}, ds[i]? = some d → ∃ v, vs[i]? = some v ∧ Rep N h d v
  | _, _, .nil, _, _, e => by simp at e
  | _, _, .cons a _, 0, _, e => by simp at e; exact ⟨_, rfl, e ▸ a⟩
  | _, _, .cons _ b, i + 1, _, e => by
    simp only [List.getElem?_cons_succ] at e ⊢
    exact Reps.get b e
theorem Reps.append {N : Addr → Prop} {h : Heap} {ds' : List D} {vs' : List Value} (y : Reps N h ds' vs') : ∀ {ds : List D} {vs : List Value}, Reps N h ds vs → Reps N h (ds ++ ds') (vs ++ vs')
  | _, _, .nil => y
  | _, _, .cons a b => .cons a (Reps.append y b)
theorem Reps.snoc {N : Addr → Prop} {h : Heap} {ds : List D} {vs : List Value} {d : D} {v : Value} (x : Reps N h ds vs) (y : Rep N h d v) : Reps N h (ds ++ [d]) (vs ++ [v]) :=
  Reps.append (.cons y .nil) x
theorem Reps.take {N : Addr → Prop} {h : Heap} : ∀ {ds : List D} {vs : List Value}, Reps N h ds vs → ∀ n, Reps N h (ds.take n) (vs.take n)
  | _, _, .nil, n => by simp; exact .nil
  | _, _, .cons a b, 0 => by simp; exact .nil
  | _, _, .cons a b, n + 1 => by simp only [List.take_succ_cons]; exact .cons a (Reps.take b n)
theorem Reps.drop {N : Addr → Prop} {h : Heap} : ∀ {ds : List D} {vs : List Value}, Reps N h ds vs → ∀ n, Reps N h (ds.drop n) (vs.drop n)
  | _, _, .nil, n => by simp; exact .nil
  | _, _, .cons a b, 0 => by simp only [List.drop_zero]; exact .cons a b
  | _, _, .cons a b, n + 1 => by simp only [List.drop_succ_cons]; exact Reps.drop b n
theorem Reps.reverse {N : Addr → Prop} {h : Heap} : ∀ {ds : List D} {vs : List Value}, Reps N h ds vs → Reps N h ds.reverse vs.reverse
  | _, _, .nil => .nil
  | _, _, .cons a b => by rw [List.reverse_cons, List.reverse_cons]; exact Reps.snoc (Reps.reverse b) a

/-- objects that nothing ever changes: codes and functions -/
noncomputable def Stays (o : Obj) : Prop := (o.cls = .type "code" ∧ ∃ vs, o.data = .fields vs) ∨ (o.cls = .type "function" ∧ ∃ fd, o.data = .func fd)
theorem ns_c {o : Obj} {T : String} (h : o.cls = .type T) (h2 : T ≠ "code" ∧ T ≠ "function") : ¬ Stays o := fun q => q.elim (fun q => h2.1 (by rw [h] at q; injection q.1)) fun q => h2.2 (by rw [h] at q; injection q.1)
theorem ns_d {o : Obj} (h1 : ∀ vs, o.data ≠ .fields vs) (h2 : ∀ fd, o.data ≠ .func fd) : ¬ Stays o := fun q => q.elim (fun q => let ⟨vs, e⟩ := q.2; h1 vs e) fun q => let ⟨vs, e⟩ := q.2; h2 vs e

/-- the ground: the world, the base heap (tables hidden), what the module's names hold, the tables that may grow -/
structure Cx where
  w : World
  g0 : Heap
  mg : Str → Option Value
  mb : Str → Option Value
  hg : g0.Ns mainGlobals mg
  hb : g0.Ns builtinsNs mb
  nolim : g0.NoLimit
  Tb : Addr → Prop
  tab : Heap → Prop
  tbLow : ∀ a, Tb a → a < g0.objs.size
  tbOut : ∀ a, Tb a → g0.get? a = none
  tabKeep : ∀ h h', (∀ b o, h.get? b = some o → Tb b ∨ Stays o → h'.get? b = some o) → tab h → tab h'

/-- what a global name stands for -/
noncomputable def Cx.Gl (K : Cx) (x : Str) (v : Value) : Prop := K.mg x = some v ∨ (K.mg x = none ∧ K.mb x = some v)

abbrev Cx.M (K : Cx) : Model := model PySem.Challenge.rw_rs0165_01.row.prog K.w

structure Inv (K : Cx) (s : Shared) : Prop where
  keep : ∀ b o, K.g0.get? b = some o → s.heap.get? b = some o
  low : K.g0.objs.size ≤ s.heap.objs.size
  bare : AllBare s.gens
  tab : K.tab s.heap

/-- what a step may change: the addresses W, the generators V (and the tables) -/
structure Ext (K : Cx) (W : Addr → Prop) (V : Nat → Prop) (s s' : Shared) : Prop where
  heap : ∀ b o, ¬ W b → ¬ K.Tb b → s.heap.get? b = some o → s'.heap.get? b = some o
  inv : Inv K s → Inv K s'
  size : s.heap.objs.size ≤ s'.heap.objs.size
  gsize : s.gens.size ≤ s'.gens.size
  gens : ∀ g, g < s.gens.size → ¬ V g → s'.gens[g]? = s.gens[g]?
  os : s'.os = s.os

noncomputable def no : Nat → Prop := fun _ => False

abbrev E0 (K : Cx) (s s' : Shared) : Prop := Ext K no no s s'

section
variable {K : Cx} {W W' N : Addr → Prop} {V V' : Nat → Prop} {s s' s'' : Shared}

theorem Ext.refl (s : Shared) : Ext K W V s s := ⟨fun _ _ _ _ e => e, fun i => i, Nat.le_refl _, Nat.le_refl _, fun _ _ _ => rfl, rfl⟩
theorem Ext.trans (x : Ext K W V s s') (y : Ext K W V s' s'') : Ext K W V s s'' where
  heap := fun b o h1 h2 e => y.heap b o h1 h2 (x.heap b o h1 h2 e)
  inv := fun i => y.inv (x.inv i)
  size := Nat.le_trans x.size y.size
  gsize := Nat.le_trans x.gsize y.gsize
  gens := fun g hg hv => (y.gens g (Nat.lt_of_lt_of_le hg x.gsize) hv).trans (x.gens g hg hv)
  os := y.os.trans x.os
theorem Ext.mono (x : Ext K W V s s') (h1 : ∀ a, (s.heap.get? a).isSome → W a → W' a) (h2 : ∀ g, g < s.gens.size → V g → V' g) : Ext K W' V' s s' where
  heap := fun b o hb ht e => x.heap b o (fun q => hb (h1 b (by rw [e]; rfl) q)) ht e
  inv := x.inv
  size := x.size
  gsize := x.gsize
  gens := fun g hg hv => x.gens g hg fun q => hv (h2 g hg q)
  os := x.os
theorem Ext.of0 (x : E0 K s s') : Ext K W V s s' := x.mono (fun _ _ q => q.elim) (fun _ _ q => q.elim)

/-- everything kept, tables too: a plain growth of the heap -/
theorem E0.grow {h' : Heap} {tk : Nat} (k : ∀ b o, s.heap.get? b = some o → h'.get? b = some o) (hs : s.heap.objs.size ≤ h'.objs.size) : E0 K s { s with heap := h', toks := tk } where
  heap := fun b o _ _ e => k b o e
  inv := fun i => ⟨fun b o e => k b o (i.keep b o e), Nat.le_trans i.low hs, i.bare, K.tabKeep _ _ (fun b o e _ => k b o e) i.tab⟩
  size := hs
  gsize := Nat.le_refl _
  gens := fun _ _ _ => rfl
  os := rfl

theorem E0.toks (tk : Nat) : E0 K s { s with toks := tk } := E0.grow (h' := s.heap) (fun _ _ e => e) (Nat.le_refl _)

/-- one old object changes, no table, no code -/
theorem Ext.at1 {h' : Heap} {tk : Nat} {a : Addr} {oa : Obj} (e : s.heap.get? a = some oa) (hc : ¬ Stays oa) (ha : W a) (hb : K.g0.get? a = none) (ht : ¬ K.Tb a)
    (hs : Heap.SameBut a s.heap h') : Ext K W V s { s with heap := h', toks := tk } where
  heap := fun b o hw _ e' => hs.extBut b o (fun q => hw (q ▸ ha)) e'
  inv := fun i => ⟨fun b o e' => hs.extBut b o (fun q => by rw [q, hb] at e'; cases e') (i.keep b o e'), Nat.le_trans i.low (Nat.le_of_eq hs.1.symm), i.bare,
    K.tabKeep _ _ (fun b o e' hbo => hs.extBut b o (fun q => by
      subst q
      rcases hbo with h1 | h1
      · exact ht h1
      · rw [e] at e'; cases e'
        exact hc h1) e') i.tab⟩
  size := Nat.le_of_eq hs.1.symm
  gsize := Nat.le_refl _
  gens := fun _ _ _ => rfl
  os := rfl

theorem Rep.ext {d : D} {v : Value} (r : Rep N s.heap d v) (x : Ext K W V s s') (hW : ∀ a, W a → N a) (hT : ∀ a, K.Tb a → N a) : Rep N s'.heap d v :=
  r.keep (fun _ _ q => q) fun b o hn e => x.heap b o (fun q => hn (hW b q)) (fun q => hn (hT b q)) e
end

/-- room above a call: n more levels -/
structure Room (A : Around) (n : Nat) : Prop where
  hh : A.handled = none
  depth : A.depth + n < recursionLimit
  units : A.units + 20 * n + 100 < cLine

theorem Room.mono {A : Around} {n m : Nat} (r : Room A n) (h : m ≤ n) : Room A m := ⟨r.hh, by have := r.depth; omega, by have := r.units; omega⟩
theorem Room.deeper {A : Around} {n : Nat} {env : Env} (r : Room A (n + 1)) : Room (A.deeper env) n :=
  ⟨r.hh, by have := r.depth; simp only [Around.deeper] at *; omega, by have := r.units; simp only [Around.deeper_units] at *; omega⟩
theorem Room.in1 {A : Around} {n : Nat} (r : Room A n) : A.in1.handled = none := r.hh

inductive Loc where
  | loc
  | cell (c : Addr)
  | free (c : Addr)

inductive En where
  | un
  | val (d : D)
  | raw (v : Value)
  | own (a : Addr) (ds : List D)

structure Var where
  x : Str
  loc : Loc
  en : En

noncomputable def EnOK (N : Addr → Prop) (h : Heap) : En → Option Value → Prop
  | .un, _ => True
  | .val d, v => ∃ x, v = some x ∧ Rep N h d x
  | .raw x, v => v = some x
  | .own a ds, v => v = some (.ref a) ∧ N a ∧ ∃ items, h.PlainList a items ∧ Reps N h ds items.toList

/-- a frame: what it may change, what lists must avoid, its environment, its names -/
structure Fm where
  W : Addr → Prop
  N : Addr → Prop
  No : Addr → Prop
  env : Env
  ρ : List Var
  gl : List Str

noncomputable def LocOK (K : Cx) (F : Fm) (x : Str) : Loc → Prop
  | .loc => F.env.kindOf x = some .local
  | .cell c => F.env.kindOf x = some .cell ∧ F.env.cells.lookup x = some c ∧ F.W c ∧ c ≠ F.env.locals
  | .free c => (F.env.kindOf x = some .cell ∨ F.env.kindOf x = some .free) ∧ F.env.cells.lookup x = some c ∧ ¬ K.Tb c ∧ c ≠ F.env.locals

noncomputable def VarOK (F : Fm) (m : Str → Option Value) (h : Heap) (p : Var) : Prop := match p.loc with
  | .loc => EnOK F.N h p.en (m p.x)
  | .cell c => ∃ v, h.IsCell c v ∧ EnOK F.N h p.en v
  | .free c => ∃ v, h.IsCell c v ∧ EnOK F.N h p.en v

/-- the part that does not hang on the state -/
structure FmOK (K : Cx) (F : Fm) : Prop where
  kind : F.env.scope.kind = .function
  glob : F.env.globals = mainGlobals
  blt : F.env.builtins = builtinsNs
  names : (F.ρ.map Var.x).Nodup
  locs : ∀ p ∈ F.ρ, LocOK K F p.x p.loc
  gls : ∀ x ∈ F.gl, F.env.kindOf x = some .globalImplicit ∧ (x == ("__debug__" : Str)) = false
  tame : ∀ p ∈ F.ρ, (p.x == ("__debug__" : Str)) = false ∧ (p.x == ("__classdict__" : Str)) = false
  apart : ∀ p ∈ F.ρ, ∀ q ∈ F.ρ, ∀ c, p.loc = .cell c → (q.loc = .cell c ∨ q.loc = .free c) → p.x = q.x
  modL : F.W F.env.locals
  WN : ∀ a, F.W a → F.N a
  TN : ∀ a, K.Tb a → F.N a
  NoN : ∀ a, F.No a → F.N a
  base : ∀ a, F.W a → K.g0.get? a = none ∧ ¬ K.Tb a
  owns : ∀ p ∈ F.ρ, ∀ a ds, p.en = .own a ds → F.W a ∧ ∀ q ∈ F.ρ, ∀ ds', q.en = .own a ds' → p.x = q.x

structure FrOK (K : Cx) (F : Fm) (s : Shared) : Prop where
  ok : FmOK K F
  inv : Inv K s
  ns : ∃ m, s.heap.Ns F.env.locals m ∧ ∀ p ∈ F.ρ, VarOK F m s.heap p
  alloc : ∀ a, F.N a → a < s.heap.objs.size

theorem EnOK.ext {K : Cx} {N W : Addr → Prop} {V : Nat → Prop} {s s' : Shared} {e : En} {v : Option Value} (h : EnOK N s.heap e v) (x : Ext K W V s s') (hW : ∀ a, W a → N a) (hT : ∀ a, K.Tb a → N a)
    (ho : ∀ a ds, e = .own a ds → ¬ W a ∧ ¬ K.Tb a) : EnOK N s'.heap e v := by
  cases e with
  | un => trivial
  | val d => obtain ⟨y, e, r⟩ := h; exact ⟨y, e, r.ext x hW hT⟩
  | raw y => exact h
  | own a ds =>
    obtain ⟨e, hn, its, hl, hr⟩ := h
    obtain ⟨h1, h2⟩ := ho a ds rfl
    exact ⟨e, hn, its, PlainList_keep hl fun o e => x.heap _ _ h1 h2 e, Reps.keep (fun _ _ q => q) (fun b o hb e => x.heap b o (fun q => hb (hW b q)) (fun q => hb (hT b q)) e) hr⟩

theorem FrOK.ext {K : Cx} {F : Fm} {W : Addr → Prop} {V : Nat → Prop} {s s' : Shared} (h : FrOK K F s) (x : Ext K W V s s') (hW : ∀ a, W a → F.N a) (hL : ¬ W F.env.locals)
    (hC : ∀ p ∈ F.ρ, ∀ c, (p.loc = .cell c ∨ p.loc = .free c) → ¬ W c) (hO : ∀ p ∈ F.ρ, ∀ a ds, p.en = .own a ds → ¬ W a) : FrOK K F s' where
  ok := h.ok
  inv := x.inv h.inv
  ns := by
    obtain ⟨m, hn, hv⟩ := h.ns
    have tl := (h.ok.base _ h.ok.modL).2
    have kl : ∀ o, s.heap.get? F.env.locals = some o → s'.heap.get? F.env.locals = some o := fun o e => x.heap _ _ hL tl e
    refine ⟨m, hn.at' fun o e => kl o e, fun p hp => ?_⟩
    have he : ∀ v, EnOK F.N s.heap p.en v → EnOK F.N s'.heap p.en v := fun v hv => hv.ext x hW h.ok.TN fun a ds e => ⟨hO p hp a ds e, (h.ok.base _ (h.ok.owns p hp a ds e).1).2⟩
    have hv' := hv p hp
    have hl := h.ok.locs p hp
    unfold VarOK at hv' ⊢
    cases hpl : p.loc with
    | loc => rw [hpl] at hv'; exact he _ hv'
    | cell c =>
      rw [hpl] at hv' hl
      obtain ⟨v, ⟨o, e1, e2⟩, e4⟩ := hv'
      exact ⟨v, ⟨o, x.heap _ _ (hC p hp c (.inl hpl)) (h.ok.base _ hl.2.2.1).2 e1, e2⟩, he _ e4⟩
    | free c =>
      rw [hpl] at hv' hl
      obtain ⟨v, ⟨o, e1, e2⟩, e4⟩ := hv'
      exact ⟨v, ⟨o, x.heap _ _ (hC p hp c (.inr hpl)) hl.2.2.1 e1, e2⟩, he _ e4⟩
  alloc := fun a ha => Nat.lt_of_lt_of_le (h.alloc a ha) x.size

theorem FrOK.ext0 {K : Cx} {F : Fm} {s s' : Shared} (h : FrOK K F s) (x : E0 K s s') : FrOK K F s' :=
  h.ext x (fun _ q => q.elim) (fun q => q) (fun _ _ _ _ q => q) (fun _ _ _ _ _ q => q)

theorem Rep.ext0 {K : Cx} {F : Fm} {s s' : Shared} {d : D} {v : Value} (r : Rep F.N s.heap d v) (x : E0 K s s') (h : FmOK K F) : Rep F.N s'.heap d v := r.ext x (fun _ q => q.elim) h.TN
theorem Reps.ext0 {K : Cx} {F : Fm} {s s' : Shared} (x : E0 K s s') (h : FmOK K F) : ∀ {ds : List D} {vs : List Value}, Reps F.N s.heap ds vs → Reps F.N s'.heap ds vs
  | _, _, .nil => .nil
  | _, _, .cons a b => .cons (a.ext0 x h) (Reps.ext0 x h b)

/-- an expression stands for a datum: it ends, changes nothing old, and gives it -/
noncomputable def Ev (K : Cx) (n : Nat) (F : Fm) (e : Expr) (d : D) : Prop :=
  ∀ {A : Around} {s : Shared} {Q : Value → Shared → Prop} {E : Value → Shared → Prop}, Room A n → FrOK K F s → (∀ v s', E0 K s s' → Rep F.N s'.heap d v → Q v s') → wpAny K.M A (eval e F.env) Q E s

/-- a run of values by heart: the last step of a walk -/
theorem E0.intK {K : Cx} {s : Shared} : E0 K s { s with toks := s.toks + 1 } := E0.toks _

section
variable {K : Cx} {n : Nat} {F : Fm}

theorem ev_int {i : Int} {k : Nat} {pos : Pos} : Ev K n F (.Constant (.int i) k pos) (.int i) := fun _ _ h => wpAny_Constant_int (h _ _ (E0.toks _) (.int i _))
theorem ev_none {k : Nat} {pos : Pos} : Ev K n F (.Constant .none k pos) .none := fun _ _ h => wpAny_pure (h _ _ (Ext.refl _) .none)
theorem ev_bool {b : Bool} {k : Nat} {pos : Pos} : Ev K n F (.Constant (.bool b) k pos) (.bool b) := fun _ _ h => wpAny_pure (h _ _ (Ext.refl _) (.bool b))
theorem ev_str {x : Str} {k : Nat} {pos : Pos} : Ev K n F (.Constant (.str x) k pos) (.str x) := fun _ _ h => wpAny_mkText (h _ _ (E0.toks _) (.str x _))

/-- what a name holds -/
theorem load_var {A : Around} {s : Shared} {Q : Value → Shared → Prop} {E : Value → Shared → Prop} {x : Str} {l : Loc} {en : En} (hF : FrOK K F s) (hm : (⟨x, l, en⟩ : Var) ∈ F.ρ) {v : Value}
    (hv : ∀ u, EnOK F.N s.heap en u → u = some v) (h : Q v s) : wpAny K.M A (loadName F.env x) Q E s := by
  obtain ⟨m, hn, hvs⟩ := hF.ns
  have hl := hF.ok.locs _ hm
  have hx := hvs _ hm
  unfold VarOK at hx
  cases l with
  | loc => exact wpAny_loadName_local hF.ok.kind hl hn (hv _ hx) h
  | cell c =>
    obtain ⟨u, e1, e4⟩ := hx
    exact wpAny_loadName_cell hF.ok.kind hl.1 hl.2.1 (hv _ e4 ▸ e1) h
  | free c =>
    obtain ⟨u, e1, e4⟩ := hx
    rcases hl.1 with hk | hk
    · exact wpAny_loadName_cell hF.ok.kind hk hl.2.1 (hv _ e4 ▸ e1) h
    · exact wpAny_loadName_free hF.ok.kind hk hl.2.1 (hv _ e4 ▸ e1) h (hF.ok.tame _ hm).2

theorem var_val {s : Shared} {x : Str} {l : Loc} {d : D} (hF : FrOK K F s) (hm : (⟨x, l, .val d⟩ : Var) ∈ F.ρ) : ∃ v, Rep F.N s.heap d v ∧ ∀ {A : Around} {Q : Value → Shared → Prop} {E : Value → Shared → Prop}, Q v s → wpAny K.M A (loadName F.env x) Q E s := by
  obtain ⟨m, hn, hvs⟩ := hF.ns
  have hl := hF.ok.locs _ hm
  have hx := hvs _ hm
  unfold VarOK at hx
  cases l with
  | loc =>
    obtain ⟨v, e, r⟩ := hx
    exact ⟨v, r, fun h => wpAny_loadName_local hF.ok.kind hl hn e h⟩
  | cell c =>
    obtain ⟨u, e1, v, e, r⟩ := hx
    subst e
    exact ⟨v, r, fun h => wpAny_loadName_cell hF.ok.kind hl.1 hl.2.1 e1 h⟩
  | free c =>
    obtain ⟨u, e1, v, e, r⟩ := hx
    subst e
    refine ⟨v, r, fun h => ?_⟩
    rcases hl.1 with hk | hk
    · exact wpAny_loadName_cell hF.ok.kind hk hl.2.1 e1 h
    · exact wpAny_loadName_free hF.ok.kind hk hl.2.1 e1 h (hF.ok.tame _ hm).2

theorem ev_name {x : Str} {pos : Pos} {l : Loc} {d : D} (hm : (⟨x, l, .val d⟩ : Var) ∈ F.ρ) : Ev K n F (.Name x pos) d := fun _ hF h => by
  obtain ⟨v, r, k⟩ := var_val hF hm
  exact wpAny_Name (k (h _ _ (Ext.refl _) r)) (hF.ok.tame _ hm).1

/-- the value of a binary operation on data -/
noncomputable def BinD (K : Cx) (F : Fm) (op : Operator) (a b d : D) : Prop :=
  ∀ {A : Around} {s : Shared} {Q : Value → Shared → Prop} {E : Value → Shared → Prop} {u v : Value}, A.handled = none → FrOK K F s → Rep F.N s.heap a u → Rep F.N s.heap b v →
    (∀ r s', E0 K s s' → Rep F.N s'.heap d r → Q r s') → wpAny K.M A (binaryOp op u v) Q E s

theorem ev_bin {op : Operator} {l r : Expr} {pos : Pos} {a b d : D} (hl : Ev K n F l a) (hr : Ev K n F r b) (ho : BinD K F op a b d) : Ev K n F (.BinOp l op r pos) d := fun R hF h =>
  wpAny_BinOp (hl R hF fun u s₁ x₁ r₁ => hr R (hF.ext0 x₁) fun v s₂ x₂ r₂ => ho R.hh ((hF.ext0 x₁).ext0 x₂) (r₁.ext0 x₂ hF.ok) r₂ fun w s₃ x₃ r₃ => h w s₃ ((x₁.trans x₂).trans x₃) r₃)

theorem b_add {a b : Int} : BinD K F .Add (.int a) (.int b) (.int (a + b)) := fun _ _ h1 h2 h => by cases h1; cases h2; exact add_int (h _ _ (E0.toks _) (.int _ _))
theorem b_sub {a b : Int} : BinD K F .Sub (.int a) (.int b) (.int (a - b)) := fun _ _ h1 h2 h => by cases h1; cases h2; exact sub_int (h _ _ (E0.toks _) (.int _ _))
theorem b_mul {a b : Int} (hm : IntMulOk a b) : BinD K F .Mult (.int a) (.int b) (.int (a * b)) := fun _ _ h1 h2 h => by cases h1; cases h2; exact mul_int (h _ _ (E0.toks _) (.int _ _)) hm
theorem b_mod {a b : Int} (hb : b ≠ 0) : BinD K F .Mod (.int a) (.int b) (.int (a.fmod b)) := fun hh _ h1 h2 h => by cases h1; cases h2; exact mod_int hb (h _ _ (E0.toks _) (.int _ _))
theorem b_div {a b : Int} (hb : b ≠ 0) (hp : Builtin.divisionGoesByPylong a b = false) : BinD K F .FloorDiv (.int a) (.int b) (.int (a.fdiv b)) := fun hh _ h1 h2 h => by
  cases h1; cases h2; exact AutoIntOps.floordiv_1 (by simpa using hb) (by rw [hp]; simp) (h _ _ (E0.toks _) (.int _ _))
theorem b_shl {a b : Int} (hb : 0 ≤ b) (hz : (Builtin.Int.intBits a : Int) + b ≤ 2 ^ 27) : BinD K F .LShift (.int a) (.int b) (.int (a * 2 ^ b.toNat)) := fun hh _ h1 h2 h => by
  cases h1; cases h2; exact lshift_int hb hz (h _ _ (E0.toks _) (.int _ _))
theorem b_shr {a b : Int} (hb : 0 ≤ b) : BinD K F .RShift (.int a) (.int b) (.int (a.fdiv (2 ^ b.toNat))) := fun hh _ h1 h2 h => by
  cases h1; cases h2; exact rshift_int hb (h _ _ (E0.toks _) (.int _ _))
theorem b_xor {a b : Int} : BinD K F .BitXor (.int a) (.int b) (.int (Builtin.bitXor a b)) := fun hh _ h1 h2 h => by
  cases h1; cases h2; exact xor_int (h _ _ (E0.toks _) (.int _ _))
theorem b_pow2 {b : Int} (hb : 0 < b) (hz : b ≤ 2 ^ 20) : BinD K F .Pow (.int 2) (.int b) (.int (2 ^ b.toNat)) := fun hh _ h1 h2 h => by
  cases h1; cases h2
  refine AutoIntOps.pow_4 (by omega) (by simp; omega) (by decide) (by decide) ?_ (h _ _ (E0.toks _) (.int _ _))
  have e : Builtin.Int.intBits 2 = 2 := by decide +kernel
  rw [e]
  simp [Builtin.Int.intTooBig, bitsLine]
  omega
theorem b_cat {x y : Str} (hz : x.length + y.length ≤ sizeLine) : BinD K F .Add (.str x) (.str y) (.str (x ++ y)) := fun hh _ h1 h2 h => by
  cases h1; cases h2; exact SB.add (fun t k => h _ _ (E0.toks _) (.str _ _)) hz

theorem Rep.new {s : Shared} {ds : List D} {vs : List Value} (hF : FrOK K F s) (r : Reps F.N s.heap ds vs) {tk : Nat} :
    E0 K s { s with heap := s.heap.push { cls := .type "list", data := .seq vs.toArray }, toks := tk } ∧ Rep F.N (s.heap.push { cls := .type "list", data := .seq vs.toArray }) (.list ds) (.ref s.heap.objs.size) := by
  have k : ∀ b o, s.heap.get? b = some o → (s.heap.push { cls := .type "list", data := .seq vs.toArray }).get? b = some o := fun b o e => Heap.get?_push_of_some _ e
  refine ⟨E0.grow k (by rw [Heap.size_push]; omega), .list (fun q => Nat.lt_irrefl _ (hF.alloc _ q)) ⟨0, Heap.get?_push_size _ rfl⟩ ?_⟩
  exact Reps.keep (fun _ _ q => q) (fun b o _ e => k b o e) r
theorem Rep.newTup {s : Shared} {ds : List D} {vs : List Value} (hF : FrOK K F s) (r : Reps F.N s.heap ds vs) {tk : Nat} :
    E0 K s { s with heap := s.heap.push { cls := .type "tuple", data := .seq vs.toArray }, toks := tk } ∧ Rep F.N (s.heap.push { cls := .type "tuple", data := .seq vs.toArray }) (.tup ds) (.ref s.heap.objs.size) := by
  have k : ∀ b o, s.heap.get? b = some o → (s.heap.push { cls := .type "tuple", data := .seq vs.toArray }).get? b = some o := fun b o e => Heap.get?_push_of_some _ e
  refine ⟨E0.grow k (by rw [Heap.size_push]; omega), .tup (fun q => Nat.lt_irrefl _ (hF.alloc _ q)) ⟨_, Heap.get?_push_size _ rfl, rfl, 0, rfl⟩ ?_⟩
  exact Reps.keep (fun _ _ q => q) (fun b o _ e => k b o e) r

theorem b_lists {xs ys : List D} (hz : xs.length + ys.length ≤ sizeLine) : BinD K F .Add (.list xs) (.list ys) (.list (xs ++ ys)) := fun hh hF h1 h2 h => by
  cases h1 with
  | list n1 l1 r1 =>
    cases h2 with
    | list n2 l2 r2 =>
      rename_i s _ _ a1 i1 a2 i2
      obtain ⟨k1, e1⟩ := l1
      obtain ⟨k2, e2⟩ := l2
      have h3 := Rep.new hF (Reps.append r2 r1) (tk := s.toks)
      rw [← Array.toList_append, Array.toArray_toList] at h3
      exact P.add_list e1 e2 (h _ _ h3.1 h3.2) (by rw [← Array.length_toList, ← Array.length_toList, ← r1.length, ← r2.length]; exact hz)

theorem b_times {d : D} {n : Int} (h0 : 0 ≤ n) (hz : n ≤ 2 ^ 20) : BinD K F .Mult (.list [d]) (.int n) (.list (List.replicate n.toNat d)) := fun hh hF h1 h2 h => by
  cases h2 with
  | int _ u =>
  cases h1 with
  | list n1 l1 r1 =>
    rename_i s _ _ a1 i1
    obtain ⟨k1, e1⟩ := l1
    obtain ⟨l⟩ := i1
    match l, r1 with
    | [v], .cons rv .nil =>
      have aux : ∀ k : Nat, Reps F.N s.heap (List.replicate k d) (List.replicate k v) := fun k => by
        induction k with
        | zero => exact .nil
        | succ k ih => rw [List.replicate_succ, List.replicate_succ]; exact .cons rv ih
      have h3 := Rep.new hF (aux n.toNat) (tk := s.toks)
      have fe : (List.foldl (fun x1 x2 => x1 ++ x2) #[] (List.replicate n.toNat (#[v] : Array Value))) = (List.replicate n.toNat v).toArray := by
        have g : ∀ (k : Nat) (acc : Array Value), List.foldl (fun x1 x2 => x1 ++ x2) acc (List.replicate k (#[v] : Array Value)) = acc ++ (List.replicate k v).toArray := by
          intro k
          induction k with
          | zero => intro acc; simp
          | succ k ih => intro acc; rw [List.replicate_succ, List.foldl_cons, ih, List.replicate_succ]; apply Array.ext'; simp
        rw [g]; simp
      refine wpAny_binaryOp_repeat_ref (T := "list") (U := "int") (by decide) ⟨_, e1, rfl⟩ (fun s' => typeIs_int s' n u) noFill_list_mul PySem.F.fills_int_mul PySem.F.slot_int_rmul repeat_list PySem.F.slot_int_index.lookup
        (call_meets PySem.F.slot_int_rmul (typeIs_int s n u) PySem.F.entry_int_rmul (PySem.F.args_int_rmul_2 _ _) (int___rmul___int_list n u a1 #[v] k1)
          ⟨e1, rfl, ⟨_, e1, rfl⟩, call_meets PySem.F.slot_list_mul ⟨_, e1, rfl⟩ PySem.F.entry_list_mul (PySem.F.args_list_mul_2 _ _)
            (AutoListH.list___mul___list_int_3 a1 #[v] k1 n u (by simp [Builtin.List.listFitsIndex]; omega) (by have e9 : (#[v] : Array Value).size * n.toNat = n.toNat := Nat.one_mul _
                                                                                                                first | omega | (simp only [List.size_toArray, List.length_cons, List.length_nil]; omega)) (by show ¬ Builtin.List.listTooLong (1 * n.toNat) = true; rw [Nat.one_mul]; simp [Builtin.List.listTooLong, sizeLine]; omega))
            ⟨e1, ?_⟩⟩)
      have fe2 : (List.foldl (fun x1 x2 => x1 ++ x2) #[] (List.replicate (if (#[v] : Array Value).isEmpty = true then 0 else n.toNat) (#[v] : Array Value))) = (List.replicate n.toNat v).toArray := fe
      rw [fe2]
      exact h _ _ h3.1 h3.2

/-- unary minus, complement -/
theorem ev_neg {e : Expr} {pos : Pos} {a : Int} (h : Ev K n F e (.int a)) : Ev K n F (.UnaryOp .USub e pos) (.int (-a)) := fun R hF hQ =>
  wpAny_UnaryOp (h R hF fun v s₁ x r => by cases r; exact neg_int (hQ _ _ (x.trans (E0.toks _)) (.int _ _)))
theorem ev_inv {e : Expr} {pos : Pos} {a : Int} (h : Ev K n F e (.int a)) : Ev K n F (.UnaryOp .Invert e pos) (.int (-a - 1)) := fun R hF hQ =>
  wpAny_UnaryOp (h R hF fun v s₁ x r => by cases r; exact invert_int (hQ _ _ (x.trans (E0.toks _)) (.int _ _)))

/-- a comparison of data -/
noncomputable def CmpD (K : Cx) (F : Fm) (op : CmpOp) (a b : D) (c : Bool) : Prop :=
  ∀ {A : Around} {s : Shared} {Q : Value → Shared → Prop} {E : Value → Shared → Prop} {u v : Value}, Room A 0 → FrOK K F s → Rep F.N s.heap a u → Rep F.N s.heap b v →
    (∀ s', E0 K s s' → Q (.bool c) s') → wpAny K.M A (compareOp op u v) Q E s

theorem ev_cmp {op : CmpOp} {l r : Expr} {pos : Pos} {a b : D} {c : Bool} (hl : Ev K n F l a) (hr : Ev K n F r b) (ho : CmpD K F op a b c)
    (hm : behindInMarks op r = false := by with_unfolding_all rfl) : Ev K n F (.Compare l [op] [r] pos) (.bool c) := fun R hF h =>
  wpAny_Compare1 (hl R hF fun u s₁ x₁ r₁ => hr R (hF.ext0 x₁) fun v s₂ x₂ r₂ => ho (R.mono (Nat.zero_le _)) ((hF.ext0 x₁).ext0 x₂) (r₁.ext0 x₂ hF.ok) r₂ fun s₃ x₃ => h _ s₃ ((x₁.trans x₂).trans x₃) (.bool _)) hm

theorem c_eq_int {a b : Int} : CmpD K F .Eq (.int a) (.int b) (a == b) := fun _ _ h1 h2 h => by cases h1; cases h2; exact eq_int (h _ (Ext.refl _))
theorem c_ne_int {a b : Int} : CmpD K F .NotEq (.int a) (.int b) (a != b) := fun _ _ h1 h2 h => by cases h1; cases h2; exact ne_int (h _ (Ext.refl _))
theorem c_lt_int {a b : Int} : CmpD K F .Lt (.int a) (.int b) (decide (a < b)) := fun _ _ h1 h2 h => by cases h1; cases h2; exact lt_int (h _ (Ext.refl _))
theorem c_gt_int {a b : Int} : CmpD K F .Gt (.int a) (.int b) (decide (b < a)) := fun _ _ h1 h2 h => by cases h1; cases h2; exact gt_int (h _ (Ext.refl _))
theorem c_le_int {a b : Int} : CmpD K F .LtE (.int a) (.int b) (decide (a ≤ b)) := fun _ _ h1 h2 h => by cases h1; cases h2; exact le_int (h _ (Ext.refl _))
theorem c_eq_str {a b : Str} : CmpD K F .Eq (.str a) (.str b) (a == b) := fun _ _ h1 h2 h => by cases h1; cases h2; exact eq_str (h _ (Ext.refl _))
theorem c_lt_str {a b : Str} : CmpD K F .Lt (.str a) (.str b) (decide (a.cps.toList < b.cps.toList)) := fun _ _ h1 h2 h => by cases h1; cases h2; exact lt_str (h _ (Ext.refl _))
theorem c_in_str {x y : Str} : CmpD K F .In (.str y) (.str x) (Txt.contains x y) := fun _ _ h1 h2 h => by cases h1; cases h2; exact SB.contains (h _ (Ext.refl _))
theorem c_nin_str {x y : Str} : CmpD K F .NotIn (.str y) (.str x) (!Txt.contains x y) := fun _ _ h1 h2 h => by cases h1; cases h2; exact SB.notContains (h _ (Ext.refl _))
theorem c_is_bool {a b : Bool} : CmpD K F .Is (.bool a) (.bool b) (a == b) := fun _ _ h1 h2 h => by
  cases h1; cases h2; exact wpAny_is_plain rfl (by have := h _ (Ext.refl _); cases a <;> cases b <;> exact this)
theorem c_is_none {a : D} {b : Bool} (hb : b = match a with | .none => true | _ => false) : CmpD K F .Is a .none b := fun _ _ h1 h2 h => by
  cases h2; subst hb; exact is_none (by cases h1 <;> exact h _ (Ext.refl _))

end
end

/-! # part F2 -/
section
mutual
noncomputable def D.py : D → PyData
  | .none => .none
  | .bool b => .bool b
  | .int i => .int i
  | .str s => .str s
  | .list ds => .list (D.pys ds)
  | .tup ds => .tuple (D.pys ds)
noncomputable def D.pys : List D → List PyData
  | [] => []
  | d :: ds => d.py :: D.pys ds
end

theorem Rep.reads {N : Addr → Prop} {h : Heap} {d : D} {v : Value} (r : Rep N h d v) : ∃ as, Reads h v d.py as := by
  refine Rep.rec (motive_1 := fun d v _ => ∃ as, Reads h v d.py as) (motive_2 := fun ds vs _ => ∃ as, ReadsAll h vs (D.pys ds) as) ?_ ?_ ?_ ?_ ?_ ?_ ?_ ?_ r
  · exact ⟨_, .none⟩
  · intro b; exact ⟨_, .bool b⟩
  · intro i t; exact ⟨_, .int i t⟩
  · intro x t; exact ⟨_, .str x t⟩
  · intro ds a items _ hl _ ⟨as, ih⟩
    obtain ⟨n, e⟩ := hl
    exact ⟨_, .list e rfl rfl ih⟩
  · intro ds a items _ hl _ ⟨as, ih⟩
    obtain ⟨o, e, hc, n, hd⟩ := hl
    exact ⟨_, .tuple e hc hd ih⟩
  · exact ⟨_, .nil⟩
  · intro d v ds vs _ _ ⟨as, h1⟩ ⟨bs, h2⟩
    exact ⟨_, .cons h1 h2⟩

section
variable {K : Cx} {n : Nat} {F : Fm}

theorem c_eq_any {a b : D} (ha : a.py.canLay0 = true) (hb : b.py.canLay0 = true) (hd : a.py.depth ≤ 50) : CmpD K F .Eq a b (PyData.eqv a.py b.py) := fun R hF h1 h2 h => by
  obtain ⟨as, r1⟩ := h1.reads
  obtain ⟨bs, r2⟩ := h2.reads
  exact SeqAt.compareEq_reads r1 r2 ha hb (by have := R.units; omega) (h _ (Ext.refl _))
theorem c_ne_any {a b : D} (ha : a.py.canLay0 = true) (hb : b.py.canLay0 = true) (hd : a.py.depth ≤ 50) : CmpD K F .NotEq a b (!PyData.eqv a.py b.py) := fun R hF h1 h2 h => by
  obtain ⟨as, r1⟩ := h1.reads
  obtain ⟨bs, r2⟩ := h2.reads
  exact SeqAt.compareNe_reads r1 r2 ha hb (by have := R.units; omega) (h _ (Ext.refl _))

theorem reps_ints {N : Addr → Prop} {h : Heap} : ∀ {ns : List Int} {vs : List Value}, Reps N h (ns.map D.int) vs → ∀ y ∈ vs, ∃ i t, y = .int i t
  | [], _, .nil, y, hy => nomatch hy
  | n :: ns, _, .cons a b, y, hy => by
    cases hy with
    | head => cases a; exact ⟨_, _, rfl⟩
    | tail _ hy => exact reps_ints b y hy

noncomputable def Value.intOf : Value → Int
  | .int i _ => i
  | _ => 0
theorem reps_any {N : Addr → Prop} {h : Heap} (k : Int) : ∀ {ns : List Int} {vs : List Value}, Reps N h (ns.map D.int) vs → (vs.any fun y => Value.intOf y == k) = ns.any (· == k)
  | [], _, .nil => rfl
  | n :: ns, _, .cons a b => by
    cases a
    rw [List.any_cons, List.any_cons, reps_any k b]; rfl

theorem c_nin_ints {k : Int} {ns : List Int} : CmpD K F .NotIn (.int k) (.list (ns.map .int)) (!ns.any (· == k)) := fun R hF h1 h2 h => by
  cases h1
  cases h2 with
  | list n2 l2 r2 =>
    refine SeqAt.notIn_listAt (fun y => Value.intOf y == k) l2.isList (fun y hy => ?_) ?_
    · obtain ⟨i, t, rfl⟩ := reps_ints r2 y (Array.mem_toList_iff.mpr hy)
      exact SeqAt.EqAt.int_int _ _ _ _
    · have e := reps_any k r2
      rw [Array.any_toList] at e
      rw [e]; exact h _ (Ext.refl _)

/-- truth -/
noncomputable def Tr (K : Cx) (n : Nat) (F : Fm) (e : Expr) (c : Bool) : Prop :=
  ∀ {A : Around} {s : Shared} {Q : Bool → Shared → Prop} {E : Value → Shared → Prop}, Room A n → FrOK K F s → (∀ s', E0 K s s' → Q c s') → wpAny K.M A (isTrue e F.env (eval e F.env)) Q E s

theorem tr_cmp {op : CmpOp} {l r : Expr} {pos : Pos} {a b : D} {c : Bool} (hl : Ev K n F l a) (hr : Ev K n F r b) (ho : CmpD K F op a b c)
    (hm : behindInMarks op r = false := by with_unfolding_all rfl) : Tr K n F (.Compare l [op] [r] pos) c := fun R hF h =>
  wpAny_isTrue_Compare1 (hl R hF fun u s₁ x₁ r₁ => hr R (hF.ext0 x₁) fun v s₂ x₂ r₂ => ho (R.mono (Nat.zero_le _)) ((hF.ext0 x₁).ext0 x₂) (r₁.ext0 x₂ hF.ok) r₂ fun s₃ x₃ => by
    show wpAny _ _ (truthy (.bool c)) _ _ _
    exact wpAny_pure (h s₃ ((x₁.trans x₂).trans x₃))) hm

/-- the truth of a datum -/
inductive TrueD : D → Bool → Prop
  | bool (b : Bool) : TrueD (.bool b) b
  | int (i : Int) : TrueD (.int i) (i != 0)
  | none : TrueD .none false
  | list (ds : List D) : ds.length ≤ sizeLine → TrueD (.list ds) (!ds.isEmpty)

theorem tr_plain {e : Expr} {d : D} {c : Bool} (h : Ev K n F e d) (hd : TrueD d c)
    (he : ∀ whole, isTrue e F.env whole = (do let v ← whole; standAt e.pos; holding [v] (truthy v)) := by intro _; rfl) : Tr K n F e c := fun R hF hQ =>
  isTrue_plain (h R hF fun v s₁ x r => by
    cases hd with
    | bool b => cases r; show wpAny _ _ (truthy (.bool _)) _ _ _; exact wpAny_pure (hQ _ x)
    | int i => cases r; exact truthy_int (hQ _ x)
    | none => cases r; exact truthy_none (hQ _ x)
    | list ds hz =>
      cases r with
      | list n1 l1 r1 =>
        rename_i a its
        have hl : its.size = ds.length := by rw [r1.length, Array.length_toList]
        refine wpAny_truthy_list l1.isList (by rw [hl]; rw [sizeLine_eq] at hz; omega) ?_
        have e1 : ds.isEmpty = its.isEmpty := by
          have : its.isEmpty = (its.size == 0) := by unfold Array.isEmpty; rw [Bool.eq_iff_iff]; simp only [decide_eq_true_eq, beq_iff_eq]
          rw [this, hl]; cases ds <;> simp
        rw [e1] at hQ
        simpa using hQ _ (x.trans (E0.toks _))) (he _)

theorem ev_ite {t a b : Expr} {pos : Pos} {c : Bool} {d : D} (ht : Tr K n F t c) (ha : c = true → Ev K n F a d) (hb : c = false → Ev K n F b d) : Ev K n F (.IfExp t a b pos) d := fun R hF h =>
  wpAny_IfExp (ht R hF fun s₁ x₁ => by
    cases c with
    | true => exact ha rfl R (hF.ext0 x₁) fun v s₂ x₂ r => h v s₂ (x₁.trans x₂) r
    | false => exact hb rfl R (hF.ext0 x₁) fun v s₂ x₂ r => h v s₂ (x₁.trans x₂) r)

/-- several expressions, from left to right -/
inductive Evs (K : Cx) (n : Nat) (F : Fm) : List Expr → List D → Prop
  | nil : Evs K n F [] []
  | cons {e : Expr} {es : List Expr} {d : D} {ds : List D} : Ev K n F e d → Evs K n F es ds → (∀ env, starEach (e :: es) env = (false, eval e env) :: starEach es env) → Evs K n F (e :: es) (d :: ds)

theorem Evs.run {es : List Expr} {ds : List D} (h : Evs K n F es ds) : ∀ {A : Around} {s : Shared} {pos : Pos} {Q : List Value → Shared → Prop} {E : Value → Shared → Prop}, Room A n → FrOK K F s →
    (∀ vs s', E0 K s s' → Reps F.N s'.heap ds vs → Q vs s') → wpAny K.M A (spliced (backTo pos (starEach es F.env))) Q E s := by
  induction h with
  | nil => intro A s pos Q E R hF hQ; exact args_nil (hQ _ _ (Ext.refl _) .nil)
  | cons h1 _ he ih =>
    intro A s pos Q E R hF hQ
    exact args_cons (h1 R hF fun v s₁ x₁ r₁ => ih R (hF.ext0 x₁) fun vs s₂ x₂ r₂ => hQ _ _ (x₁.trans x₂) (.cons (r₁.ext0 x₂ hF.ok) r₂)) (he _)

theorem Evs.length {es : List Expr} {ds : List D} (h : Evs K n F es ds) : ds.length = es.length := by
  induction h with
  | nil => rfl
  | cons _ _ _ ih => rw [List.length_cons, List.length_cons, ih]

theorem ev_list {es : List Expr} {ds : List D} {pos : Pos} (h : Evs K n F es ds) (hz : es.length ≤ 1000 := by decide) : Ev K n F (.List es pos) (.list ds) := fun R hF hQ =>
  wpAny_List (h.run R hF fun vs s₁ x r => ⟨by rw [← r.length, h.length, sizeLine_eq]; omega, by
    have h3 := Rep.new (hF.ext0 x) r (tk := s₁.toks)
    exact hQ _ _ (x.trans h3.1) h3.2⟩)
theorem ev_tup {es : List Expr} {ds : List D} {k : Nat} {pos : Pos} (h : Evs K n F es ds) (hz : es.length ≤ 1000 := by decide) : Ev K n F (.Tuple es k pos) (.tup ds) := fun R hF hQ =>
  wpAny_Tuple (h.run R hF fun vs s₁ x r => ⟨by rw [← r.length, h.length, sizeLine_eq]; omega, by
    have h3 := Rep.newTup (hF.ext0 x) r (tk := s₁.toks)
    exact hQ _ _ (x.trans h3.1) h3.2⟩)

/-- an item -/
theorem ev_item {v i : Expr} {pos : Pos} {ds : List D} {k : Int} {d : D} (hv : Ev K n F v (.list ds)) (hi : Ev K n F i (.int k)) (h0 : 0 ≤ k) (hx : ds[k.toNat]? = some d) (hz : k < 2 ^ 63)
    (hs : ∀ (a : Addr) u, subscripted i false (.ref a) (.int k u) = operate [.ref a, .int k u] (getItem (.ref a) (.int k u)) := by intro _ _; with_unfolding_all rfl) : Ev K n F (.Subscript v i pos) d := fun R hF h =>
  Subscript_ (hv R hF fun u s₁ x₁ r₁ => hi R (hF.ext0 x₁) fun w s₂ x₂ r₂ => by
    have r₁' := r₁.ext0 x₂ hF.ok
    cases r₂ with
    | int _ t =>
    cases r₁' with
    | list n1 l1 r1 =>
      obtain ⟨y, hy, ry⟩ := r1.get hx
      refine tail_any l1.isList.typeIs slot_list_getitem.lookup (wpAny_getItem_list l1.isList h0 hz (by rw [← Array.getElem?_toList]; exact hy) ?_) (hs _ _)
      exact h _ _ (x₁.trans x₂) ry)

theorem ev_char {v i : Expr} {pos : Pos} {x : Str} {k : Int} {c : Nat} (hv : Ev K n F v (.str x)) (hi : Ev K n F i (.int k)) (h0 : 0 ≤ k) (hx : x.cps[k.toNat]? = some c) (hz : k < 2 ^ 63)
    (hs : ∀ t u, subscripted i false (.str x t) (.int k u) = operate [.str x t, .int k u] (getItem (.str x t) (.int k u)) := by intro _ _; with_unfolding_all rfl) : Ev K n F (.Subscript v i pos) (.str ⟨#[c]⟩) := fun R hF h =>
  Subscript_ (hv R hF fun u s₁ x₁ r₁ => hi R (hF.ext0 x₁) fun w s₂ x₂ r₂ => by
    cases r₂ with
    | int _ t =>
    cases r₁ with
    | str _ t' =>
      have hlt : k.toNat < x.cps.size := (Array.getElem?_eq_some_iff.mp hx).1
      have hc : Txt.charAt x k = some c := by
        have e : seqIndex? k x.length = some k.toNat := by
          have hl : x.length = x.cps.size := rfl
          unfold seqIndex?
          simp only [hl]
          first
            | (rw [if_neg (by omega), if_pos (by omega)])
            | (simp; omega)
        simp [Txt.charAt, e, hx]
      refine tail_any (T := "str") rfl slot_str_getitem.lookup (SB.getItem (by unfold fitsSsize; simp; omega) (by rw [hc]; rfl) (h _ _ ((x₁.trans x₂).trans (E0.toks _)) ?_)) (hs _ _)
      have e2 : Txt.item x k = ⟨#[c]⟩ := by simp [Txt.item, hc]
      rw [e2]; exact .str _ _)
end
end

/-! # part F3 -/
section
section
variable {K : Cx} {n : Nat} {F : Fm}

inductive PartD (K : Cx) (n : Nat) (F : Fm) : Option Expr → Option Int → Prop
  | none : PartD K n F none none
  | int {e : Expr} {i : Int} : Ev K n F e (.int i) → PartD K n F (some e) (some i)

theorem PartD.run {x : Option Expr} {i : Option Int} (h : PartD K n F x i) {A : Around} {s : Shared} {Q : Value → Shared → Prop} {E : Value → Shared → Prop} (R : Room A n) (hF : FrOK K F s)
    (hQ : ∀ v s', E0 K s s' → IsPart v i → Q v s') : wpAny K.M A (evalPart x F.env) Q E s := by
  cases h with
  | none => exact wpAny_pure (hQ _ _ (Ext.refl _) .none)
  | int h => exact h R hF fun v s' x r => by cases r; exact hQ _ _ x (.int _ _)

noncomputable def pickD (ds : List D) (lo hi st : Option Int) : List D :=
  (sliceRange (sliceBounds lo hi st ds.length).1 (sliceBounds lo hi st ds.length).2.1 (sliceBounds lo hi st ds.length).2.2).filterMap (ds[·]?)

theorem Reps.places {N : Addr → Prop} {h : Heap} {ds : List D} {vs : List Value} (r : Reps N h ds vs) : ∀ js : List Nat, Reps N h (js.filterMap (ds[·]?)) (js.filterMap (vs[·]?))
  | [] => .nil
  | j :: js => by
    have ih := Reps.places r js
    cases hd : ds[j]? with
    | some d =>
      obtain ⟨v, hv, rv⟩ := r.get hd
      simp only [List.filterMap_cons, hd, hv]
      exact .cons rv ih
    | none =>
      have hv : vs[j]? = none := by
        rw [List.getElem?_eq_none_iff] at hd ⊢
        rw [← r.length]; exact hd
      simp only [List.filterMap_cons, hd, hv]
      exact ih

theorem ev_slice {v : Expr} {lo hi st : Option Expr} {p pos : Pos} {ds : List D} {l h s9 : Option Int} (hv : Ev K n F v (.list ds)) (hl : PartD K n F lo l) (hh : PartD K n F hi h) (hs : PartD K n F st s9)
    (h0 : s9 ≠ some 0) (hz : ds.length ≤ sizeLine) : Ev K n F (.Subscript v (.Slice lo hi st p) pos) (.list (pickD ds l h s9)) := fun R hF hQ =>
  Subscript_ (hv R hF fun u s₁ x₁ r₁ => wpAny_Slice (hl.run R (hF.ext0 x₁) fun vl s₂ x₂ pl => hh.run R ((hF.ext0 x₁).ext0 x₂) fun vh s₃ x₃ ph => hs.run R (((hF.ext0 x₁).ext0 x₂).ext0 x₃) fun vs s₄ x₄ ps => by
    have x24 := (x₂.trans x₃).trans x₄
    have F4 := (hF.ext0 x₁).ext0 x24
    have r4 := r₁.ext0 x24 hF.ok
    cases r4 with
    | list n1 l1 r1 =>
      rename_i a its
      have hz' : its.size ≤ sizeLine := by rw [← Array.length_toList, ← r1.length]; exact hz
      have k1 : ∀ b o, s₄.heap.get? b = some o → (s₄.heap.push { cls := .type "slice", data := .fields #[vl, vh, vs] }).get? b = some o := fun b o e => Heap.get?_push_of_some _ e
      have x5 : E0 K s₄ { s₄ with heap := s₄.heap.push { cls := .type "slice", data := .fields #[vl, vh, vs] } } := E0.grow k1 (by rw [Heap.size_push]; omega)
      have F5 := F4.ext0 x5
      have ra : Reps F.N (s₄.heap.push { cls := .type "slice", data := .fields #[vl, vh, vs] }) ds its.toList := Reps.keep (fun _ _ q => q) (fun b o _ e => k1 b o e) r1
      have rb := Rep.new F5 (Reps.places ra (sliceRange (sliceBounds l h s9 ds.length).1 (sliceBounds l h s9 ds.length).2.1 (sliceBounds l h s9 ds.length).2.2)) (tk := s₄.toks)
      have hs' : ∃ ops, subscripted (.Slice lo hi st p) false (.ref a) (.ref s₄.heap.objs.size) = operate ops (getItem (.ref a) (.ref s₄.heap.objs.size)) := by
        cases st with
        | none => exact ⟨_, rfl⟩
        | some e => exact ⟨_, rfl⟩
      obtain ⟨ops, hs'⟩ := hs'
      refine tail_any (Heap.IsList.typeIs (s := { s₄ with heap := s₄.heap.push { cls := .type "slice", data := .fields #[vl, vh, vs] } }) (l1.isList.push _)) list_getitem_lookup
        (wpAny_getItem_list_slice (l1.isList.push _) (Heap.IsSliceOf.new ..) pl ph ps h0 ?_ hz') hs'
      have hlen : its.size = ds.length := by rw [← Array.length_toList, ← r1.length]
      have e : slicePick its l h s9 = ((sliceRange (sliceBounds l h s9 ds.length).1 (sliceBounds l h s9 ds.length).2.1 (sliceBounds l h s9 ds.length).2.2).filterMap (its.toList[·]?)).toArray := by
        unfold slicePick; rw [hlen]; simp
      rw [e]
      exact hQ _ _ (((x₁.trans x24).trans x5).trans rb.1) rb.2))

theorem part_tok {v : Value} {i : Option Int} (p : IsPart v i) : ∃ j : Option (Int × Tok), i = j.map (·.1) ∧ v = (match j with | some (k, t) => .int k t | none => .none) := by
  cases p with
  | none => exact ⟨none, rfl, rfl⟩
  | int i t => exact ⟨some (i, t), rfl, rfl⟩

theorem ev_cut {v : Expr} {lo hi : Option Expr} {p pos : Pos} {x : Str} {l h : Option Int} (hv : Ev K n F v (.str x)) (hl : PartD K n F lo l) (hh : PartD K n F hi h) (hz : x.length ≤ sizeLine) :
    Ev K n F (.Subscript v (.Slice lo hi none p) pos) (.str (Txt.slice x l h)) := by
  intro A s Q E R hF hQ
  refine Subscript_ (hv R hF fun u s₁ x₁ r₁ => wpAny_Slice (hl.run R (hF.ext0 x₁) fun vl s₂ x₂ pl => hh.run R ((hF.ext0 x₁).ext0 x₂) fun vh s₃ x₃ ph => wpAny_pure ?_))
  have x23 := x₂.trans x₃
  cases r₁ with
  | str _ t =>
  have fin : ∀ t' k h', (∀ b o, s₃.heap.get? b = some o → h'.get? b = some o) ∧ s₃.heap.objs.size ≤ h'.objs.size → Q (.str (Txt.slice x l h) t') { s₃ with heap := h', toks := k } := fun t' k h' kk =>
    hQ _ _ ((x₁.trans x23).trans (E0.grow kk.1 kk.2)) (.str _ _)
  have kp : KeptH (fun h' => (∀ b o, s₃.heap.get? b = some o → h'.get? b = some o) ∧ s₃.heap.objs.size ≤ h'.objs.size) := fun h' ob kk => ⟨fun b o e => Heap.get?_push_of_some _ (kk.1 b o e), by rw [Heap.size_push]; omega⟩
  have k0 : (∀ b o, s₃.heap.get? b = some o → s₃.heap.get? b = some o) ∧ s₃.heap.objs.size ≤ s₃.heap.objs.size := ⟨fun _ _ e => e, Nat.le_refl _⟩
  have done : ItemOn K.M A E (.str x t) (.ref s₃.heap.objs.size) Q { s₃ with heap := s₃.heap.push { cls := .type "slice", data := .fields #[vl, vh, .none] } } → wpAny K.M A (subscriptTail v (.Slice lo hi none p) (.str x t) (.ref s₃.heap.objs.size)) Q E { s₃ with heap := s₃.heap.push { cls := .type "slice", data := .fields #[vl, vh, .none] } } := fun ⟨T, id, a1, a2, a3⟩ => tail_any a2 a1 a3 rfl
  refine done ?_
  cases pl with
  | none =>
    cases ph with
    | none => exact SBH.sliceItem_nn kp k0 (fun h' t' k a => fin t' k h' a) hz
    | int j uj => exact SBH.sliceItem_ns kp k0 (fun h' t' k a => fin t' k h' a) hz
  | int i ui =>
    cases ph with
    | none => exact SBH.sliceItem_sn kp k0 (fun h' t' k a => fin t' k h' a) hz
    | int j uj => exact SBH.sliceItem_ss kp k0 (fun h' t' k a => fin t' k h' a) hz
end
end

/-! # part F4 -/
section
section
variable {K : Cx} {n : Nat} {F : Fm}

theorem load_gl {A : Around} {s : Shared} {Q : Value → Shared → Prop} {E : Value → Shared → Prop} {x : Str} {pos : Pos} {v : Value} (hF : FrOK K F s) (hm : x ∈ F.gl) (hg : K.Gl x v) (h : Q v s) :
    wpAny K.M A (eval (.Name x pos) F.env) Q E s := by
  have e1 : s.heap.Ns F.env.globals K.mg := by rw [hF.ok.glob]; exact K.hg.keeps hF.inv.keep
  have e2 : s.heap.Ns F.env.builtins K.mb := by rw [hF.ok.blt]; exact K.hb.keeps hF.inv.keep
  obtain ⟨k1, k2⟩ := hF.ok.gls x hm
  refine Calls.Name_function_global hF.ok.kind k1 ?_ k2
  rcases hg with hg | ⟨hg, hb⟩
  · exact Calls.loadGlobal_global e1 hg h
  · exact Calls.loadGlobal_builtin e1 hg e2 hb h

theorem star_any {es : List Expr} {ds : List D} {env : Env} {pos : Pos} (h : Evs K n F es ds) : (backTo pos (starEach es env)).any (·.1) = false := by
  induction h with
  | nil => rfl
  | cons _ _ he ih =>
    rw [he]
    show (false || (backTo pos (starEach _ env)).any (·.1)) = false
    rw [ih]; rfl

theorem evalArgs_run {f : Value} {es : List Expr} {ds : List D} {A : Around} {s : Shared} {pos : Pos} {Q : Args → Shared → Prop} {E : Value → Shared → Prop} (h : Evs K n F es ds) (R : Room A n) (hF : FrOK K F s)
    (hQ : ∀ vs s', E0 K s s' → Reps F.N s'.heap ds vs → Q ⟨vs, []⟩ s') : wpAny K.M A (evalArgs f true (backTo pos (starEach es F.env)) []) Q E s := by
  cases h with
  | nil => exact PyProof.Rows.evalArgs_none (hQ _ _ (Ext.refl _) .nil)
  | cons h1 h2 he =>
    have hh := (Evs.cons h1 h2 he).run (pos := pos) (E := E) R hF (Q := fun vs s' => Q ⟨vs, []⟩ s') hQ
    rw [he] at hh ⊢
    exact Calls.evalArgs_plain hh

/-- what a call of a value gives for data -/
noncomputable def CallD (K : Cx) (n : Nat) (F : Fm) (f : Value) (ds : List D) (d : D) : Prop :=
  ∀ {A : Around} {s : Shared} {Q : Value → Shared → Prop} {E : Value → Shared → Prop} {vs : List Value}, Room A n → FrOK K F s → Reps F.N s.heap ds vs → (∀ v s', E0 K s s' → Rep F.N s'.heap d v → Q v s') →
    wpAny K.M A (call f vs) Q E s

theorem ev_call_b {x : Str} {p pos : Pos} {es : List Expr} {ds : List D} {d : D} {id : String} (hm : x ∈ F.gl) (hg : K.Gl x (.builtin id)) (ha : Evs K n F es ds) (hc : CallD K n F (.builtin id) ds d) :
    Ev K n F (.Call (.Name x p) es [] pos) d := fun R hF hQ =>
  Call_ (load_gl hF hm hg (Calls.callWith_builtin (star_any ha) (evalArgs_run ha R hF fun vs s₁ x₁ r₁ => hc R (hF.ext0 x₁) r₁ fun v s₂ x₂ r₂ => hQ v s₂ (x₁.trans x₂) r₂)))

theorem cd_len_list {ds : List D} (hz : ds.length ≤ sizeLine) : CallD K n F (.builtin "len") [.list ds] (.int ds.length) := fun R hF hr hQ => by
  cases hr with
  | cons h1 h2 =>
  cases h2
  cases h1 with
  | list n1 l1 r1 =>
    rename_i a its
    have e : its.size = ds.length := by rw [r1.length, Array.length_toList]
    rw [← e] at hQ hz
    rw [sizeLine_eq] at hz
    exact len_list l1.isList (by omega) (hQ _ _ (E0.toks _) (.int _ _))
theorem cd_len_str {x : Str} (hz : x.length ≤ sizeLine) : CallD K n F (.builtin "len") [.str x] (.int x.length) := fun R hF hr hQ => by
  cases hr with
  | cons h1 h2 =>
  cases h2
  cases h1
  rw [sizeLine_eq] at hz
  exact len_str (by omega) (hQ _ _ (E0.toks _) (.int _ _))

theorem preSum_list (xs : Array (Int × Tok)) : preSum (numAt xs) xs.size = (xs.toList.map (·.1)).sum := by
  rw [preSum_eq, List.take_of_length_le (by simp)]

theorem cd_sum {ns : List Int} : CallD K n F (.builtin "sum") [.list (ns.map .int)] (.int ns.sum) := by
  intro A s Q E vs R hF hr hQ
  cases hr with
  | cons h1 h2 =>
  cases h2
  cases h1 with
  | list n1 l1 r1 =>
    rename_i a its
    have hall : AllInts its := fun v hv => by
      obtain ⟨i, t, e⟩ := reps_ints r1 v (Array.mem_toList_iff.mpr hv)
      exact ⟨i, t, e⟩
    obtain ⟨xs, rfl⟩ := hall.items
    have hn : (xs.toList.map (·.1)) = ns := by
      have e : (intItems xs).toList = xs.toList.map fun p => Value.int p.1 p.2 := by simp [intItems]
      rw [e] at r1
      clear hQ hall l1 n1 e
      generalize xs.toList = ys at r1
      induction ns generalizing ys with
      | nil => cases ys with
        | nil => rfl
        | cons y ys => cases r1
      | cons k ns ih =>
        cases ys with
        | nil => cases r1
        | cons y ys =>
          cases r1 with
          | cons q1 q2 =>
            cases q1
            rw [List.map_cons, ih _ q2]
    refine wpAny_gr (sum_intListG R.hh l1.isList fun h' tk t' k g => ?_)
    rw [preSum_list, hn]
    exact hQ _ _ (E0.grow k g.1) (.int _ _)

theorem cd_divmod {a b : Int} (hb : b ≠ 0) (hp : Builtin.divisionGoesByPylong a b = false) : CallD K n F (.builtin "divmod") [.int a, .int b] (.tup [.int (a.fdiv b), .int (a.fmod b)]) := by
  intro A s Q E vs R hF hr hQ
  cases hr with
  | cons h1 h2 =>
  cases h2 with
  | cons h2 h3 =>
  cases h3
  cases h1; cases h2
  have h3 := Rep.newTup hF (ds := [.int (a.fdiv b), .int (a.fmod b)]) (.cons (.int _ s.toks) (.cons (.int _ (s.toks + 1)) .nil)) (tk := s.toks + 1 + 1)
  exact divmod_int hb (hQ _ _ h3.1 h3.2) (.inl hp)

/-! methods -/
theorem attr_plain {o : Expr} {name : Str} {env : Env} {t : Sem Value} (h : ∀ f as ks p, o ≠ .Call f as ks p) : attributeBase o name env t = t := by
  unfold attributeBase
  cases o <;> first | rfl | exact (h _ _ _ _ rfl).elim

theorem ev_count {o e : Expr} {apos pos : Pos} {x y : Str} (ho : Ev K n F o (.str x)) (he : Ev K n F e (.str y)) (hbase : attributeBase o "count" F.env (eval o F.env) = eval o F.env := by rfl)
    (hs : starEach [e] F.env = [(false, eval e F.env)] := by rfl) (hline : (apos.endLine == pos.line) = true := by rfl) : Ev K n F (.Call (.Attribute o "count" apos) [e] [] pos) (.int (Txt.count x y)) := fun R hF hQ =>
  Call_method1 hbase hs hline (ho R hF fun v s₁ x₁ r₁ => by
    cases r₁
    exact SB.count (he R (hF.ext0 x₁) fun u s₂ x₂ r₂ => by cases r₂; exact ⟨_, _, rfl, hQ _ _ ((x₁.trans x₂).trans (E0.toks _)) (.int _ _)⟩))

theorem reps_strs {N : Addr → Prop} {h : Heap} : ∀ {xs : List Str} {vs : List Value}, Reps N h (xs.map D.str) vs → ∃ l : List (Str × Tok), vs = strValues l ∧ l.map (·.1) = xs
  | [], _, .nil => ⟨[], rfl, rfl⟩
  | x :: xs, _, .cons a b => by
    cases a
    rename_i t
    obtain ⟨l, rfl, hl⟩ := reps_strs b
    exact ⟨(x, t) :: l, rfl, by rw [List.map_cons, hl]⟩

theorem ev_join {o e : Expr} {apos pos : Pos} {x : Str} {xs : List Str} (ho : Ev K n F o (.str x)) (he : Ev K n F e (.list (xs.map .str))) (hok : JoinOk x xs = true)
    (hbase : attributeBase o "join" F.env (eval o F.env) = eval o F.env := by rfl)
    (hs : starEach [e] F.env = [(false, eval e F.env)] := by rfl) (hline : (apos.endLine == pos.line) = true := by rfl) : Ev K n F (.Call (.Attribute o "join" apos) [e] [] pos) (.str (Txt.join x xs)) := fun R hF hQ =>
  Call_method1 hbase hs hline (ho R hF fun v s₁ x₁ r₁ => by
    cases r₁
    exact SB.join (he R (hF.ext0 x₁) fun u s₂ x₂ r₂ => by
      cases r₂ with
      | list n1 l1 r1 =>
        rename_i a its
        obtain ⟨l, e1, e2⟩ := reps_strs r1
        refine ⟨a, l, rfl, ?_, xs, e2, hok, fun t' k => hQ _ _ ((x₁.trans x₂).trans (E0.toks _)) (.str _ _)⟩
        rw [← e1, Array.toArray_toList]; exact l1.isList))

theorem ev_bits {o : Expr} {apos pos : Pos} {a : Int} (ho : Ev K n F o (.int a)) (hbase : attributeBase o "bit_length" F.env (eval o F.env) = eval o F.env := by rfl)
    (hline : (apos.endLine == pos.line) = true := by rfl) : Ev K n F (.Call (.Attribute o "bit_length" apos) [] [] pos) (.int (Builtin.Int.intBits a)) := fun R hF hQ =>
  Call_method0 hbase hline (ho R hF fun v s₁ x₁ r₁ => by
    cases r₁
    exact ⟨"int", "int.bit_length", PySem.F.plainAttrs_int, slot_int_bit_length, type_int_bit_length, typeIs_int _ _ _, (fun _ e => nomatch e), callWith_method0 (env := F.env) (call_int_bit_length (hQ _ _ (x₁.trans (E0.toks _)) (.int _ _)))⟩)
end
end

/-! # part F5 -/
section
inductive Upd (x : Str) (en : En) : List Var → List Var → Prop
  | here {l : Loc} {e0 : En} {ρ : List Var} : (∀ c, l ≠ .free c) → Upd x en (⟨x, l, e0⟩ :: ρ) (⟨x, l, en⟩ :: ρ)
  | there {p : Var} {ρ ρ' : List Var} : Upd x en ρ ρ' → Upd x en (p :: ρ) (p :: ρ')

theorem Upd.names {x : Str} {en : En} {ρ ρ' : List Var} (u : Upd x en ρ ρ') : ρ'.map Var.x = ρ.map Var.x := by
  induction u with
  | here _ => rfl
  | there _ ih => rw [List.map_cons, List.map_cons, ih]
theorem Upd.spec {x : Str} {en : En} {ρ ρ' : List Var} (u : Upd x en ρ ρ') : ∃ l e0, (⟨x, l, e0⟩ : Var) ∈ ρ ∧ (⟨x, l, en⟩ : Var) ∈ ρ' ∧ (∀ c, l ≠ .free c) ∧ (∀ q ∈ ρ', q = ⟨x, l, en⟩ ∨ q ∈ ρ) := by
  induction u with
  | here hl => exact ⟨_, _, .head _, .head _, hl, fun q hq => (List.mem_cons.mp hq).imp id fun h => .tail _ h⟩
  | there _ ih =>
    obtain ⟨l, e0, h1, h2, h3, h4⟩ := ih
    refine ⟨l, e0, .tail _ h1, .tail _ h2, h3, fun q hq => ?_⟩
    rcases List.mem_cons.mp hq with rfl | hq
    · exact .inr (.head _)
    · exact (h4 q hq).imp id fun h => .tail _ h
theorem Upd.back {x : Str} {en : En} {ρ ρ' : List Var} (u : Upd x en ρ ρ') : ∀ q ∈ ρ', ∃ p ∈ ρ, p.x = q.x ∧ p.loc = q.loc := by
  obtain ⟨l, e0, h1, h2, h3, h4⟩ := u.spec
  intro q hq
  rcases h4 q hq with rfl | h
  · exact ⟨_, h1, rfl, rfl⟩
  · exact ⟨q, h, rfl, rfl⟩

theorem nodup_inj {ρ : List Var} (h : (ρ.map Var.x).Nodup) : ∀ {p q : Var}, p ∈ ρ → q ∈ ρ → p.x = q.x → p = q := by
  induction ρ with
  | nil => intro p q hp; cases hp
  | cons r ρ ih =>
    intro p q hp hq e
    rw [List.map_cons, List.nodup_cons] at h
    rcases List.mem_cons.mp hp with h1 | h1 <;> rcases List.mem_cons.mp hq with h2 | h2
    · rw [h1, h2]
    · exact absurd (by rw [← h1, e]; exact List.mem_map_of_mem h2) h.1
    · exact absurd (by rw [← h2, ← e]; exact List.mem_map_of_mem h1) h.1
    · exact ih h.2 h1 h2 e

theorem FmOK.upd {K : Cx} {F : Fm} {x : Str} {en : En} {ρ' : List Var} (h : FmOK K F) (u : Upd x en F.ρ ρ') (hno : ∀ a ds, en ≠ .own a ds) : FmOK K { F with ρ := ρ' } where
  kind := h.kind
  glob := h.glob
  blt := h.blt
  names := by show (ρ'.map Var.x).Nodup; rw [u.names]; exact h.names
  locs := fun q hq => by
    obtain ⟨p, hp, e1, e2⟩ := u.back q hq
    have := h.locs p hp
    rw [e1, e2] at this
    exact this
  gls := h.gls
  tame := fun q hq => by
    obtain ⟨p, hp, e1, e2⟩ := u.back q hq
    rw [← e1]; exact h.tame p hp
  apart := fun q hq q' hq' c e1 e2 => by
    obtain ⟨p, hp, a1, a2⟩ := u.back q hq
    obtain ⟨p', hp', b1, b2⟩ := u.back q' hq'
    rw [← a1, ← b1]
    exact h.apart p hp p' hp' c (a2 ▸ e1) (b2 ▸ e2)
  modL := h.modL
  WN := h.WN
  TN := h.TN
  NoN := h.NoN
  base := h.base
  owns := fun p hp a ds e => by
    obtain ⟨l, e0, h1, h2, h3, h4⟩ := u.spec
    rcases h4 p hp with rfl | hp
    · exact (hno a ds e).elim
    · obtain ⟨o1, o2⟩ := h.owns p hp a ds e
      refine ⟨o1, fun q hq ds' e' => ?_⟩
      rcases h4 q hq with rfl | hq
      · exact (hno a ds' e').elim
      · exact o2 q hq ds' e'

section
variable {K : Cx} {n : Nat} {F : Fm}

theorem plain_ne_ns {h : Heap} {a L : Addr} {its : Array Value} {m : Str → Option Value} (x : h.PlainList a its) (y : h.Ns L m) : a ≠ L := by
  rintro rfl
  obtain ⟨n, e⟩ := x
  obtain ⟨o, es, ep, e', hd, _⟩ := y
  rw [e] at e'; cases e'; cases hd
theorem plain_ne_cell {h : Heap} {a c : Addr} {its : Array Value} {v : Option Value} (x : h.PlainList a its) (y : h.IsCell c v) : a ≠ c := by
  rintro rfl
  obtain ⟨n, e⟩ := x
  obtain ⟨o, e', hd⟩ := y
  rw [e] at e'; cases e'; cases hd

/-- a name is bound anew -/
theorem store_varZ {A : Around} {s : Shared} {Q : Unit → Shared → Prop} {E : Value → Shared → Prop} {x : Str} {en : En} {v : Value} {ρ' : List Var} (hF : FrOK K F s) (u : Upd x en F.ρ ρ') (hno : ∀ a ds, en ≠ .own a ds)
    (hv : ∀ (s' : Shared), Ext K F.W no s s' → EnOK F.N s'.heap en (some v)) (h : ∀ s', Ext K F.W no s s' → s'.heap.objs.size = s.heap.objs.size → FrOK K { F with ρ := ρ' } s' → Q () s') : wpAny K.M A (storeName F.env x v) Q E s := by
  obtain ⟨l, e0, h1, h2, h3, h4⟩ := u.spec
  obtain ⟨m, hn, hvs⟩ := hF.ns
  have ok' := hF.ok.upd u hno
  have hl := hF.ok.locs _ h1
  have other : ∀ q ∈ ρ', q ≠ ⟨x, l, en⟩ → q ∈ F.ρ ∧ q.x ≠ x := fun q hq hne => by
    refine ⟨(h4 q hq).resolve_left hne, fun e => hne (nodup_inj (ρ := ρ') ok'.names hq h2 e)⟩
  cases l with
  | free c => exact (h3 c rfl).elim
  | loc =>
    refine wpAny_storeName_local hl hn (fun h' hn' hs' => ?_) (by rw [hF.ok.kind]; rfl)
    obtain ⟨oL, es, ep, heL, hdL, _⟩ := id hn
    have X : Ext K (· = F.env.locals) no s { s with heap := h', toks := s.toks + 1 } := Ext.at1 heL (ns_d (fun vs e => by rw [hdL] at e; cases e) (fun vs e => by rw [hdL] at e; cases e)) rfl (hF.ok.base _ hF.ok.modL).1 (hF.ok.base _ hF.ok.modL).2 hs'
    have X' : Ext K F.W no s { s with heap := h', toks := s.toks + 1 } := X.mono (fun a _ e => e ▸ hF.ok.modL) (fun _ _ q => q)
    refine h _ X' hs'.1 ⟨ok', X.inv hF.inv, ⟨_, hn', fun q hq => ?_⟩, fun a ha => Nat.lt_of_lt_of_le (hF.alloc a ha) X.size⟩
    by_cases hq0 : q = ⟨x, .loc, en⟩
    · subst hq0
      show EnOK F.N h' en (if x = x then some v else m x)
      rw [if_pos rfl]; exact hv _ X'
    · obtain ⟨hq1, hq2⟩ := other q hq hq0
      have hx := hvs q hq1
      have keepE : ∀ w, EnOK F.N s.heap q.en w → EnOK F.N h' q.en w := fun w hw => hw.ext X (fun a e => e ▸ hF.ok.WN _ hF.ok.modL) hF.ok.TN fun a ds e => ⟨fun e2 => by
        rw [e] at hw
        obtain ⟨_, _, its, hp, _⟩ := hw
        exact plain_ne_ns hp hn e2, (hF.ok.base _ (hF.ok.owns q hq1 a ds e).1).2⟩
      have hlq := hF.ok.locs q hq1
      unfold VarOK at hx ⊢
      cases hql : q.loc with
      | loc =>
        rw [hql] at hx
        show EnOK F.N h' q.en (if q.x = x then some v else m q.x)
        rw [if_neg hq2]; exact keepE _ hx
      | cell c =>
        rw [hql] at hx hlq
        obtain ⟨w, ⟨o, e1, e2⟩, e4⟩ := hx
        exact ⟨w, ⟨o, hs'.extBut c o hlq.2.2.2 e1, e2⟩, keepE _ e4⟩
      | free c =>
        rw [hql] at hx hlq
        obtain ⟨w, ⟨o, e1, e2⟩, e4⟩ := hx
        exact ⟨w, ⟨o, hs'.extBut c o hlq.2.2.2 e1, e2⟩, keepE _ e4⟩
  | cell c =>
    have hx0 := hvs _ h1
    obtain ⟨w0, hc0, _⟩ := hx0
    refine wpAny_storeName_cell hF.ok.kind hl.1 hl.2.1 hc0 fun h' hc' hs' => ?_
    obtain ⟨oc, heC, hdC⟩ := id hc0
    have X : Ext K (· = c) no s { s with heap := h' } := Ext.at1 (tk := s.toks) heC (ns_d (fun vs e => by rw [hdC] at e; cases e) (fun vs e => by rw [hdC] at e; cases e)) rfl (hF.ok.base _ hl.2.2.1).1 (hF.ok.base _ hl.2.2.1).2 hs'
    have X' : Ext K F.W no s { s with heap := h' } := X.mono (fun a _ e => e ▸ hl.2.2.1) (fun _ _ q => q)
    refine h _ X' hs'.1 ⟨ok', X.inv hF.inv, ⟨m, hn.sameBut hs' (Ne.symm hl.2.2.2), fun q hq => ?_⟩, fun a ha => Nat.lt_of_lt_of_le (hF.alloc a ha) X.size⟩
    by_cases hq0 : q = ⟨x, .cell c, en⟩
    · subst hq0
      exact ⟨some v, hc', hv _ X'⟩
    · obtain ⟨hq1, hq2⟩ := other q hq hq0
      have hx := hvs q hq1
      have keepE : ∀ w, EnOK F.N s.heap q.en w → EnOK F.N h' q.en w := fun w hw => hw.ext X (fun a e => e ▸ hF.ok.WN _ hl.2.2.1) hF.ok.TN fun a ds e => ⟨fun e2 => by
        rw [e] at hw
        obtain ⟨_, _, its, hp, _⟩ := hw
        exact plain_ne_cell hp hc0 e2, (hF.ok.base _ (hF.ok.owns q hq1 a ds e).1).2⟩
      unfold VarOK at hx ⊢
      cases hql : q.loc with
      | loc =>
        rw [hql] at hx
        exact keepE _ hx
      | cell c' =>
        rw [hql] at hx
        obtain ⟨w, ⟨o, e1, e2⟩, e4⟩ := hx
        have hne : c' ≠ c := fun e => hq2 (hF.ok.apart _ h1 q hq1 c rfl (.inl (e ▸ hql))).symm
        exact ⟨w, ⟨o, hs'.extBut c' o hne e1, e2⟩, keepE _ e4⟩
      | free c' =>
        rw [hql] at hx
        obtain ⟨w, ⟨o, e1, e2⟩, e4⟩ := hx
        have hne : c' ≠ c := fun e => hq2 (hF.ok.apart _ h1 q hq1 c rfl (.inr (e ▸ hql))).symm
        exact ⟨w, ⟨o, hs'.extBut c' o hne e1, e2⟩, keepE _ e4⟩

theorem store_var {A : Around} {s : Shared} {Q : Unit → Shared → Prop} {E : Value → Shared → Prop} {x : Str} {en : En} {v : Value} {ρ' : List Var} (hF : FrOK K F s) (u : Upd x en F.ρ ρ') (hno : ∀ a ds, en ≠ .own a ds)
    (hv : ∀ (s' : Shared), Ext K F.W no s s' → EnOK F.N s'.heap en (some v)) (h : ∀ s', Ext K F.W no s s' → FrOK K { F with ρ := ρ' } s' → Q () s') : wpAny K.M A (storeName F.env x v) Q E s :=
  store_varZ hF u hno hv fun s' x _ hF' => h s' x hF'

theorem store_valZ {A : Around} {s : Shared} {Q : Unit → Shared → Prop} {E : Value → Shared → Prop} {x : Str} {d : D} {v : Value} {ρ' : List Var} (hF : FrOK K F s) (u : Upd x (.val d) F.ρ ρ')
    (r : Rep F.N s.heap d v) (h : ∀ s', Ext K F.W no s s' → s'.heap.objs.size = s.heap.objs.size → FrOK K { F with ρ := ρ' } s' → Q () s') : wpAny K.M A (storeName F.env x v) Q E s :=
  store_varZ hF u (fun _ _ => nofun) (fun s' X => ⟨v, rfl, r.ext X hF.ok.WN hF.ok.TN⟩) h
theorem store_val {A : Around} {s : Shared} {Q : Unit → Shared → Prop} {E : Value → Shared → Prop} {x : Str} {d : D} {v : Value} {ρ' : List Var} (hF : FrOK K F s) (u : Upd x (.val d) F.ρ ρ')
    (r : Rep F.N s.heap d v) (h : ∀ s', Ext K F.W no s s' → FrOK K { F with ρ := ρ' } s' → Q () s') : wpAny K.M A (storeName F.env x v) Q E s :=
  store_var hF u (fun _ _ => nofun) (fun s' X => ⟨v, rfl, r.ext X hF.ok.WN hF.ok.TN⟩) h
end
end

/-! # part F6 -/
section
theorem execs_append (env : Env) : ∀ (a b : List Stmt), execs (a ++ b) env = (do match ← execs a env with | .next => execs b env | f => pure f)
  | [], b => rfl
  | s :: a, b => by
    show (do match ← exec s env with | .next => execs (a ++ b) env | f => pure f) = _
    rw [execs_append env a b, execs_cons, bind_assoc]
    congr 1
    funext f
    cases f <;> rfl

theorem execs_if (env : Env) (t : Expr) (b o rest : List Stmt) (pos : Pos) : execs (.If t b o pos :: rest) env =
    (do standAt pos; if ← isTrue t env (eval t env) then execs (b ++ rest) env else execs (o ++ rest) env) := by
  rw [execs_cons, exec_If, bind_assoc]
  congr 1
  funext _
  rw [bind_assoc]
  congr 1
  funext c
  cases c
  · simp only [Bool.false_eq_true, if_false, execs_append]
    congr 1
  · simp only [if_true, execs_append]
    congr 1

inductive Out where
  | next (ρ : List Var)
  | ret (d : D)

abbrev Fm.at (F : Fm) (ρ : List Var) : Fm := { F with ρ := ρ }

noncomputable def OutOK (K : Cx) (F : Fm) : Out → Flow → Shared → Prop
  | .next ρ, f, s => f = .next ∧ FrOK K (F.at ρ) s
  | .ret d, f, s => ∃ v, f = .ret v ∧ Rep F.No s.heap d v

/-- a block of statements -/
noncomputable def Blk (K : Cx) (n : Nat) (F : Fm) (sts : List Stmt) (P : Out → Prop) : Prop :=
  ∀ {A : Around} {s : Shared} {Q : Flow → Shared → Prop} {E : Value → Shared → Prop}, Room A n → FrOK K F s →
    (∀ o f s', P o → OutOK K F o f s' → Ext K F.W no s s' → Q f s') → wpAny K.M A (execs sts F.env) Q E s

noncomputable def Stm (K : Cx) (n : Nat) (F : Fm) (st : Stmt) (P : Out → Prop) : Prop :=
  ∀ {A : Around} {s : Shared} {Q : Flow → Shared → Prop} {E : Value → Shared → Prop}, Room A n → FrOK K F s →
    (∀ o f s', P o → OutOK K F o f s' → Ext K F.W no s s' → Q f s') → wpAny K.M A (exec st F.env) Q E s

section
variable {K : Cx} {n : Nat} {F : Fm} {P : Out → Prop}

theorem blk_nil (h : P (.next F.ρ)) : Blk K n F [] P := fun R hF hQ => wpAny_execs_nil (hQ _ _ _ h ⟨rfl, hF⟩ (Ext.refl _))

theorem blk_cons {st : Stmt} {rest : List Stmt} {P1 : Out → Prop} (h1 : Stm K n F st P1) (h2 : ∀ ρ', P1 (.next ρ') → Blk K n (F.at ρ') rest P) (h3 : ∀ d, P1 (.ret d) → P (.ret d)) : Blk K n F (st :: rest) P := fun R hF hQ =>
  wpAny_execs_cons (h1 R hF fun o f s₁ hp ho x => by
    cases o with
    | next ρ' =>
      obtain ⟨rfl, hF'⟩ := ho
      exact h2 ρ' hp R hF' fun o f s₂ hp' ho' x' => hQ o f s₂ hp' ho' (x.trans x')
    | ret d =>
      obtain ⟨v, rfl, r⟩ := ho
      exact hQ (.ret d) _ s₁ (h3 d hp) ⟨v, rfl, r⟩ x)

theorem blk_assign {x : Str} {p pos : Pos} {value : Expr} {d : D} {ρ' : List Var} {rest : List Stmt} (hv : Ev K n F value d) (u : Upd x (.val d) F.ρ ρ') (hr : Blk K n (F.at ρ') rest P)
    (hs : swapsWith value (some (.Name x p)) pos.line F.env = pure false := by rfl) : Blk K n F (.Assign [.Name x p] value pos :: rest) P := fun R hF hQ =>
  wpAny_execs_cons (wpAny_Assign_Name (hv R hF fun v s₁ x₁ r => store_val (hF.ext0 x₁) u r fun s₂ x₂ hF₂ => hr R hF₂ fun o f s₃ hp ho x₃ => hQ o f s₃ hp ho ((x₁.of0.trans x₂).trans x₃)) hs)

theorem blk_ret {value : Expr} {pos : Pos} {d : D} {rest : List Stmt} (hv : Ev K n F value d) (hp : P (.ret d)) : Blk K n F (.Return (some value) pos :: rest) P := fun R hF hQ =>
  wpAny_execs_cons (wpAny_Return_some (hv R hF fun v s₁ x₁ r => hQ (.ret d) _ s₁ hp ⟨v, rfl, r.keep (fun a _ h => hF.ok.NoN a h) (fun _ _ _ e => e)⟩ x₁.of0))

theorem blk_retNone {pos : Pos} {rest : List Stmt} (hp : P (.ret .none)) : Blk K n F (.Return none pos :: rest) P := fun R hF hQ =>
  wpAny_execs_cons (wpAny_Return_none (hQ (.ret .none) _ _ hp ⟨_, rfl, .none⟩ (Ext.refl _)))

theorem blk_if {t : Expr} {c : Bool} {b o rest : List Stmt} {pos : Pos} (ht : Tr K n F t c) (hb : c = true → Blk K n F (b ++ rest) P) (ho : c = false → Blk K n F (o ++ rest) P) :
    Blk K n F (.If t b o pos :: rest) P := fun R hF hQ => by
  rw [execs_if]
  refine wpAny_bind (wpAny_standAt (wpAny_bind (ht R hF fun s₁ x₁ => ?_)))
  cases c with
  | true =>
    simp only [if_true]
    exact hb rfl R (hF.ext0 x₁) fun o f s₂ hp ho x₂ => hQ o f s₂ hp ho (x₁.of0.trans x₂)
  | false =>
    simp only [Bool.false_eq_true, if_false]
    exact ho rfl R (hF.ext0 x₁) fun o f s₂ hp ho x₂ => hQ o f s₂ hp ho (x₁.of0.trans x₂)

/-- an in-place operation on data -/
noncomputable def InD (K : Cx) (F : Fm) (op : Operator) (a b d : D) : Prop :=
  ∀ {A : Around} {s : Shared} {Q : Value → Shared → Prop} {E : Value → Shared → Prop} {u v : Value}, A.handled = none → FrOK K F s → Rep F.N s.heap a u → Rep F.N s.heap b v →
    (∀ r s', E0 K s s' → Rep F.N s'.heap d r → Q r s') → wpAny K.M A (inplaceOp op u v) Q E s
theorem i_add {a b : Int} : InD K F .Add (.int a) (.int b) (.int (a + b)) := fun _ _ h1 h2 h => by cases h1; cases h2; exact iadd_int (h _ _ (E0.toks _) (.int _ _))
theorem i_sub {a b : Int} : InD K F .Sub (.int a) (.int b) (.int (a - b)) := fun _ _ h1 h2 h => by cases h1; cases h2; exact isub_int (h _ _ (E0.toks _) (.int _ _))

theorem blk_aug {x : Str} {p pos : Pos} {op : Operator} {value : Expr} {l : Loc} {a b d : D} {ρ' : List Var} {rest : List Stmt} (hx : (⟨x, l, .val a⟩ : Var) ∈ F.ρ) (hv : Ev K n F value b) (ho : InD K F op a b d)
    (u : Upd x (.val d) F.ρ ρ') (hr : Blk K n (F.at ρ') rest P) : Blk K n F (.AugAssign (.Name x p) op value pos :: rest) P := fun R hF hQ => by
  obtain ⟨v0, r0, k0⟩ := var_val hF hx
  exact wpAny_execs_cons (wpAny_AugAssign_Name (k0 (hv R hF fun v s₁ x₁ r₁ => ho R.hh (hF.ext0 x₁) (r0.ext0 x₁ hF.ok) r₁ fun w s₂ x₂ r₂ => store_val ((hF.ext0 x₁).ext0 x₂) u r₂ fun s₃ x₃ hF₃ =>
    hr R hF₃ fun o f s₄ hp ho x₄ => hQ o f s₄ hp ho (((x₁.of0.trans x₂.of0).trans x₃).trans x₄))))

/-- a target takes a datum -/
noncomputable def Asg (K : Cx) (F : Fm) (t : Expr) (d : D) (ρ' : List Var) : Prop :=
  ∀ {A : Around} {s : Shared} {Q : Unit → Shared → Prop} {E : Value → Shared → Prop} {v : Value}, A.handled = none → FrOK K F s → Rep F.N s.heap d v →
    (∀ s', Ext K F.W no s s' → FrOK K (F.at ρ') s' → Q () s') → wpAny K.M A (assign t F.env v) Q E s

theorem asg_name {x : Str} {p : Pos} {d : D} {ρ' : List Var} (u : Upd x (.val d) F.ρ ρ') : Asg K F (.Name x p) d ρ' := fun _ hF r h => wpAny_assign_Name (store_val hF u r h)

/-- several targets, each its own item -/
inductive Asgs (K : Cx) : Fm → List Expr → List D → List Var → Prop
  | nil {F : Fm} : Asgs K F [] [] F.ρ
  | cons {F : Fm} {t : Expr} {ts : List Expr} {d : D} {ds : List D} {ρ₁ ρ₂ : List Var} : Asg K F t d ρ₁ → Asgs K (F.at ρ₁) ts ds ρ₂ → (∀ env, assignEach (t :: ts) env = (false, assign t env) :: assignEach ts env) →
      Asgs K F (t :: ts) (d :: ds) ρ₂

theorem Asgs.run {F : Fm} {ts : List Expr} {ds : List D} {ρ₂ : List Var} (h : Asgs K F ts ds ρ₂) : ∀ {A : Around} {s : Shared} {Q : Unit → Shared → Prop} {E : Value → Shared → Prop} {vs : List Value}, A.handled = none → FrOK K F s →
    Reps F.N s.heap ds vs → (∀ s', Ext K F.W no s s' → FrOK K (F.at ρ₂) s' → Q () s') → wpAny K.M A (assignInOrder ((assignEach ts F.env).map (·.2)) vs) Q E s := by
  induction h with
  | nil =>
    intro A s Q E vs hh hF hr hQ
    cases hr
    show wpAny _ _ (pure ()) _ _ _
    exact wpAny_pure (hQ _ (Ext.refl _) hF)
  | cons h1 _ he ih =>
    intro A s Q E vs hh hF hr hQ
    cases hr with
    | cons r1 r2 =>
      rw [he]
      show wpAny _ _ (do holding _ (assign _ _ _); assignInOrder _ _) _ _ _
      refine wpAny_bind (wpAny_holding (h1 hh hF r1 fun s₁ x₁ hF₁ => ?_))
      exact ih hh hF₁ (Reps.keep (fun _ _ q => q) (fun b o hb e => x₁.heap b o (fun q => hb (hF.ok.WN b q)) (fun q => hb (hF.ok.TN b q)) e) r2) fun s₂ x₂ hF₂ => hQ _ (x₁.trans x₂) hF₂

theorem Asgs.length {F : Fm} {ts : List Expr} {ds : List D} {ρ₂ : List Var} (h : Asgs K F ts ds ρ₂) : ds.length = ts.length ∧ ∀ env, (assignEach ts env).length = ts.length ∧ (assignEach ts env).findIdx? (·.1) = none := by
  induction h with
  | nil => exact ⟨rfl, fun _ => ⟨rfl, rfl⟩⟩
  | cons _ _ he ih =>
    refine ⟨by rw [List.length_cons, List.length_cons, ih.1], fun env => ?_⟩
    rw [he]
    refine ⟨by rw [List.length_cons, List.length_cons, (ih.2 env).1], ?_⟩
    rw [List.findIdx?_cons]
    simp [(ih.2 env).2]

theorem unpack_rep {A : Around} {s : Shared} {Q : List Value → Shared → Prop} {E : Value → Shared → Prop} {v : Value} {ds : List D} {k : Nat} (hh : A.handled = none) (hF : FrOK K F s) (r : Rep F.N s.heap (.tup ds) v) (hk : k = ds.length)
    (hQ : ∀ vs s', E0 K s s' → Reps F.N s'.heap ds vs → Q vs s') : wpAny K.M A (unpackItems v k none) Q E s := by
  cases r with
  | tup n1 l1 r1 =>
    rename_i a its
    have e : k = its.size := by rw [hk, r1.length, Array.length_toList]
    rw [e]
    refine wpAny_gr (wpAny_unpackItems_tuple hh l1 fun h' hx g => ?_)
    have k1 : ∀ b o, s.heap.get? b = some o → h'.get? b = some o := fun b o e => hx b o (Nat.ne_of_lt (Heap.lt_size e)) e
    exact hQ _ _ (E0.grow (tk := s.toks) k1 g.1) (Reps.keep (fun _ _ q => q) (fun b o _ e => k1 b o e) r1)

theorem asg_tuple {ts : List Expr} {k : Nat} {p : Pos} {ds : List D} {ρ' : List Var} (h : Asgs K F ts ds ρ') : Asg K F (.Tuple ts k p) (.tup ds) ρ' := by
  intro A s Q E v hh hF r hQ
  obtain ⟨e1, e2⟩ := h.length
  rw [arm_assign_Tuple]
  refine wpAny_bind (wpAny_standAt ?_)
  unfold unpack
  rw [(e2 F.env).1, (e2 F.env).2]
  exact wpAny_bind (wpAny_holding (unpack_rep hh hF r e1.symm fun vs s₁ x₁ r₁ => h.run hh (hF.ext0 x₁) r₁ fun s₂ x₂ hF₂ => hQ _ (x₁.of0.trans x₂) hF₂))

theorem exec_Assign_all (env : Env) (targets : List Expr) (value : Expr) (pos : Pos) : exec (.Assign targets value pos) env = (do
    standAt pos
    if ← swapsWithSole targets value pos.line env then do
      evalThenUse value env fun v => assignAll v ((assignEach targets env).map (·.2))
      pure .next
    else do
      let v ← eval value env
      assignStores env v (← swappedStores targets value env) ((assignEach targets env).map (·.2))) := rfl

/-- one target of any kind -/
theorem blk_assignT {t : Expr} {pos : Pos} {value : Expr} {d : D} {ρ' : List Var} {rest : List Stmt} (hv : Ev K n F value d) (ht : Asg K F t d ρ') (hr : Blk K n (F.at ρ') rest P)
    (hs : swapsWithSole [t] value pos.line F.env = pure false := by rfl) (hw : swappedStores [t] value F.env = pure none := by rfl) (he : ∀ env, assignEach [t] env = [(false, assign t env)] := by intro _; rfl) :
    Blk K n F (.Assign [t] value pos :: rest) P := fun R hF hQ => by
  refine wpAny_execs_cons ?_
  rw [exec_Assign_all, hs, he, hw]
  refine wpAny_bind (wpAny_standAt (wpAny_bind (wpAny_pure ?_)))
  simp only [Bool.false_eq_true, if_false]
  refine wpAny_bind (hv R hF fun v s₁ x₁ r₁ => ?_)
  refine wpAny_bind (wpAny_pure ?_)
  show wpAny _ _ (do assign t F.env v; pure Flow.next) _ _ _
  exact wpAny_bind (ht R.hh (hF.ext0 x₁) r₁ fun s₂ x₂ hF₂ => wpAny_pure (hr R hF₂ fun o f s₃ hp ho x₃ => hQ o f s₃ hp ho ((x₁.of0.trans x₂).trans x₃)))

/-- two locals at once, written as a display: the stores go from behind -/
theorem blk_assignSw {x y : Str} {t : Expr} {pos : Pos} {value : Expr} {d₁ d₂ : D} {ρ₁ ρ₂ : List Var} {rest : List Stmt} (hv : Ev K n F value (.tup [d₁, d₂])) (u₁ : Upd y (.val d₂) F.ρ ρ₁) (u₂ : Upd x (.val d₁) ρ₁ ρ₂)
    (hr : Blk K n (F.at ρ₂) rest P)
    (hs : swapsWithSole [t] value pos.line F.env = pure false := by rfl) (hw : swappedStores [t] value F.env = pure (some [x, y]) := by rfl) :
    Blk K n F (.Assign [t] value pos :: rest) P := fun R hF hQ => by
  refine wpAny_execs_cons ?_
  rw [exec_Assign_all, hs, hw]
  refine wpAny_bind (wpAny_standAt (wpAny_bind (wpAny_pure ?_)))
  simp only [Bool.false_eq_true, if_false]
  refine wpAny_bind (hv R hF fun v s₁ x₁ r₁ => ?_)
  refine wpAny_bind (wpAny_pure ?_)
  show wpAny _ _ (do rule "assign.swapped-stores"; let items ← unpackItems v 2 none; assignInOrder ([y, x].map fun n => bindName F.env n) items.reverse; pure Flow.next) _ _ _
  refine wpAny_bind (wpAny_rule (wpAny_bind (unpack_rep R.hh (hF.ext0 x₁) r₁ rfl fun vs s₂ x₂ r₂ => ?_)))
  cases r₂ with
  | cons ra rb =>
  cases rb with
  | cons rb rc =>
  cases rc
  rename_i v1 v2
  show wpAny _ _ (do (do holding [v1] (bindName F.env y v2); (do holding [] (bindName F.env x v1); pure ())); pure Flow.next) _ _ _
  have hF2 := (hF.ext0 x₁).ext0 x₂
  refine wpAny_bind (wpAny_bind (wpAny_holding (wpAny_bindName (store_val hF2 u₁ rb fun s₃ x₃ hF₃ => wpAny_bind (wpAny_holding (wpAny_bindName (store_val (F := F.at ρ₁) hF₃ u₂ ?_ fun s₄ x₄ hF₄ => wpAny_pure (wpAny_pure ?_))))))))
  · exact ra.ext x₃ hF.ok.WN hF.ok.TN
  · exact hr R hF₄ fun o f s₅ hp ho x₅ => hQ o f s₅ hp ho ((((x₁.of0.trans x₂.of0).trans x₃).trans x₄).trans x₅)
end
end

/-! # part F7 -/
section
/-- the targets that an iterator is served for: enumerate wants a tuple -/
noncomputable def TgtOK (tup : Bool) : Expr → Prop
  | .Tuple .. => True
  | _ => tup = false

/-- an iterator that will give the data; whatever else the frame changes (W) between two pulls -/
noncomputable def IterOK (K : Cx) (n : Nat) (W N fp : Addr → Prop) (V : Nat → Prop) (tup : Bool) (it : Value) : List D → Shared → Prop
  | [], s => ∀ (A : Around) (Q : Option Value → Shared → Prop) (E : Value → Shared → Prop) (s' : Shared), Room A n → Ext K W no s s' → Inv K s' →
      (∀ s'', Ext K fp V s' s'' → Q none s'') → wpAny K.M A (pyNext it) Q E s'
  | d :: ds, s => ∀ (A : Around) (Q : Option Value → Shared → Prop) (E : Value → Shared → Prop) (s' : Shared), Room A n → Ext K W no s s' → Inv K s' →
      (∀ v s'', Ext K fp V s' s'' → Rep N s''.heap d v →
        (∀ (target : Expr) (A : Around) (Q : Unit → Shared → Prop) (E : Value → Shared → Prop), TgtOK tup target → (∀ s3, Ext K fp V s'' s3 → Rep N s3.heap d v → IterOK K n W N fp V tup it ds s3 → Q () s3) →
          wpAny K.M A (letOwnedTupleGo target it v) Q E s'') → Q (some v) s'') → wpAny K.M A (pyNext it) Q E s'

theorem IterOK.ext {K : Cx} {n : Nat} {W N fp : Addr → Prop} {V : Nat → Prop} {tup : Bool} {it : Value} {ds : List D} {s s1 : Shared} (h : IterOK K n W N fp V tup it ds s) (x : Ext K W no s s1) : IterOK K n W N fp V tup it ds s1 := by
  cases ds with
  | nil => intro A Q E s' R x' i hQ; exact h A Q E s' R (x.trans x') i hQ
  | cons d ds => intro A Q E s' R x' i hQ; exact h A Q E s' R (x.trans x') i hQ

noncomputable def SelfIt (K : Cx) (it : Value) (s : Shared) : Prop :=
  ∀ (A : Around) (Q : Value → Shared → Prop) (E : Value → Shared → Prop) (s' : Shared), E0 K s s' → Q it s' → wpAny K.M A (pyIter it) Q E s'

/-- the iterator serves whatever frame pulls it, if that frame changes what the maker's frame may change, or what was made later -/
noncomputable def ItAll (K : Cx) (n : Nat) (F : Fm) (fp : Addr → Prop) (V : Nat → Prop) (tup : Bool) (it : Value) (ds : List D) (s' : Shared) : Prop :=
  ∀ (W N : Addr → Prop) (s'' : Shared), E0 K s' s'' → (∀ a, W a → F.W a ∨ s'.heap.objs.size ≤ a) → (∀ a, W a → N a) → (∀ a, F.N a → N a) → (∀ a, fp a → N a) →
    (∀ a, N a → F.N a ∨ fp a ∨ s'.heap.objs.size ≤ a) → (∀ a, N a → a < s''.heap.objs.size) → IterOK K n W N fp V tup it ds s''

/-- an expression gives an iterable of data -/
noncomputable def Itr (K : Cx) (n : Nat) (F : Fm) (e : Expr) (tup : Bool) (ds : List D) : Prop :=
  ∀ {A : Around} {s : Shared} {Q : Value → Shared → Prop} {E : Value → Shared → Prop}, Room A n → FrOK K F s →
    (∀ it fp V s', E0 K s s' → (∀ a, fp a → s.heap.objs.size ≤ a ∧ a < s'.heap.objs.size) → (∀ g, V g → s.gens.size ≤ g) → ItAll K n F fp V tup it ds s' → SelfIt K it s' → Q it s') →
    wpAny K.M A (eval e F.env) (fun x s₁ => wpAny K.M A (pyIter x) Q E s₁) E s

noncomputable def ownsTuple : List String := ["enumerate", "zip", "dict_itemiterator", "dict_reverseitemiterator", "odict_iterator", "itertools.zip_longest", "itertools.pairwise"]

theorem letGo_plain {K : Cx} {A : Around} {s : Shared} {Q : Unit → Shared → Prop} {E : Value → Shared → Prop} {target : Expr} {it : Addr} {v : Value} {o : Obj} {T : String} (ho : s.heap.get? it = some o) (hc : o.cls = .type T)
    (hT : ownsTuple.contains T = false) (h : Q () s) : wpAny K.M A (letOwnedTupleGo target (.ref it) v) Q E s := by
  have key : wpAny K.M A (do
      let (.ref r, .ref a) := (Value.ref it, v) | return
      let o ← load r
      match o.cls, o.data with
      | .type n, .fields vs =>
        if ["enumerate", "zip", "dict_itemiterator", "dict_reverseitemiterator", "odict_iterator", "itertools.zip_longest", "itertools.pairwise"].contains n && vs[0]? == some (rawInt a) then
          rule "for.unpacks-the-owned-tuple"
          updateField r 0 .none
      | _, _ => pure () : Sem Unit) Q E s := by
    cases v with
    | ref a =>
      refine wpAny_bind (wpAny_load ho ?_)
      rw [hc]
      cases hd : o.data with
      | fields vs =>
        have : (["enumerate", "zip", "dict_itemiterator", "dict_reverseitemiterator", "odict_iterator", "itertools.zip_longest", "itertools.pairwise"] : List String).contains T = false := hT
        simp only [this, Bool.false_and, Bool.false_eq_true, if_false]
        exact wpAny_pure h
      | _ => exact wpAny_pure h
    | _ => exact wpAny_pure h
  cases target with
  | Tuple es k p => exact key
  | List es p => exact key
  | _ => exact wpAny_pure h

section
variable {K : Cx} {n : Nat} {W N fp : Addr → Prop} {V : Nat → Prop} {tup : Bool}

theorem ext_list {s s' : Shared} {l : Addr} {its : Array Value} (x : Ext K W V s s') (h : s.heap.IsList l its) (hl : ¬ W l) (ht : ¬ K.Tb l) : s'.heap.IsList l its :=
  let ⟨o, e, r⟩ := h; ⟨o, x.heap _ _ hl ht e, r⟩

theorem Ext.but1 {s : Shared} {h' : Heap} {tk : Nat} {a : Addr} {oa : Obj} (e : s.heap.get? a = some oa) (hc : ¬ Stays oa) (ha : W a) (hb : K.g0.get? a = none) (ht : ¬ K.Tb a)
    (hs : Heap.ExtBut a s.heap h') (hz : s.heap.objs.size ≤ h'.objs.size) : Ext K W V s { s with heap := h', toks := tk } where
  heap := fun b o hw _ e' => hs b o (fun q => hw (q ▸ ha)) e'
  inv := fun i => ⟨fun b o e' => hs b o (fun q => by rw [q, hb] at e'; cases e') (i.keep b o e'), Nat.le_trans i.low hz, i.bare,
    K.tabKeep _ _ (fun b o e' hbo => hs b o (fun q => by
      subst q
      rcases hbo with h1 | h1
      · exact ht h1
      · rw [e] at e'; cases e'
        exact hc h1) e') i.tab⟩
  size := hz
  gsize := Nat.le_refl _
  gens := fun _ _ _ => rfl
  os := rfl

theorem Reps.ext {s s' : Shared} (x : Ext K W V s s') (hW : ∀ a, W a → N a) (hT : ∀ a, K.Tb a → N a) {ds : List D} {vs : List Value} (r : Reps N s.heap ds vs) : Reps N s'.heap ds vs :=
  Reps.keep (fun _ _ q => q) (fun b o hb e => x.heap b o (fun q => hb (hW b q)) (fun q => hb (hT b q)) e) r

/-- an iterator whose state is one object that hands the items of a list of values on, one a pull -/
theorem iter_seq {N : Addr → Prop} {it : Addr} {T : String} (St : Nat → Shared → Prop)
    (hWN : ∀ a, W a → N a) (hTN : ∀ a, K.Tb a → N a) (hfN : ∀ a, fp a → N a) (hit : fp it) (hg : K.g0.get? it = none) (hiT : ¬ K.Tb it) (hT : ownsTuple.contains T = false) (hT2 : T ≠ "code" ∧ T ≠ "function") (all : List D)
    (hfr : ∀ i s s', St i s → Ext K W no s s' → St i s') (hcls : ∀ i s, St i s → ∃ o, s.heap.get? it = some o ∧ o.cls = .type T)
    (hitem : ∀ i d, all[i]? = some d → ∀ (A : Around) (Q : Option Value → Shared → Prop) (E : Value → Shared → Prop) (s : Shared), A.handled = none → St i s →
      (∀ v h' tk, Heap.SameBut it s.heap h' → St (i + 1) { s with heap := h', toks := tk } → (∀ N, (∀ a, fp a → N a) → (∀ a, K.Tb a → N a) → (Rep N s.heap d v → Rep N h' d v)) → Rep N s.heap d v → Q (some v) { s with heap := h', toks := tk }) → wpAny K.M A (pyNext (.ref it)) Q E s)
    (hend : ∀ (A : Around) (Q : Option Value → Shared → Prop) (E : Value → Shared → Prop) (s : Shared), A.handled = none → St all.length s → (∀ h', Heap.ExtBut it s.heap h' → Q none { s with heap := h' }) → wpAny K.M A (pyNext (.ref it)) Q E s) :
    ∀ (ds : List D) (i : Nat) (s : Shared), ds = all.drop i → i ≤ all.length → St i s → IterOK K n W N fp V tup (.ref it) ds s := by
  intro ds
  induction ds with
  | nil =>
    intro i s hd hle hst A Q E s' R x inv hQ
    have hi : i = all.length := by
      have := congrArg List.length hd
      rw [List.length_nil, List.length_drop] at this
      omega
    subst hi
    have hst' := hfr _ _ _ hst x
    obtain ⟨o, e, hc⟩ := hcls _ _ hst'
    refine wpAny_gr (hend A _ _ s' R.hh hst' fun h' hx g => hQ _ (Ext.but1 (tk := s'.toks) e (ns_c hc hT2) hit hg hiT hx g.1))
  | cons d ds ih =>
    intro i s hd hle hst A Q E s' R x inv hQ
    have hlt : i < all.length := by
      have := congrArg List.length hd
      rw [List.length_cons, List.length_drop] at this
      omega
    rw [List.drop_eq_getElem_cons hlt] at hd
    injection hd with hd1 hd2
    have hx : all[i]? = some d := by rw [List.getElem?_eq_getElem hlt, hd1]
    have hst' := hfr _ _ _ hst x
    obtain ⟨o, e, hc⟩ := hcls _ _ hst'
    refine hitem i d hx A _ _ s' R.hh hst' fun v h' tk hs hst2 hrep hr0 => ?_
    have X : Ext K fp V s' { s' with heap := h', toks := tk } := Ext.at1 e (ns_c hc hT2) hit hg hiT hs
    have r1 := hrep N hfN hTN hr0
    refine hQ _ _ X r1 fun target A Q E _ hq => ?_
    obtain ⟨o2, e2, hc2⟩ := hcls _ _ hst2
    exact letGo_plain e2 hc2 hT (hq _ (Ext.refl _) r1 (ih (i + 1) _ hd2 hlt hst2))

theorem iter_list {l it : Addr} {its : Array Value} {ds : List D} {s : Shared} (hWN : ∀ a, W a → N a) (hTN : ∀ a, K.Tb a → N a) (hfN : ∀ a, fp a → N a) (hit : fp it) (hiW : ¬ W it) (hg : K.g0.get? it = none) (hiT : ¬ K.Tb it) (hlW : ¬ W l) (hlT : ¬ K.Tb l) (hlf : ¬ fp l)
    (hi : s.heap.IsListIter it l 0) (hl : s.heap.IsList l its) (hr : Reps N s.heap ds its.toList) : IterOK K n W N fp V tup (.ref it) ds s := by
  refine iter_seq (T := "list_iterator") (fun i s => s.heap.IsListIter it l i ∧ s.heap.IsList l its ∧ Reps N s.heap ds its.toList) hWN hTN hfN hit hg hiT (by decide) (by decide) ds ?_ ?_ ?_ ?_ ds 0 s rfl (Nat.zero_le _) ⟨hi, hl, hr⟩
  · rintro i s s' ⟨⟨o, e, r⟩, b, c⟩ x
    exact ⟨⟨o, x.heap _ _ hiW hiT e, r⟩, ext_list x b hlW hlT, c.ext x hWN hTN⟩
  · rintro i s ⟨⟨o, e, r, _⟩, _, _⟩
    exact ⟨o, e, r⟩
  · rintro i d hx A Q E s hh ⟨a, b, c⟩ hQ
    obtain ⟨v, hv, rv⟩ := c.get hx
    refine wpAny_pyNext_list_item a b (by rw [← Array.getElem?_toList]; exact hv) fun h' a' hs => ?_
    refine hQ v h' s.toks hs ⟨a', b.extBut hs.extBut (fun q => hlf (q ▸ hit)), Reps.keep (fun _ _ q => q) (fun b o hb e => hs.extBut b o (fun q => hb (hfN _ (q ▸ hit))) e) c⟩ (fun N' h1 h2 r => r.keep (fun _ _ q => q) fun b o hb e => hs.extBut b o (fun q => hb (h1 _ (q ▸ hit))) e) rv
  · rintro A Q E s hh ⟨a, b, c⟩ hQ
    exact wpAny_pyNext_list_end hh a b (Array.getElem?_eq_none (by rw [← Array.length_toList, ← c.length]; exact Nat.le_refl _)) fun h' hx => hQ h' hx

theorem iter_str {it : Addr} {x : Str} {t : Tok} {s : Shared} (hWN : ∀ a, W a → N a) (hTN : ∀ a, K.Tb a → N a) (hfN : ∀ a, fp a → N a) (hit : fp it) (hiW : ¬ W it) (hg : K.g0.get? it = none) (hiT : ¬ K.Tb it)
    (hi : s.heap.IsStrIter it (strIterType x) x t 0) : IterOK K n W N fp V tup (.ref it) (x.cps.toList.map fun c => .str ⟨#[c]⟩) s := by
  refine iter_seq (T := strIterType x) (fun i s => s.heap.IsStrIter it (strIterType x) x t i) hWN hTN hfN hit hg hiT (by unfold strIterType; split <;> decide) (by unfold strIterType; split <;> decide) _ ?_ ?_ ?_ ?_ _ 0 s rfl (Nat.zero_le _) hi
  · rintro i s s' ⟨o, e, r⟩ x
    exact ⟨o, x.heap _ _ hiW hiT e, r⟩
  · rintro i s ⟨o, e, r, _⟩
    exact ⟨o, e, r⟩
  · rintro i d hx A Q E s hh a hQ
    rw [List.getElem?_map, Option.map_eq_some_iff] at hx
    obtain ⟨c, hc, rfl⟩ := hx
    have hc' : x.cps[i]? = some c := by rw [← Array.getElem?_toList]; exact hc
    have fin : ∀ h', h'.IsStrIter it (strIterType x) x t (i + 1) → Heap.SameBut it s.heap h' → Q (some (.str ⟨#[c]⟩ s.toks)) { s with heap := h', toks := s.toks + 1 } := fun h' b hs =>
      hQ _ h' _ hs b (fun _ _ _ _ => .str _ _) (.str _ _)
    unfold strIterType at a fin
    split at a
    · rename_i ha
      rw [if_pos ha] at fin
      exact wpAny_pyNext_ascii_item a hc' fin
    · rename_i ha
      rw [if_neg ha] at fin
      exact wpAny_pyNext_wide_item a hc' fin
  · rintro A Q E s hh a hQ
    have hn : x.cps[(x.cps.toList.map fun c => D.str ⟨#[c]⟩).length]? = none := Array.getElem?_eq_none (by simp)
    unfold strIterType at a
    split at a
    · exact wpAny_pyNext_ascii_end hh a hn fun h' hx => hQ h' hx
    · exact wpAny_pyNext_wide_end hh a hn fun h' hx => hQ h' hx
end
end

/-! # part F8 -/
section
section
variable {K : Cx} {n : Nat} {W N fp : Addr → Prop} {V : Nat → Prop} {tup : Bool}

theorem iter_range {it : Addr} {a m : Int} {s : Shared} (hm : 0 ≤ m) (hWN : ∀ a, W a → N a) (hTN : ∀ a, K.Tb a → N a) (hfN : ∀ a, fp a → N a) (hit : fp it) (hiW : ¬ W it) (hg : K.g0.get? it = none) (hiT : ¬ K.Tb it)
    (hi : IsRangeIter s.heap it a m 1) : IterOK K n W N fp V tup (.ref it) ((List.range m.toNat).map fun (i : Nat) => .int (a + i)) s := by
  refine iter_seq (T := "range_iterator") (fun i s => IsRangeIter s.heap it (a + i) (m - i) 1) hWN hTN hfN hit hg hiT (by decide) (by decide) _ ?_ ?_ ?_ ?_ _ 0 s rfl (Nat.zero_le _) (by simpa using hi)
  · intro i s s' e x
    exact x.heap _ _ hiW hiT e
  · intro i s e
    exact ⟨_, e, rfl⟩
  · rintro i d hx A Q E s hh e hQ
    have hlt : i < m.toNat := by
      have := (List.getElem?_eq_some_iff.mp hx).1
      simpa using this
    have hd : d = .int (a + i) := by
      rw [List.getElem?_map, List.getElem?_range hlt] at hx
      simpa using hx.symm
    subst hd
    refine wpAny_pyNext_range_item e (by omega) fun h' e' hs => ?_
    refine hQ _ h' _ hs ?_ (fun _ _ _ _ => .int _ _) (.int _ _)
    have e1 : a + (i : Int) + 1 = a + ((i + 1 : Nat) : Int) := by omega
    have e2 : m - (i : Int) - 1 = m - ((i + 1 : Nat) : Int) := by omega
    rw [e1, e2] at e'
    exact e'
  · rintro A Q E s hh e hQ
    refine wpAny_pyNext_range_end hh e ?_ fun h' hx => hQ h' hx
    simp only [List.length_map, List.length_range]
    omega

theorem iter_rev {l it : Addr} {its : Array Value} {ds : List D} {s : Shared} (hWN : ∀ a, W a → N a) (hTN : ∀ a, K.Tb a → N a) (hfN : ∀ a, fp a → N a) (hit : fp it) (hiW : ¬ W it) (hg : K.g0.get? it = none) (hiT : ¬ K.Tb it) (hlW : ¬ W l) (hlT : ¬ K.Tb l) (hlf : ¬ fp l)
    (hi : s.heap.IsRevIter it l ((its.size : Int) - 1)) (hl : s.heap.IsList l its) (hr : Reps N s.heap ds its.toList) : IterOK K n W N fp V tup (.ref it) ds.reverse s := by
  have hlen : ds.length = its.size := by rw [hr.length, Array.length_toList]
  refine iter_seq (T := "list_reverseiterator") (fun i s => s.heap.IsRevIter it l ((its.size : Int) - 1 - i) ∧ s.heap.IsList l its ∧ Reps N s.heap ds its.toList) hWN hTN hfN hit hg hiT (by decide) (by decide) ds.reverse ?_ ?_ ?_ ?_ ds.reverse 0 s rfl (Nat.zero_le _) ⟨by simpa using hi, hl, hr⟩
  · rintro i s s' ⟨⟨o, e, r⟩, b, c⟩ x
    exact ⟨⟨o, x.heap _ _ hiW hiT e, r⟩, ext_list x b hlW hlT, c.ext x hWN hTN⟩
  · rintro i s ⟨⟨o, e, r, _⟩, _, _⟩
    exact ⟨o, e, r⟩
  · rintro i d hx A Q E s hh ⟨a, b, c⟩ hQ
    have hlt : i < ds.length := by
      have := (List.getElem?_eq_some_iff.mp hx).1
      simpa using this
    rw [List.getElem?_reverse hlt] at hx
    obtain ⟨v, hv, rv⟩ := c.get hx
    have e1 : (its.size : Int) - 1 - i = ((ds.length - 1 - i : Nat) : Int) := by omega
    rw [e1] at a
    refine wpAny_pyNext_rev_item a b (by rw [← Array.getElem?_toList]; exact hv) fun h' a' hs => ?_
    have e2 : ((ds.length - 1 - i : Nat) : Int) - 1 = (its.size : Int) - 1 - ((i + 1 : Nat) : Int) := by omega
    rw [e2] at a'
    refine hQ v h' s.toks hs ⟨a', b.extBut hs.extBut (fun q => hlf (q ▸ hit)), Reps.keep (fun _ _ q => q) (fun b o hb e => hs.extBut b o (fun q => hb (hfN _ (q ▸ hit))) e) c⟩ (fun N' h1 h2 r => r.keep (fun _ _ q => q) fun b o hb e => hs.extBut b o (fun q => hb (h1 _ (q ▸ hit))) e) rv
  · rintro A Q E s hh ⟨a, b, c⟩ hQ
    have e1 : (its.size : Int) - 1 - (ds.reverse.length : Nat) = -1 := by rw [List.length_reverse]; omega
    rw [e1] at a
    exact wpAny_pyNext_rev_end hh a fun h' hx => hQ h' hx

/-- enumerate: one pull, whatever stands within -/
theorem enum_pull {A : Around} {E : Value → Shared → Prop} {s : Shared} {e it : Addr} {i : Int} {old : Value} {Q : Option Value → Shared → Prop} (he : IsEnum s.heap e it i old) (hne : e ≠ it)
    (inner : ∀ (A : Around) (Q' : Value → Shared → Prop) (E : Value → Shared → Prop), (∀ x h' tk, Heap.SameBut it s.heap h' →
      (∀ h₂ tk₂, IsEnumOut h₂ e it (i + 1) x s.heap.objs.size → (∀ b o, b ≠ e → h'.get? b = some o → h₂.get? b = some o) → h₂.get? s.heap.objs.size = some { cls := .type "tuple", data := .seq #[.int i tk, x] } → h₂.objs.size = s.heap.objs.size + 1 →
        Q (some (.ref s.heap.objs.size)) { s with heap := h₂, toks := tk₂ }) → Q' x { s with heap := h', toks := tk }) → wpAny K.M A (Builtin.SmallTypes.nextOf (.ref it)) Q' E s) :
    wpAny K.M A (pyNext (.ref e)) Q E s := by
  have hT : s.TypeIs (.ref e) "enumerate" := ⟨_, he, rfl⟩
  unfold pyNext
  refine wpAny_bind (wpAny_attempt (wpAny_callSpecial?_slot (name := Str.ofString "__next__") hT PySem.F.slot_enumerate_next
    (wpAny_call_entry PySem.F.slot_enumerate_next hT PySem.F.entry_enumerate_next ?_ (PySem.F.args_enumerate_next_1 _))))
  obtain ⟨hp, g, d, tk0, os⟩ := s
  show wpAny _ _ (field (.ref e) 2 >>= _) _ _ _
  refine wpAny_bind (wpAny_field he rfl (x := .ref it) rfl ?_)
  refine wpAny_bind (wpAny_mono (inner _ (fun x s₁ => ∃ h₁ tk, s₁ = ⟨h₁, g, d, tk, os⟩ ∧ Heap.SameBut it hp h₁ ∧ (∀ h₂ tk₂, IsEnumOut h₂ e it (i + 1) x hp.objs.size → (∀ b o, b ≠ e → h₁.get? b = some o → h₂.get? b = some o) →
    h₂.get? hp.objs.size = some { cls := .type "tuple", data := .seq #[.int i tk, x] } → h₂.objs.size = hp.objs.size + 1 → Q (some (.ref hp.objs.size)) ⟨h₂, g, d, tk₂, os⟩)) (fun _ _ => False) fun x h' tk hs hq => ⟨h', tk, rfl, hs, hq⟩) (fun x s₁ hx => ?_) fun _ _ q => q.elim)
  obtain ⟨h₁, tk, rfl, hs₁, hQ⟩ := hx
  have he₁ : IsEnum h₁ e it i old := (hs₁.2 e hne).trans he
  show wpAny _ _ (field (.ref e) 3 >>= _) _ _ ⟨h₁, g, d, tk, os⟩
  refine wpAny_bind (wpAny_field he₁ rfl (x := rawInt i) rfl ?_)
  show wpAny _ _ (field (.ref e) 4 >>= _) _ _ ⟨h₁, g, d, tk, os⟩
  refine wpAny_bind (wpAny_field he₁ rfl (x := .none) rfl ?_)
  show wpAny _ _ (mkInt i >>= _) _ _ ⟨h₁, g, d, tk, os⟩
  refine wpAny_bind (wpAny_mkInt ?_)
  show wpAny _ _ (setField (.ref e) 3 (rawInt (i + 1)) >>= _) _ _ ⟨h₁, g, d, tk + 1, os⟩
  refine wpAny_bind (wpAny_setField_rec he₁ (by simp) fun h₂ he₂ hs₂ => ?_)
  replace hs₂ : Heap.SameBut e h₁ h₂ := hs₂
  replace he₂ : IsEnum h₂ e it (i + 1) old := he₂
  show wpAny _ _ (setField (.ref e) 4 .none >>= _) _ _ ⟨h₂, g, d, tk + 1, os⟩
  refine wpAny_bind (wpAny_setField_rec he₂ (by simp) fun h₃ he₃ hs₃ => ?_)
  replace hs₃ : Heap.SameBut e h₂ h₃ := hs₃
  replace he₃ : IsEnum h₃ e it (i + 1) old := he₃
  show wpAny _ _ (newTuple [.int i tk, x] >>= _) _ _ ⟨h₃, g, d, tk + 1, os⟩
  refine wpAny_bind (wpAny_newTuple ?_)
  have he₄ : IsEnum (h₃.push { cls := .type "tuple", data := .seq #[.int i tk, x] }) e it (i + 1) old := Heap.get?_push_of_some _ he₃
  generalize hh₄ : h₃.push { cls := .type "tuple", data := .seq #[.int i tk, x] } = h₄ at he₄
  have hsz : h₃.objs.size = hp.objs.size := by rw [hs₃.1, hs₂.1, hs₁.1]
  have hel : e < hp.objs.size := Heap.lt_size he
  have ht₄ : h₄.get? hp.objs.size = some { cls := .type "tuple", data := .seq #[.int i tk, x] } := by rw [← hh₄, ← hsz]; exact Heap.get?_push_size _ rfl
  have hz₄ : h₄.objs.size = hp.objs.size + 1 := by rw [← hh₄, Heap.size_push, hsz]
  have hk₄ : ∀ b o, b ≠ e → h₁.get? b = some o → h₄.get? b = some o := fun b o hbe hb => by
    rw [← hh₄]; exact Heap.get?_push_of_some _ (hs₃.extBut b o hbe (hs₂.extBut b o hbe hb))
  show wpAny _ _ (Builtin.SmallTypes.ownedTupleIsFree (.ref e) >>= _) _ _ ⟨h₄, g, d, tk + 1, os⟩
  rw [hsz]
  refine wpAny_bind ?_
  unfold Builtin.SmallTypes.ownedTupleIsFree
  refine wpAny_bind (wpAny_field he₄ rfl (x := .none) rfl (wpAny_pure ?_))
  simp only [if_true]
  refine wpAny_bind (wpAny_rule ?_)
  refine wpAny_bind (wpAny_field he₄ rfl (x := old) rfl ?_)
  refine wpAny_bind (wpAny_setField_rec he₄ (by simp) fun h₅ he₅ hs₅ => ?_)
  replace hs₅ : Heap.SameBut e h₄ h₅ := hs₅
  replace he₅ : IsEnum h₅ e it (i + 1) x := he₅
  show wpAny _ _ (Builtin.SmallTypes.ownedTupleHandOut (.ref e) (.ref hp.objs.size) >>= _) _ _ ⟨h₅, g, d, tk + 1, os⟩
  refine wpAny_bind ?_
  unfold Builtin.SmallTypes.ownedTupleHandOut
  refine wpAny_bind (wpAny_setField_rec he₅ (by simp) fun h₆ he₆ hs₆ => ?_)
  replace hs₆ : Heap.SameBut e h₅ h₆ := hs₆
  replace he₆ : IsEnumOut h₆ e it (i + 1) x hp.objs.size := he₆
  refine wpAny_setField_rec he₆ (by simp) fun h₇ he₇ hs₇ => ?_
  replace hs₇ : Heap.SameBut e h₆ h₇ := hs₇
  replace he₇ : IsEnumOut h₇ e it (i + 1) x hp.objs.size := he₇
  refine wpAny_bind (wpAny_letGo (wpAny_pure ⟨_, rfl, wpAny_pure (hQ h₇ (tk + 1) he₇ ?_ ?_ ?_)⟩))
  · exact fun b o hbe hb => hs₇.extBut b o hbe (hs₆.extBut b o hbe (hs₅.extBut b o hbe (hk₄ b o hbe hb)))
  · exact hs₇.extBut _ _ (Nat.ne_of_gt hel) (hs₆.extBut _ _ (Nat.ne_of_gt hel) (hs₅.extBut _ _ (Nat.ne_of_gt hel) ht₄))
  · rw [hs₇.1, hs₆.1, hs₅.1, hz₄]
end
end

/-! # part F9 -/
section
section
variable {K : Cx} {n : Nat} {W N fp : Addr → Prop} {V : Nat → Prop}

theorem enum_stop {A : Around} {E : Value → Shared → Prop} {s : Shared} {e it : Addr} {i : Int} {old : Value} {Q : Option Value → Shared → Prop} (he : IsEnum s.heap e it i old)
    (inner : ∀ (A' : Around) (Q' : Value → Shared → Prop) (E' : Value → Shared → Prop), A'.handled = A.handled → (∀ h' x, Heap.ExtBut it s.heap h' → (∃ o, h'.get? x = some o ∧ o.cls = .type "StopIteration") → E' (.ref x) { s with heap := h' }) →
      wpAny K.M A' (Builtin.SmallTypes.nextOf (.ref it)) Q' E' s) (hQ : ∀ h', Heap.ExtBut it s.heap h' → Q none { s with heap := h' }) :
    wpAny K.M A (pyNext (.ref e)) Q E s := by
  have hT : s.TypeIs (.ref e) "enumerate" := ⟨_, he, rfl⟩
  unfold pyNext
  refine wpAny_bind (wpAny_attempt (wpAny_callSpecial?_slot (name := Str.ofString "__next__") hT PySem.F.slot_enumerate_next
    (wpAny_call_entry PySem.F.slot_enumerate_next hT PySem.F.entry_enumerate_next ?_ (PySem.F.args_enumerate_next_1 _))))
  show wpAny _ _ (field (.ref e) 2 >>= _) _ _ _
  refine wpAny_bind (wpAny_field he rfl (x := .ref it) rfl ?_)
  refine wpAny_bind (inner _ _ _ rfl fun h' x he' hx' => ?_)
  obtain ⟨o, ho, hc⟩ := hx'
  refine wpAny_bind (wpAny_isInstance (T := "StopIteration") (b := true) ⟨o, ho, hc⟩ isSubtype_stop ?_)
  exact wpAny_pure (hQ _ he')

/-- enumerate over what hands the data on, one object (it) its state -/
theorem iter_enum {e it : Addr} {T : String} (St : Nat → Shared → Prop) (hWN : ∀ a, W a → N a) (hTN : ∀ a, K.Tb a → N a) (hfN : ∀ a, fp a → N a) (hef : fp e) (hif : fp it) (hne : e ≠ it)
    (hge : K.g0.get? e = none) (heT : ¬ K.Tb e) (hgi : K.g0.get? it = none) (hiT : ¬ K.Tb it) (heW : ¬ W e) (hT2 : T ≠ "code" ∧ T ≠ "function") (all : List D)
    (hfr : ∀ i s s', St i s → Ext K W no s s' → St i s') (hfe : ∀ i s h' tk, St i s → (∀ b o, b ≠ e → s.heap.get? b = some o → h'.get? b = some o) → St i { s with heap := h', toks := tk })
    (hcls : ∀ i s, St i s → ∃ o, s.heap.get? it = some o ∧ o.cls = .type T)
    (hitem : ∀ i d, all[i]? = some d → ∀ (A : Around) (Q : Value → Shared → Prop) (E : Value → Shared → Prop) (s : Shared), St i s →
      (∀ v h' tk, Heap.SameBut it s.heap h' → St (i + 1) { s with heap := h', toks := tk } → Rep N h' d v → Q v { s with heap := h', toks := tk }) → wpAny K.M A (Builtin.SmallTypes.nextOf (.ref it)) Q E s)
    (hend : ∀ (A : Around) (Q : Value → Shared → Prop) (E : Value → Shared → Prop) (s : Shared), A.handled = none → St all.length s →
      (∀ h' x, Heap.ExtBut it s.heap h' → (∃ o, h'.get? x = some o ∧ o.cls = .type "StopIteration") → E (.ref x) { s with heap := h' }) → wpAny K.M A (Builtin.SmallTypes.nextOf (.ref it)) Q E s) :
    ∀ (ds : List D) (i : Nat) (s : Shared) (old : Value), ds = all.drop i → i ≤ all.length → St i s → IsEnum s.heap e it i old → (∀ a, N a → a < s.heap.objs.size) →
      IterOK K n W N fp V true (.ref e) (ds.zipIdx i |>.map fun p => .tup [.int p.2, p.1]) s := by
  intro ds
  induction ds with
  | nil =>
    intro i s old hd hle hst he hal A Q E s' R x inv hQ
    have hi : i = all.length := by
      have := congrArg List.length hd
      rw [List.length_nil, List.length_drop] at this
      omega
    subst hi
    have hst' := hfr _ _ _ hst x
    have he' : IsEnum s'.heap e it _ old := x.heap _ _ heW heT he
    obtain ⟨o, eo, hc⟩ := hcls _ _ hst'
    refine wpAny_gr (enum_stop he' (fun A' Q' E' hA hE => hend A' Q' E' s' (hA.trans R.hh) hst' hE) fun h' hx g => hQ _ (Ext.but1 (tk := s'.toks) eo (ns_c hc hT2) hif hgi hiT hx g.1))
  | cons d ds ih =>
    intro i s old hd hle hst he hal A Q E s' R x inv hQ
    have hlt : i < all.length := by
      have := congrArg List.length hd
      rw [List.length_cons, List.length_drop] at this
      omega
    rw [List.drop_eq_getElem_cons hlt] at hd
    injection hd with hd1 hd2
    have hx : all[i]? = some d := by rw [List.getElem?_eq_getElem hlt, hd1]
    have hst' := hfr _ _ _ hst x
    have he' : IsEnum s'.heap e it i old := x.heap _ _ heW heT he
    obtain ⟨o, eo, hc⟩ := hcls _ _ hst'
    have hfresh : ¬ N s'.heap.objs.size := fun q => Nat.lt_irrefl _ (Nat.lt_of_lt_of_le (hal _ q) x.size)
    have hel : e < s'.heap.objs.size := Heap.lt_size he'
    have hil : it < s'.heap.objs.size := Heap.lt_size eo
    refine enum_pull he' hne fun A' Q' E' hq => hitem i d hx A' Q' E' s' hst' fun v h' tk hs hst2 hr => hq v h' tk hs fun h₂ tk₂ heo hk ht hz => ?_
    have k2 : ∀ b o, b ≠ e → b ≠ it → s'.heap.get? b = some o → h₂.get? b = some o := fun b o b1 b2 q => hk b o b1 (hs.extBut b o b2 q)
    have X : Ext K fp V s' { s' with heap := h₂, toks := tk₂ } := {
      heap := fun b o hb _ q => k2 b o (fun w => hb (w ▸ hef)) (fun w => hb (w ▸ hif)) q
      inv := fun inv => ⟨fun b o q => k2 b o (fun w => by rw [w, hge] at q; cases q) (fun w => by rw [w, hgi] at q; cases q) (inv.keep b o q), Nat.le_trans inv.low (by show _ ≤ h₂.objs.size; omega), inv.bare, K.tabKeep _ _ (fun b o q hbo => k2 b o (fun w => by
          subst w
          rcases hbo with h1 | h1
          · exact heT h1
          · rw [he'] at q; cases q; exact ns_c (o := _) rfl (by decide) h1) (fun w => by
          subst w
          rcases hbo with h1 | h1
          · exact hiT h1
          · rw [eo] at q; cases q
            exact ns_c hc hT2 h1) q) inv.tab⟩
      size := by show _ ≤ h₂.objs.size; omega
      gsize := Nat.le_refl _
      gens := fun _ _ _ => rfl
      os := rfl }
    have hr2 : Rep N h₂ d v := hr.keep (fun _ _ q => q) fun b o hb q => hk b o (fun w => hb (w ▸ hfN _ hef)) q
    have rt : Rep N h₂ (.tup [.int i, d]) (.ref s'.heap.objs.size) := .tup hfresh ⟨_, ht, rfl, _, rfl⟩ (.cons (.int _ _) (.cons hr2 .nil))
    have hstA : ∀ h₃ tk₃, (∀ b o, b ≠ e → h₂.get? b = some o → h₃.get? b = some o) → St (i + 1) { s' with heap := h₃, toks := tk₃ } := fun h₃ tk₃ k3 => hfe (i + 1) { s' with heap := h', toks := tk } h₃ tk₃ hst2 fun b o b1 q => k3 b o b1 (hk b o b1 q)
    refine hQ _ _ X rt fun target A Q E ht hq => ?_
    have go : ∀ (es : List Expr) (k : Nat) (p : Pos), wpAny K.M A (letOwnedTupleGo (.Tuple es k p) (.ref e) (.ref s'.heap.objs.size)) Q E { s' with heap := h₂, toks := tk₂ } := fun es k p =>
      wpAny_letOwnedTupleGo_enum heo fun h₃ he₃ hs₃ => by
        have X3 : Ext K fp V { s' with heap := h₂, toks := tk₂ } { s' with heap := h₃, toks := tk₂ } := Ext.at1 heo (ns_c rfl (by decide)) hef hge heT hs₃
        refine hq _ X3 (rt.ext X3 hfN hTN) ?_
        have e9 : ((i + 1 : Nat) : Int) = (i : Int) + 1 := by omega
        have := ih (i + 1) { s' with heap := h₃, toks := tk₂ } v hd2 hlt (hstA h₃ tk₂ fun b o b1 q => hs₃.extBut b o b1 q) (by rw [e9]; exact he₃) (fun a ha => Nat.lt_of_lt_of_le (Nat.lt_of_lt_of_le (hal a ha) x.size) (by
          show s'.heap.objs.size ≤ h₃.objs.size
          have e5 := hs₃.1
          have : ({ s' with heap := h₂, toks := tk₂ } : Shared).heap.objs.size = h₂.objs.size := rfl
          omega))
        exact this
    cases target with
    | Tuple es k p => exact go es k p
    | _ => exact absurd ht (by intro w; cases w)
end
end

/-! # part F10 -/
section
section
variable {K : Cx} {n : Nat} {F : Fm} {P : Out → Prop}

/-- an address made behind a state of the frame -/
theorem fresh_facts {s : Shared} (hF : FrOK K F s) {a : Addr} (h : s.heap.objs.size ≤ a) : ¬ F.W a ∧ ¬ F.N a ∧ K.g0.get? a = none ∧ ¬ K.Tb a := by
  have hn : ¬ F.N a := fun q => Nat.lt_irrefl _ (Nat.lt_of_lt_of_le (hF.alloc a q) h)
  have hl := hF.inv.low
  refine ⟨fun q => hn (hF.ok.WN a q), hn, ?_, fun q => ?_⟩
  · cases e : K.g0.get? a with
    | none => rfl
    | some o =>
      have := Heap.lt_size e
      exact absurd (Nat.lt_of_lt_of_le this (Nat.le_trans hl h)) (Nat.lt_irrefl _)
  · exact absurd (Nat.lt_of_lt_of_le (K.tbLow a q) (Nat.le_trans hl h)) (Nat.lt_irrefl _)

theorem rep_lt {N : Addr → Prop} {h : Heap} {ds : List D} {a : Addr} (r : Rep N h (.list ds) (.ref a)) : a < h.objs.size := by
  cases r with
  | list _ l _ => obtain ⟨k, e⟩ := l; exact Heap.lt_size e

/-- what an iterator leans on is not changed -/
theorem notW {W : Addr → Prop} {a z : Addr} (h : ∀ a, W a → F.W a ∨ z ≤ a) (h1 : ¬ F.W a) (h2 : a < z) : ¬ W a := fun q => (h a q).elim h1 fun q => absurd h2 (Nat.not_lt.mpr q)
theorem repsN {N fp : Addr → Prop} {h : Heap} {ds : List D} {vs : List Value} {z : Nat} (r : Reps F.N h ds vs) (hN : ∀ a, N a → F.N a ∨ fp a ∨ z ≤ a) (hf : ∀ a, fp a → h.objs.size ≤ a) (hz : h.objs.size ≤ z) : Reps N h ds vs :=
  Reps.keep (fun a hs q => by
    obtain ⟨o, e⟩ := Option.isSome_iff_exists.mp hs
    have hl := Heap.lt_size e
    rcases hN a q with q | q | q
    · exact q
    · exact absurd hl (Nat.not_lt.mpr (hf a q))
    · exact absurd hl (Nat.not_lt.mpr (Nat.le_trans hz q))) (fun _ _ _ e => e) r

theorem fn_left {N fp : Addr → Prop} {h : Heap} {ds : List D} {vs : List Value} {z : Nat} (r : Reps N h ds vs) (hz : h.objs.size ≤ z) (hf : ∀ a, fp a → z ≤ a) : Reps (fun a => N a ∨ fp a) h ds vs :=
  Reps.keep (fun a hs q => q.elim id fun q => by
    obtain ⟨o, e⟩ := Option.isSome_iff_exists.mp hs
    have := Heap.lt_size e
    have := hf a q
    exact absurd (Nat.lt_of_lt_of_le ‹a < _› (Nat.le_trans hz this)) (Nat.lt_irrefl _)) (fun _ _ _ e => e) r

theorem itr_list {e : Expr} {tup : Bool} {ds : List D} (h : Ev K n F e (.list ds)) : Itr K n F e tup ds := fun R hF hQ =>
  h R hF fun v s₁ x₁ r₁ => by
    have hF1 := hF.ext0 x₁
    cases r₁ with
    | list n1 l1 r1 =>
      rename_i l its
      refine wpAny_pyIter_list l1.isList ?_
      obtain ⟨f1, f2, f3, f4⟩ := fresh_facts hF1 (Nat.le_refl s₁.heap.objs.size)
      have k1 : ∀ b o, s₁.heap.get? b = some o → (s₁.heap.push { cls := .type "list_iterator", data := .fields #[.ref l, .int 0 0] }).get? b = some o := fun b o e => Heap.get?_push_of_some _ e
      have X : E0 K s₁ { s₁ with heap := s₁.heap.push { cls := .type "list_iterator", data := .fields #[.ref l, .int 0 0] } } := E0.grow (tk := s₁.toks) k1 (by rw [Heap.size_push]; omega)
      have hit : (s₁.heap.push { cls := .type "list_iterator", data := .fields #[.ref l, .int 0 0] }).IsListIter s₁.heap.objs.size l 0 := ⟨_, Heap.get?_push_size _ rfl, rfl, rfl⟩
      have hl : l < s₁.heap.objs.size := by obtain ⟨k, e⟩ := l1; exact Heap.lt_size e
      refine hQ _ (· = s₁.heap.objs.size) no _ (x₁.trans X) (fun a q => by subst q; exact ⟨x₁.size, by show _ < (s₁.heap.push _).objs.size; rw [Heap.size_push]; omega⟩) (fun _ q => q.elim) ?_ ?_
      · intro W N s'' X2 w1 w2 w3 w4 w5 w6
        have hz : (s₁.heap.push { cls := .type "list_iterator", data := .fields #[.ref l, .int 0 0] }).objs.size = s₁.heap.objs.size + 1 := Heap.size_push ..
        have k2 := fun (b : Addr) (o : Obj) (hb : ¬ K.Tb b) e => X2.heap b o (fun q => q) hb (k1 b o e)
        obtain ⟨oi, ei, ri⟩ := hit
        exact iter_list w2 (fun a q => w3 a (hF.ok.TN a q)) w4 rfl (notW w1 f1 (by show _ < (s₁.heap.push _).objs.size; rw [hz]; exact Nat.lt_succ_self _)) f3 f4
          (notW w1 (fun q => n1 (hF.ok.WN _ q)) (by show _ < (s₁.heap.push _).objs.size; rw [hz]; exact Nat.lt_succ_of_lt hl)) (fun q => n1 (hF.ok.TN _ q)) (Nat.ne_of_lt hl) ⟨oi, X2.heap _ _ (fun q => q) f4 ei, ri⟩
          (by obtain ⟨k, e⟩ := l1; exact ⟨_, k2 _ _ (fun q => n1 (hF.ok.TN _ q)) e, rfl, k, rfl⟩)
          (Reps.keep (fun _ _ q => q) (fun b o hb e => k2 b o (fun q => hb (w3 _ (hF.ok.TN _ q))) e) (repsN r1 w5 (fun a q => Nat.le_of_eq q.symm) (by show _ ≤ (s₁.heap.push _).objs.size; rw [hz]; exact Nat.le_succ _)))
      · intro A Q E s' X' hq
        obtain ⟨o, e, r⟩ := hit
        exact wpAny_pyIter_listiter (l := l) (i := 0) ⟨o, X'.heap _ _ (fun q => q) f4 e, r⟩ hq

theorem itr_str {e : Expr} {tup : Bool} {x : Str} (h : Ev K n F e (.str x)) : Itr K n F e tup (x.cps.toList.map fun c => .str ⟨#[c]⟩) := fun R hF hQ =>
  h R hF fun v s₁ x₁ r₁ => by
    have hF1 := hF.ext0 x₁
    cases r₁ with
    | str _ t =>
      refine wpAny_pyIter_strU ?_
      obtain ⟨f1, f2, f3, f4⟩ := fresh_facts hF1 (Nat.le_refl s₁.heap.objs.size)
      have k1 : ∀ b o, s₁.heap.get? b = some o → (s₁.heap.push { cls := .type (strIterType x), data := .fields #[.str x t, .int 0 0] }).get? b = some o := fun b o e => Heap.get?_push_of_some _ e
      have X : E0 K s₁ { s₁ with heap := s₁.heap.push { cls := .type (strIterType x), data := .fields #[.str x t, .int 0 0] } } := E0.grow (tk := s₁.toks) k1 (by rw [Heap.size_push]; omega)
      have hit : (s₁.heap.push { cls := .type (strIterType x), data := .fields #[.str x t, .int 0 0] }).IsStrIter s₁.heap.objs.size (strIterType x) x t 0 := ⟨_, Heap.get?_push_size _ rfl, rfl, rfl⟩
      refine hQ _ (· = s₁.heap.objs.size) no _ (x₁.trans X) (fun a q => by subst q; exact ⟨x₁.size, by show _ < (s₁.heap.push _).objs.size; rw [Heap.size_push]; omega⟩) (fun _ q => q.elim) ?_ ?_
      · intro W N s'' X2 w1 w2 w3 w4 w5 w6
        obtain ⟨oi, ei, ri⟩ := hit
        exact iter_str w2 (fun a q => w3 a (hF.ok.TN a q)) w4 rfl (notW w1 f1 (by show _ < (s₁.heap.push _).objs.size; rw [Heap.size_push]; exact Nat.lt_succ_self _)) f3 f4 ⟨oi, X2.heap _ _ (fun q => q) f4 ei, ri⟩
      · intro A Q E s' X' hq
        obtain ⟨o, e, r⟩ := hit
        have hit' : s'.heap.IsStrIter s₁.heap.objs.size (strIterType x) x t 0 := ⟨o, X'.heap _ _ (fun q => q) f4 e, r⟩
        unfold strIterType at hit'
        split at hit'
        · exact wpAny_pyIter_striter_ascii hit' hq
        · exact wpAny_pyIter_striter_wide hit' hq

/-- a call of a built-in type by its name -/
theorem call_type {x : Str} {p pos : Pos} {es : List Expr} {ds : List D} {T : String} (hm : x ∈ F.gl) (hg : K.Gl x (.type T)) (ha : Evs K n F es ds) {A : Around} {s : Shared} {Q : Value → Shared → Prop} {E : Value → Shared → Prop} (R : Room A n) (hF : FrOK K F s)
    (hQ : ∀ vs s', E0 K s s' → Reps F.N s'.heap ds vs → wpAny K.M A (call (.type T) vs) Q E s') : wpAny K.M A (eval (.Call (.Name x p) es [] pos) F.env) Q E s :=
  Call_ (load_gl hF hm hg (PySem.callWith_type (star_any ha) (evalArgs_run ha R hF fun vs s₁ x₁ r₁ => hQ vs s₁ x₁ r₁)))

theorem range_from {a m : Int} {tup : Bool} {r : Addr} {t u v : Tok} {b : Int} {A : Around} {s s₁ : Shared} {Q : Value → Shared → Prop} {E : Value → Shared → Prop} (hF : FrOK K F s) (x₁ : E0 K s s₁) (hr : IsRange s₁.heap r a b 1 t u v) (hm : m = if a < b then b - a else 0)
    (hb1 : -(2 ^ 62) ≤ a) (hb2 : a < 2 ^ 62) (hb3 : -(2 ^ 62) ≤ b) (hb4 : b < 2 ^ 62)
    (hQ : ∀ it fp V s', E0 K s s' → (∀ a, fp a → s.heap.objs.size ≤ a ∧ a < s'.heap.objs.size) → (∀ g, V g → s.gens.size ≤ g) → ItAll K n F fp V tup it ((List.range m.toNat).map fun (i : Nat) => .int (a + i)) s' → SelfIt K it s' → Q it s') :
    wpAny K.M A (pyIter (.ref r)) Q E s₁ := by
  have hF1 := hF.ext0 x₁
  refine wpAny_pyIter_range hr (small_one hb1 hb2 hb3 hb4) ?_
  obtain ⟨f1, f2, f3, f4⟩ := fresh_facts hF1 (Nat.le_refl s₁.heap.objs.size)
  have hsz : Builtin.Range.rangeSize a b 1 = m := by rw [rangeSize_one, hm]
  rw [hsz]
  have X : E0 K s₁ { s₁ with heap := s₁.heap.push { cls := .type "range_iterator", data := .fields #[rawInt a, rawInt m, rawInt 1] } } := E0.grow (tk := s₁.toks) (fun b o e => Heap.get?_push_of_some _ e) (by rw [Heap.size_push]; omega)
  have hit : IsRangeIter (s₁.heap.push { cls := .type "range_iterator", data := .fields #[rawInt a, rawInt m, rawInt 1] }) s₁.heap.objs.size a m 1 := Heap.get?_push_size _ rfl
  refine hQ _ (· = s₁.heap.objs.size) no _ (x₁.trans X) (fun a q => by subst q; exact ⟨x₁.size, by show _ < (s₁.heap.push _).objs.size; rw [Heap.size_push]; omega⟩) (fun _ q => q.elim) ?_ ?_
  · intro W N s'' X2 w1 w2 w3 w4 w5 w6
    exact iter_range (by rw [hm]; split <;> omega) w2 (fun a q => w3 a (hF.ok.TN a q)) w4 rfl (notW w1 f1 (by show _ < (s₁.heap.push _).objs.size; rw [Heap.size_push]; exact Nat.lt_succ_self _)) f3 f4 (X2.heap _ _ (fun q => q) f4 hit)
  · intro A Q E s' X' hq
    exact wpAny_pyIter_rangeiter (X'.heap _ _ (fun q => q) f4 hit) hq

theorem itr_range1 {x : Str} {p pos : Pos} {e : Expr} {tup : Bool} {b : Int} (hm : x ∈ F.gl) (hg : K.Gl x (.type "range")) (he : Evs K n F [e] [.int b]) (h0 : 0 ≤ b) (h1 : b ≤ 2 ^ 40) :
    Itr K n F (.Call (.Name x p) [e] [] pos) tup ((List.range b.toNat).map fun (i : Nat) => .int (0 + i)) := fun R hF hQ =>
  call_type hm hg he R hF fun vs s₁ x₁ r₁ => by
    cases r₁ with
    | cons r1 r2 =>
    cases r2
    cases r1
    rename_i t
    refine call_range_1 ?_
    have X : E0 K s₁ { s₁ with heap := s₁.heap.push { cls := .type "range", data := .fields #[.int 0 s₁.toks, .int b t, .int 1 (s₁.toks + 1)] }, toks := s₁.toks + 1 + 1 } := E0.grow (fun b o e => Heap.get?_push_of_some _ e) (by rw [Heap.size_push]; omega)
    have hm : b.toNat = (if (0 : Int) < b then b - 0 else 0).toNat := by split <;> omega
    rw [hm] at hQ
    exact range_from hF (x₁.trans X) (IsRange.new ..) rfl (by omega) (by omega) (by omega) (by omega) hQ

theorem itr_range2 {x : Str} {p pos : Pos} {e₁ e₂ : Expr} {tup : Bool} {a b : Int} (hm : x ∈ F.gl) (hg : K.Gl x (.type "range")) (he : Evs K n F [e₁, e₂] [.int a, .int b]) (h0 : 0 ≤ a) (h1 : a ≤ b) (h2 : b ≤ 2 ^ 40) :
    Itr K n F (.Call (.Name x p) [e₁, e₂] [] pos) tup ((List.range (b - a).toNat).map fun (i : Nat) => .int (a + i)) := fun R hF hQ =>
  call_type hm hg he R hF fun vs s₁ x₁ r₁ => by
    cases r₁ with
    | cons r1 r2 =>
    cases r2 with
    | cons r2 r3 =>
    cases r3
    cases r1
    cases r2
    rename_i t u
    refine call_range_2 ?_
    have X : E0 K s₁ { s₁ with heap := s₁.heap.push { cls := .type "range", data := .fields #[.int a t, .int b u, .int 1 s₁.toks] }, toks := s₁.toks + 1 } := E0.grow (fun b o e => Heap.get?_push_of_some _ e) (by rw [Heap.size_push]; omega)
    have hm : (b - a).toNat = (if a < b then b - a else 0).toNat := by split <;> omega
    rw [hm] at hQ
    exact range_from hF (x₁.trans X) (IsRange.new ..) rfl (by omega) (by omega) (by omega) (by omega) hQ

theorem itr_rev {x : Str} {p pos : Pos} {e : Expr} {tup : Bool} {ds : List D} (hm : x ∈ F.gl) (hg : K.Gl x (.type "reversed")) (he : Evs K n F [e] [.list ds]) :
    Itr K n F (.Call (.Name x p) [e] [] pos) tup ds.reverse := fun R hF hQ =>
  call_type hm hg he R hF fun vs s₁ x₁ r₁ => by
    have hF1 := hF.ext0 x₁
    cases r₁ with
    | cons r1 r2 =>
    cases r2
    cases r1 with
    | list n1 l1 r1 =>
    rename_i l its
    refine call_reversed_list l1.isList ?_
    obtain ⟨f1, f2, f3, f4⟩ := fresh_facts hF1 (Nat.le_refl s₁.heap.objs.size)
    have k1 : ∀ b o, s₁.heap.get? b = some o → (s₁.heap.push (revObj l ((its.size : Int) - 1))).get? b = some o := fun b o e => Heap.get?_push_of_some _ e
    have X : E0 K s₁ { s₁ with heap := s₁.heap.push (revObj l ((its.size : Int) - 1)) } := E0.grow (tk := s₁.toks) k1 (by rw [Heap.size_push]; omega)
    have hit : (s₁.heap.push (revObj l ((its.size : Int) - 1))).IsRevIter s₁.heap.objs.size l ((its.size : Int) - 1) := ⟨_, Heap.get?_push_size _ rfl, rfl, rfl⟩
    have hl : l < s₁.heap.objs.size := by obtain ⟨k, e⟩ := l1; exact Heap.lt_size e
    refine wpAny_pyIter_revIter hit (hQ _ (· = s₁.heap.objs.size) no _ (x₁.trans X) (fun a q => by subst q; exact ⟨x₁.size, by show _ < (s₁.heap.push _).objs.size; rw [Heap.size_push]; omega⟩) (fun _ q => q.elim) ?_ ?_)
    · intro W N s'' X2 w1 w2 w3 w4 w5 w6
      have hz : (s₁.heap.push (revObj l ((its.size : Int) - 1))).objs.size = s₁.heap.objs.size + 1 := Heap.size_push ..
      have k2 := fun (b : Addr) (o : Obj) (hb : ¬ K.Tb b) e => X2.heap b o (fun q => q) hb (k1 b o e)
      obtain ⟨oi, ei, ri⟩ := hit
      exact iter_rev w2 (fun a q => w3 a (hF.ok.TN a q)) w4 rfl (notW w1 f1 (by show _ < (s₁.heap.push _).objs.size; rw [hz]; exact Nat.lt_succ_self _)) f3 f4
        (notW w1 (fun q => n1 (hF.ok.WN _ q)) (by show _ < (s₁.heap.push _).objs.size; rw [hz]; exact Nat.lt_succ_of_lt hl)) (fun q => n1 (hF.ok.TN _ q)) (Nat.ne_of_lt hl) ⟨oi, X2.heap _ _ (fun q => q) f4 ei, ri⟩
        (by obtain ⟨k, e⟩ := l1; exact ⟨_, k2 _ _ (fun q => n1 (hF.ok.TN _ q)) e, rfl, k, rfl⟩)
        (Reps.keep (fun _ _ q => q) (fun b o hb e => k2 b o (fun q => hb (w3 _ (hF.ok.TN _ q))) e) (repsN r1 w5 (fun a q => Nat.le_of_eq q.symm) (by show _ ≤ (s₁.heap.push _).objs.size; rw [hz]; exact Nat.le_succ _)))
    · intro A Q E s' X' hq
      obtain ⟨o, e, r⟩ := hit
      exact wpAny_pyIter_revIter (l := l) (i := (its.size : Int) - 1) ⟨o, X'.heap _ _ (fun q => q) f4 e, r⟩ hq
end
end

/-! # part F11 -/
section
section
variable {K : Cx} {n : Nat} {F : Fm} {P : Out → Prop}

noncomputable def enumD (ds : List D) : List D := ds.zipIdx.map fun p => .tup [.int p.2, p.1]

theorem self_enum {s : Shared} {e it : Addr} {i : Int} {old : Value} (he : IsEnum s.heap e it i old) (ht : ¬ K.Tb e) : SelfIt K (.ref e) s := fun A Q E s' X hq => wpAny_pyIter_enum (X.heap _ _ (fun q => q) ht he) hq

theorem itr_enum_list {x : Str} {p pos : Pos} {e : Expr} {ds : List D} (hm : x ∈ F.gl) (hg : K.Gl x (.type "enumerate")) (he : Evs K n F [e] [.list ds]) :
    Itr K n F (.Call (.Name x p) [e] [] pos) true (enumD ds) := fun R hF hQ =>
  call_type hm hg he R hF fun vs s₁ x₁ r₁ => by
    have hF1 := hF.ext0 x₁
    cases r₁ with
    | cons r1 r2 =>
    cases r2
    cases r1 with
    | list n1 l1 r1 =>
    rename_i l its
    refine call_enumerate_list l1.isList fun h' hen hit hz hk => ?_
    have X : E0 K s₁ { s₁ with heap := h' } := E0.grow (tk := s₁.toks) hk (by omega)
    obtain ⟨f1, f2, f3, f4⟩ := fresh_facts hF1 (Nat.le_refl s₁.heap.objs.size)
    obtain ⟨g1, g2, g3, g4⟩ := fresh_facts hF1 (Nat.le_succ s₁.heap.objs.size)
    have hl : l < s₁.heap.objs.size := by obtain ⟨k, e⟩ := l1; exact Heap.lt_size e
    refine wpAny_pyIter_enum hen (hQ _ (fun a => a = s₁.heap.objs.size + 1 ∨ a = s₁.heap.objs.size) no _ (x₁.trans X) (fun a q => ?_) (fun _ q => q.elim) ?_ (self_enum hen g4))
    · have := x₁.size
      show _ ∧ a < h'.objs.size
      rcases q with rfl | rfl <;> exact ⟨by omega, by omega⟩
    · intro W N s'' X2 w1 w2 w3 w4 w5 w6
      have k2 : ∀ b o, ¬ K.Tb b → h'.get? b = some o → s''.heap.get? b = some o := fun b o hb e => X2.heap b o (fun q => q) hb e
      have lT : ¬ K.Tb l := fun q => n1 (hF.ok.TN _ q)
      have z1 : s₁.heap.objs.size + 1 < h'.objs.size := by rw [hz]; exact Nat.lt_succ_self _
      have z0 : s₁.heap.objs.size < h'.objs.size := by rw [hz]; exact Nat.lt_of_lt_of_le (Nat.lt_succ_self _) (Nat.le_succ _)
      have e1 : ¬ W (s₁.heap.objs.size + 1) := notW w1 g1 z1
      have e0 : ¬ W s₁.heap.objs.size := notW w1 f1 z0
      have el : ¬ W l := notW w1 (fun q => n1 (hF.ok.WN _ q)) (Nat.lt_trans hl z0)
      have hTN : ∀ a, K.Tb a → N a := fun a q => w3 a (hF.ok.TN a q)
      have hl' : s''.heap.IsList l its := by obtain ⟨k, e⟩ := l1; exact ⟨_, k2 _ _ lT (hk _ _ e), rfl, k, rfl⟩
      have hit' : s''.heap.IsListIter s₁.heap.objs.size l 0 := by obtain ⟨o, e, r⟩ := hit; exact ⟨o, k2 _ _ f4 e, r⟩
      refine iter_enum (N := N) (T := "list_iterator") (fun i s => s.heap.IsListIter s₁.heap.objs.size l i ∧ s.heap.IsList l its ∧ Reps N s.heap ds its.toList)
        w2 hTN w4 (.inl rfl) (.inr rfl) (Nat.succ_ne_self _) g3 g4 f3 f4 e1 (by decide) ds ?_ ?_ ?_ ?_ ?_ ds 0 _ .none rfl (Nat.zero_le _) ⟨hit', hl', ?_⟩ (k2 _ _ g4 hen) w6
      · rintro i s s' ⟨⟨o, e, r⟩, b, c⟩ x
        exact ⟨⟨o, x.heap _ _ e0 f4 e, r⟩, ext_list x b el lT, c.ext x w2 hTN⟩
      · rintro i s h₂ tk ⟨⟨o, e, r⟩, ⟨o2, e2, r2⟩, c⟩ k2
        exact ⟨⟨o, k2 _ _ (Nat.ne_of_lt (Nat.lt_succ_self _)) e, r⟩, ⟨o2, k2 _ _ (Nat.ne_of_lt (Nat.lt_succ_of_lt hl)) e2, r2⟩, Reps.keep (fun _ _ q => q) (fun b o hb e => k2 b o (fun w => hb (w4 _ (.inl w))) e) c⟩
      · rintro i s ⟨⟨o, e, r, _⟩, _, _⟩
        exact ⟨o, e, r⟩
      · rintro i d hx A Q E s ⟨a, b, c⟩ hQ
        obtain ⟨v, hv, rv⟩ := c.get hx
        refine wpAny_nextOf_list_item a b (by rw [← Array.getElem?_toList]; exact hv) fun h' a' hs => ?_
        have kk : ∀ b o, ¬ N b → s.heap.get? b = some o → h'.get? b = some o := fun b o hb e => hs.extBut b o (fun q => hb (w4 _ (.inr q))) e
        exact hQ v h' s.toks hs ⟨a', b.extBut hs.extBut (Nat.ne_of_lt hl), Reps.keep (fun _ _ q => q) kk c⟩ (rv.keep (fun _ _ q => q) kk)
      · rintro A Q E s hh ⟨a, b, c⟩ hE
        exact wpAny_nextOf_list_end hh a b (Array.getElem?_eq_none (by rw [← Array.length_toList, ← c.length]; exact Nat.le_refl _)) hE
      · exact Reps.keep (fun _ _ q => q) (fun b o hb e => k2 b o (fun q => hb (hTN _ q)) (hk b o e)) (repsN r1 w5 (fun a q => q.elim (fun e => e ▸ Nat.le_succ _) (fun e => e ▸ Nat.le_refl _)) (Nat.le_of_lt z0))

theorem itr_enum_str {x : Str} {p pos : Pos} {e : Expr} {y : Str} (hm : x ∈ F.gl) (hg : K.Gl x (.type "enumerate")) (he : Evs K n F [e] [.str y]) :
    Itr K n F (.Call (.Name x p) [e] [] pos) true (enumD (y.cps.toList.map fun c => .str ⟨#[c]⟩)) := fun R hF hQ =>
  call_type hm hg he R hF fun vs s₁ x₁ r₁ => by
    have hF1 := hF.ext0 x₁
    cases r₁ with
    | cons r1 r2 =>
    cases r2
    cases r1
    rename_i t
    refine call_enumerate_str fun h' hen hit hz hk => ?_
    have X : E0 K s₁ { s₁ with heap := h' } := E0.grow (tk := s₁.toks) hk (by omega)
    obtain ⟨f1, f2, f3, f4⟩ := fresh_facts hF1 (Nat.le_refl s₁.heap.objs.size)
    obtain ⟨g1, g2, g3, g4⟩ := fresh_facts hF1 (Nat.le_succ s₁.heap.objs.size)
    refine wpAny_pyIter_enum hen (hQ _ (fun a => a = s₁.heap.objs.size + 1 ∨ a = s₁.heap.objs.size) no _ (x₁.trans X) (fun a q => ?_) (fun _ q => q.elim) ?_ (self_enum hen g4))
    · have := x₁.size
      show _ ∧ a < h'.objs.size
      rcases q with rfl | rfl <;> exact ⟨by omega, by omega⟩
    · intro W N s'' X2 w1 w2 w3 w4 w5 w6
      have k2 : ∀ b o, ¬ K.Tb b → h'.get? b = some o → s''.heap.get? b = some o := fun b o hb e => X2.heap b o (fun q => q) hb e
      have z1 : s₁.heap.objs.size + 1 < h'.objs.size := by rw [hz]; exact Nat.lt_succ_self _
      have z0 : s₁.heap.objs.size < h'.objs.size := by rw [hz]; exact Nat.lt_of_lt_of_le (Nat.lt_succ_self _) (Nat.le_succ _)
      have e1 : ¬ W (s₁.heap.objs.size + 1) := notW w1 g1 z1
      have e0 : ¬ W s₁.heap.objs.size := notW w1 f1 z0
      have hTN : ∀ a, K.Tb a → N a := fun a q => w3 a (hF.ok.TN a q)
      have hit' : s''.heap.IsStrIter s₁.heap.objs.size (strIterType y) y t 0 := by obtain ⟨o, e, r⟩ := hit; exact ⟨o, k2 _ _ f4 e, r⟩
      refine iter_enum (N := N) (T := strIterType y) (fun i s => s.heap.IsStrIter s₁.heap.objs.size (strIterType y) y t i)
        w2 hTN w4 (.inl rfl) (.inr rfl) (Nat.succ_ne_self _) g3 g4 f3 f4 e1 (by unfold strIterType; split <;> decide) (y.cps.toList.map fun c => .str ⟨#[c]⟩) ?_ ?_ ?_ ?_ ?_ _ 0 _ .none rfl (Nat.zero_le _) hit' (k2 _ _ g4 hen) w6
      · rintro i s s' ⟨o, e, r⟩ x
        exact ⟨o, x.heap _ _ e0 f4 e, r⟩
      · rintro i s h₂ tk ⟨o, e, r⟩ k2
        exact ⟨o, k2 _ _ (Nat.ne_of_lt (Nat.lt_succ_self _)) e, r⟩
      · rintro i s ⟨o, e, r, _⟩
        exact ⟨o, e, r⟩
      · rintro i d hx A Q E s a hQ
        rw [List.getElem?_map, Option.map_eq_some_iff] at hx
        obtain ⟨c, hc, rfl⟩ := hx
        have hc' : y.cps[i]? = some c := by rw [← Array.getElem?_toList]; exact hc
        have fin : ∀ h', h'.IsStrIter s₁.heap.objs.size (strIterType y) y t (i + 1) → Heap.SameBut s₁.heap.objs.size s.heap h' → Q (.str ⟨#[c]⟩ s.toks) { s with heap := h', toks := s.toks + 1 } := fun h' b hs =>
          hQ _ h' _ hs b (.str _ _)
        unfold strIterType at a fin
        split at a
        · rename_i ha
          rw [if_pos ha] at fin
          exact wpAny_nextOf_ascii_item a hc' fin
        · rename_i ha
          rw [if_neg ha] at fin
          exact wpAny_nextOf_wide_item a hc' fin
      · rintro A Q E s hh a hE
        have hn : y.cps[(y.cps.toList.map fun c => D.str ⟨#[c]⟩).length]? = none := Array.getElem?_eq_none (by simp)
        unfold strIterType at a
        split at a
        · exact wpAny_nextOf_ascii_end hh a hn hE
        · exact wpAny_nextOf_wide_end hh a hn hE

/-- a frame whose lists must avoid more -/
abbrev Fm.more (F : Fm) (fp : Addr → Prop) : Fm := { F with N := fun a => F.N a ∨ fp a }

theorem FrOK.more {s s' : Shared} {fp : Addr → Prop} (h : FrOK K F s) (x : E0 K s s') (hfp : ∀ a, fp a → s.heap.objs.size ≤ a ∧ a < s'.heap.objs.size) : FrOK K (F.more fp) s' where
  ok := { h.ok with
    WN := fun a q => .inl (h.ok.WN a q)
    TN := fun a q => .inl (h.ok.TN a q)
    NoN := fun a q => .inl (h.ok.NoN a q)
    locs := h.ok.locs }
  inv := x.inv h.inv
  ns := by
    obtain ⟨m, hn, hv⟩ := h.ns
    obtain ⟨m', hn', hv'⟩ := (h.ext0 x).ns
    have tl := (h.ok.base _ h.ok.modL).2
    refine ⟨m, hn.at' fun o e => x.heap _ _ (fun q => q) tl e, fun p hp => ?_⟩
    have key : ∀ en w, (∀ a ds, en = .own a ds → ¬ K.Tb a) → EnOK F.N s.heap en w → EnOK (F.more fp).N s'.heap en w := fun en w ho hw => by
      have hN : ∀ a, (s.heap.get? a).isSome → (F.N a ∨ fp a) → F.N a := fun a hs q => q.elim id fun q => by
        obtain ⟨o, e⟩ := Option.isSome_iff_exists.mp hs
        exact absurd (Heap.lt_size e) (Nat.not_lt.mpr (hfp a q).1)
      have kk : ∀ b o, ¬ F.N b → s.heap.get? b = some o → s'.heap.get? b = some o := fun b o hb e => x.heap b o (fun q => q) (fun q => hb (h.ok.TN b q)) e
      cases en with
      | un => trivial
      | val d => obtain ⟨y, e, r⟩ := hw; exact ⟨y, e, r.keep hN kk⟩
      | raw y => exact hw
      | own a ds =>
        obtain ⟨e, hn, its, hl, hr⟩ := hw
        exact ⟨e, .inl hn, its, PlainList_keep hl fun o e => x.heap _ _ (fun q => q) (ho a ds rfl) e, Reps.keep hN kk hr⟩
    have hx := hv p hp
    have hl := h.ok.locs p hp
    have ho : ∀ a ds, p.en = .own a ds → ¬ K.Tb a := fun a ds e => (h.ok.base _ (h.ok.owns p hp a ds e).1).2
    unfold VarOK at hx ⊢
    cases hpl : p.loc with
    | loc => rw [hpl] at hx; exact key _ _ ho hx
    | cell c =>
      rw [hpl] at hx hl
      obtain ⟨v, ⟨o, e1, e2⟩, e4⟩ := hx
      exact ⟨v, ⟨o, x.heap _ _ (fun q => q) (h.ok.base _ hl.2.2.1).2 e1, e2⟩, key _ _ ho e4⟩
    | free c =>
      rw [hpl] at hx hl
      obtain ⟨v, ⟨o, e1, e2⟩, e4⟩ := hx
      exact ⟨v, ⟨o, x.heap _ _ (fun q => q) hl.2.2.1 e1, e2⟩, key _ _ ho e4⟩
  alloc := fun a q => q.elim (fun q => Nat.lt_of_lt_of_le (h.alloc a q) x.size) fun q => (hfp a q).2

/-- the frame again as it was, behind a loop -/
theorem FrOK.less {s : Shared} {fp : Addr → Prop} {ρ : List Var} (h : FrOK K ((F.more fp).at ρ) s) (hWN : ∀ a, F.W a → F.N a) (hTN : ∀ a, K.Tb a → F.N a) (hNo : ∀ a, F.No a → F.N a) (ho : ∀ p ∈ ρ, ∀ a ds, p.en = .own a ds → F.N a) : FrOK K (F.at ρ) s where
  ok := { h.ok with
    WN := hWN
    TN := hTN
    NoN := hNo
    locs := h.ok.locs }
  inv := h.inv
  ns := by
    obtain ⟨m, hn, hv⟩ := h.ns
    refine ⟨m, hn, fun p hp => ?_⟩
    have key : ∀ w, EnOK (F.more fp).N s.heap p.en w → EnOK F.N s.heap p.en w := fun w hw => by
      have ho' := ho p hp
      cases hpe : p.en with
      | un => trivial
      | val d => rw [hpe] at hw; obtain ⟨y, e, r⟩ := hw; exact ⟨y, e, r.keep (fun a _ q => .inl q) (fun _ _ _ e => e)⟩
      | raw y => rw [hpe] at hw; exact hw
      | own a ds =>
        rw [hpe] at hw
        obtain ⟨e, hn, its, hl, hr⟩ := hw
        exact ⟨e, ho' a ds hpe, its, hl, Reps.keep (fun a _ q => .inl q) (fun _ _ _ e => e) hr⟩
    have hx := hv p hp
    unfold VarOK at hx ⊢
    cases hpl : p.loc with
    | loc => rw [hpl] at hx; exact key _ hx
    | cell c => rw [hpl] at hx; obtain ⟨v, e1, e4⟩ := hx; exact ⟨v, e1, key _ e4⟩
    | free c => rw [hpl] at hx; obtain ⟨v, e1, e4⟩ := hx; exact ⟨v, e1, key _ e4⟩
  alloc := fun a q => h.alloc a (.inl q)
end
end

/-! # part F12 -/
section
section
variable {K : Cx} {n : Nat} {F : Fm} {P : Out → Prop}

noncomputable def Var.key (p : Var) : Str × Loc := (p.x, p.loc)

theorem key_back {ρ ρ' : List Var} (h : ρ'.map Var.key = ρ.map Var.key) {p : Var} (hp : p ∈ ρ') : ∃ q ∈ ρ, q.x = p.x ∧ q.loc = p.loc := by
  have : p.key ∈ ρ.map Var.key := h ▸ List.mem_map_of_mem hp
  obtain ⟨q, hq, e⟩ := List.mem_map.mp this
  exact ⟨q, hq, congrArg Prod.fst e, congrArg Prod.snd e⟩

/-- the addresses of a frame stand below a heap's end -/
structure Low (F : Fm) (ρ : List Var) (z : Nat) : Prop where
  loc : F.env.locals < z
  cell : ∀ p ∈ ρ, ∀ c, (p.loc = .cell c ∨ p.loc = .free c) → c < z
  N : ∀ a, F.N a → a < z

theorem FrOK.low {s : Shared} (h : FrOK K F s) : Low F F.ρ s.heap.objs.size where
  loc := by obtain ⟨m, hn, _⟩ := h.ns; exact hn.lt
  cell := fun p hp c hc => by
    obtain ⟨m, hn, hv⟩ := h.ns
    have hx := hv p hp
    unfold VarOK at hx
    rcases hc with hc | hc <;> (rw [hc] at hx; obtain ⟨v, e, _⟩ := hx; exact e.lt)
  N := h.alloc

theorem Low.shape {ρ ρ' : List Var} {z : Nat} (h : Low F ρ z) (hs : ρ'.map Var.key = ρ.map Var.key) : Low F ρ' z where
  loc := h.loc
  N := h.N
  cell := fun p hp c hc => by
    obtain ⟨q, hq, e1, e2⟩ := key_back hs hp
    exact h.cell q hq c (e2 ▸ hc)

/-- a pull leaves the frame as it is -/
theorem FrOK.pulled {s s' : Shared} {fp : Addr → Prop} {V : Nat → Prop} {ρ : List Var} {z : Nat} (h : FrOK K ((F.more fp).at ρ) s) (x : Ext K fp V s s') (hz : ∀ a, fp a → z ≤ a) (hl : Low F ρ z) (hWN : ∀ a, F.W a → F.N a) : FrOK K ((F.more fp).at ρ) s' :=
  h.ext x (fun a q => .inr q) (fun q => absurd hl.loc (Nat.not_lt.mpr (hz _ q))) (fun p hp c hc q => absurd (hl.cell p hp c hc) (Nat.not_lt.mpr (hz _ q)))
    (fun p hp a ds e q => absurd (hl.N _ (hWN _ (h.ok.owns p hp a ds e).1)) (Nat.not_lt.mpr (hz _ q)))

theorem stm_for {target iter : Expr} {body : List Stmt} {pos : Pos} {tup : Bool} {ds : List D} (ρs ρt : Nat → List Var) (hi : Itr K n F iter tup ds) (ht : TgtOK tup target) (h0 : ρs 0 = F.ρ)
    (hsh : ∀ i, (ρs i).map Var.key = F.ρ.map Var.key) (hsh' : ∀ i, (ρt i).map Var.key = F.ρ.map Var.key)
    (hasg : ∀ i d fp, ds[i]? = some d → Asg K ((F.more fp).at (ρs i)) target d (ρt i))
    (hbody : ∀ i d fp, ds[i]? = some d → Blk K n ((F.more fp).at (ρt i)) body (fun o => o = .next (ρs (i + 1)) ∨ ∃ r, o = .ret r ∧ P (.ret r)))
    (hend : P (.next (ρs ds.length))) (hs : ∀ x, foldedSetIterable iter F.env x = pure x := by intro _; rfl) : Stm K n F (.For target iter body [] pos) P := by
  intro A s Q E R hF hQ
  refine wpAny_For (hi R hF fun it fp V s₁ x₁ hfp hV hit _ => ?_) hs
  have hlow := hF.low
  have hz : ∀ a, fp a → s.heap.objs.size ≤ a := fun a q => (hfp a q).1
  have hFm : FrOK K ((F.more fp).at (ρs 0)) s₁ := by rw [h0]; exact hF.more x₁ hfp
  have fin : ∀ s', Ext K (fun a => F.W a ∨ fp a) V s s' → Ext K F.W no s s' := fun s' x => x.mono (fun a hs q => q.elim id fun q => by
    obtain ⟨o, e⟩ := Option.isSome_iff_exists.mp hs
    exact absurd (Heap.lt_size e) (Nat.not_lt.mpr (hz a q))) (fun g hg q => absurd hg (Nat.not_lt.mpr (hV g q)))
  refine codeAny_forLoop_any (fun k s' => ∃ i, k = ds.length + 1 - i ∧ i ≤ ds.length ∧ FrOK K ((F.more fp).at (ρs i)) s' ∧ IterOK K n F.W (fun a => F.N a ∨ fp a) fp V tup it (ds.drop i) s' ∧ Ext K (fun a => F.W a ∨ fp a) V s s')
    ?_ (ds.length + 1) ⟨0, rfl, Nat.zero_le _, hFm, hit F.W _ s₁ (Ext.refl _) (fun a q => .inl q) (fun a q => .inl (hF.ok.WN a q)) (fun a q => .inl q) (fun a q => .inr q) (fun a q => q.imp id .inl) hFm.alloc, x₁.of0⟩
  rintro k s' ⟨i, rfl, hle, hF', hit', x'⟩
  by_cases hlt : i < ds.length
  · rw [List.drop_eq_getElem_cons hlt] at hit'
    have hd : ds[i]? = some ds[i] := List.getElem?_eq_getElem hlt
    refine hit' A _ _ s' R (Ext.refl _) hF'.inv fun v s₂ x₂ r₂ go => ?_
    refine go target _ _ _ ht fun s₃ x₃ r₃ hit₃ => ?_
    have hF₃ : FrOK K ((F.more fp).at (ρs i)) s₃ := (hF'.pulled x₂ hz (hlow.shape (hsh i)) hF.ok.WN).pulled x₃ hz (hlow.shape (hsh i)) hF.ok.WN
    refine hasg i _ fp hd R.hh hF₃ r₃ fun s₄ x₄ hF₄ => ?_
    refine hbody i _ fp hd R hF₄ fun o f s₅ hp ho x₅ => ?_
    have x13 : Ext K (fun a => F.W a ∨ fp a) V s s₃ := (x'.trans (x₂.mono (fun _ _ q => .inr q) fun _ _ q => q)).trans (x₃.mono (fun _ _ q => .inr q) fun _ _ q => q)
    have x35 : Ext K F.W no s₃ s₅ := x₄.trans x₅
    have x15 : Ext K (fun a => F.W a ∨ fp a) V s s₅ := x13.trans (x35.mono (fun _ _ q => .inl q) fun _ _ q => q.elim)
    rcases hp with rfl | ⟨r, rfl, hp⟩
    · obtain ⟨rfl, hF₅⟩ := ho
      exact ⟨ds.length + 1 - (i + 1), by omega, i + 1, rfl, hlt, hF₅, hit₃.ext x35, x15⟩
    · obtain ⟨v, rfl, hr⟩ := ho
      exact hQ (.ret r) _ s₅ hp ⟨v, rfl, hr⟩ (fin _ x15)
  · have e : i = ds.length := by omega
    subst e
    rw [List.drop_length] at hit'
    refine hit' A _ _ s' R (Ext.refl _) hF'.inv fun s₂ x₂ => ?_
    refine wpAny_execs_nil ?_
    have hF₂ := hF'.pulled x₂ hz (hlow.shape (hsh _)) hF.ok.WN
    have hF₃ : FrOK K (F.at (ρs ds.length)) s₂ := by
      have h1 := hF₂.less (F := F) (ρ := ρs ds.length) hF.ok.WN hF.ok.TN hF.ok.NoN fun p hp a es e => hF.ok.WN _ (hF₂.ok.owns p hp a es e).1
      exact h1
    exact hQ (.next (ρs ds.length)) _ s₂ hend ⟨rfl, hF₃⟩ (fin _ (x'.trans (x₂.mono (fun _ _ q => .inr q) fun _ _ q => q)))

/-- a while by its states and a measure -/
theorem stm_while {α : Type} {test : Expr} {body : List Stmt} {pos : Pos} (ρs : α → List Var) (a₀ : α) (μ : α → Nat) (c : α → Bool) (nx : α → α) (I : α → Prop) (h0 : ρs a₀ = F.ρ) (hI : I a₀)
    (htest : ∀ a, I a → Tr K n (F.at (ρs a)) test (c a))
    (hbody : ∀ a, I a → c a = true → I (nx a) ∧ μ (nx a) < μ a ∧ Blk K n (F.at (ρs a)) body (fun o => o = .next (ρs (nx a))))
    (hend : ∀ a, I a → c a = false → P (.next (ρs a))) : Stm K n F (.While test body [] pos) P := by
  intro A s Q E R hF hQ
  refine wpAny_While (codeAny_whileLoop (fun k s' => ∃ a, k = μ a ∧ I a ∧ FrOK K (F.at (ρs a)) s' ∧ Ext K F.W no s s') ?_ (μ a₀) ⟨a₀, rfl, hI, by rw [h0]; exact hF, Ext.refl _⟩)
  rintro k s' ⟨a, rfl, ha, hF', x'⟩
  refine htest a ha R hF' fun s₁ x₁ => ?_
  have hF₁ := hF'.ext0 x₁
  cases hc : c a with
  | true =>
    simp only [if_true]
    obtain ⟨h1, h2, h3⟩ := hbody a ha hc
    refine h3 R hF₁ fun o f s₂ hp ho x₂ => ?_
    subst hp
    obtain ⟨rfl, hF₂⟩ := ho
    exact ⟨μ (nx a), h2, nx a, rfl, h1, hF₂, (x'.trans x₁.of0).trans x₂⟩
  | false =>
    simp only [Bool.false_eq_true, if_false]
    exact wpAny_execs_nil (hQ (.next (ρs a)) _ s₁ (hend a ha hc) ⟨rfl, hF₁⟩ (x'.trans x₁.of0))
end
end

/-! # part F13 -/
section
/-! cells and closures -/
noncomputable def cellNo : List (Str × NameKind) → Str → Option Nat
  | [], _ => none
  | (x, k) :: r, y => if k == .cell then (if y == x then some 0 else (cellNo r y).map (· + 1)) else cellNo r y
noncomputable def cellCount : List (Str × NameKind) → Nat
  | [] => 0
  | (_, k) :: r => (if k == .cell then 1 else 0) + cellCount r

theorem cellsFrom_lookup {y : Str} : ∀ (names : List (Str × NameKind)) (n : Nat) (acc : List (Str × Addr)), (names.map (·.1)).Nodup →
    (cellsFrom n names acc).lookup y = match cellNo names y with | some i => some (n + i) | none => acc.lookup y
  | [], n, acc, _ => rfl
  | (x, k) :: r, n, acc, hn => by
    rw [List.map_cons, List.nodup_cons] at hn
    unfold cellsFrom cellNo
    by_cases hk : (k == NameKind.cell) = true
    · simp only [hk, if_true]
      rw [cellsFrom_lookup r (n + 1) _ hn.2]
      by_cases hy : (y == x) = true
      · have hyx : y = x := beq_iff_eq.mp hy
        subst hyx
        have hno : ∀ (r : List (Str × NameKind)), y ∉ r.map (·.1) → cellNo r y = none := by
          intro r
          induction r with
          | nil => intro _; rfl
          | cons p r ih =>
            intro h
            obtain ⟨x', k'⟩ := p
            rw [List.map_cons, List.mem_cons, not_or] at h
            unfold cellNo
            have : (y == x') = false := by simpa using h.1
            rw [this, ih h.2]
            cases k' == NameKind.cell <;> rfl
        rw [hno r hn.1]
        simp
      · have hy' : (y == x) = false := by simpa using hy
        simp only [hy', Bool.false_eq_true, if_false]
        cases cellNo r y with
        | none => simp [List.lookup_cons, hy']
        | some i => simp only [Option.map_some, Option.some.injEq]; show n + 1 + i = n + (i + 1); rw [Nat.add_assoc, Nat.add_comm 1 i]
    · simp only [hk, if_false]
      exact cellsFrom_lookup r n acc hn.2

noncomputable def closL (cells : List (Str × Addr)) : List (Str × NameKind) → List (Str × Addr) → List (Str × Addr)
  | [], acc => acc
  | (x, k) :: r, acc => if k == .free then closL cells r ((x, (cells.lookup x).getD 0) :: acc) else closL cells r acc

theorem closL_lookup {cells : List (Str × Addr)} {y : Str} : ∀ (names : List (Str × NameKind)) (acc : List (Str × Addr)), (names.map (·.1)).Nodup → (y, NameKind.free) ∈ names → (closL cells names acc).lookup y = some ((cells.lookup y).getD 0)
  | (x, k) :: r, acc, hn, hm => by
    rw [List.map_cons, List.nodup_cons] at hn
    have keep : ∀ (r : List (Str × NameKind)) (acc : List (Str × Addr)), y ∉ r.map (·.1) → (closL cells r acc).lookup y = acc.lookup y := by
      intro r
      induction r with
      | nil => intro acc _; rfl
      | cons p r ih =>
        intro acc h
        obtain ⟨x', k'⟩ := p
        rw [List.map_cons, List.mem_cons, not_or] at h
        unfold closL
        have : (y == x') = false := by simpa using h.1
        split
        · rw [ih _ h.2, List.lookup_cons, this]
        · exact ih _ h.2
    unfold closL
    rcases List.mem_cons.mp hm with e | hm
    · cases e
      simp only [beq_self_eq_true, if_true]
      rw [keep r _ hn.1, List.lookup_cons, beq_self_eq_true]
    · have hne : (y == x) = false := by
        have : y ≠ x := fun e => hn.1 (e ▸ List.mem_map_of_mem (f := (·.1)) hm)
        simpa using this
      split
      · exact closL_lookup r _ hn.2 hm
      · exact closL_lookup r _ hn.2 hm

section
variable {M : Model} {A : Around} {E : Value → Shared → Prop} {s : Shared}

theorem wpAny_closureFor {scope : Scope} {env : Env} {Q : List (Str × Addr) → Shared → Prop} (hc : ∀ x, (x, NameKind.free) ∈ scope.names → (env.cells.lookup x).isSome = true) (h : Q (closL env.cells scope.names []) s) :
    wpAny M A (closureFor scope env) Q E s := by
  unfold closureFor
  have key : ∀ (names : List (Str × NameKind)) (acc : List (Str × Addr)) (f : Str × NameKind → List (Str × Addr) → Sem (ForInStep (List (Str × Addr)))), (∀ x, (x, NameKind.free) ∈ names → (env.cells.lookup x).isSome = true) →
      (∀ n k cs, f (n, k) cs = if k == .free then (do let a ← cellOf env n; pure (.yield ((n, a) :: cs))) else pure (.yield cs)) → ∀ Q : List (Str × Addr) → Shared → Prop, Q (closL env.cells names acc) s → wpAny M A (forIn names acc f) Q E s := by
    intro names
    induction names with
    | nil => intro acc f _ _ Q h; rw [List.forIn_nil]; exact wpAny_pure h
    | cons p r ih =>
      intro acc f hc hf Q h
      obtain ⟨x, k⟩ := p
      rw [List.forIn_cons, hf]
      unfold closL at h
      by_cases hk : (k == NameKind.free) = true
      · simp only [hk, if_true] at h ⊢
        have hk' : k = .free := beq_iff_eq.mp hk
        obtain ⟨c, hc'⟩ := Option.isSome_iff_exists.mp (hc x (hk' ▸ List.mem_cons_self))
        rw [hc'] at h
        exact wpAny_bind (wpAny_bind (wpAny_cellOf hc' (wpAny_pure (ih _ f (fun y hy => hc y (List.mem_cons_of_mem _ hy)) hf Q h))))
      · simp only [hk, if_false] at h ⊢
        exact wpAny_bind (wpAny_pure (ih _ f (fun y hy => hc y (List.mem_cons_of_mem _ hy)) hf Q h))
  refine wpAny_bind (key scope.names [] _ hc (fun n k cs => ?_) _ (wpAny_pure h))
  cases hk : k == NameKind.free <;> simp [hk]

/-- a comprehension's own environment, made -/
theorem wpAny_newCompEnv {scope : Scope} {env : Env} {cl : List (Str × Addr)} {Q : Env → Shared → Prop}
    (hQ : ∀ h', (∀ b o, s.heap.get? b = some o → h'.get? b = some o) → s.heap.objs.size + 1 + cellCount scope.names = h'.objs.size → h'.Ns s.heap.objs.size (fun _ => none) →
      (∀ i, i < cellCount scope.names → h'.IsCell (s.heap.objs.size + 1 + i) none) →
      Q { scope, locals := s.heap.objs.size, globals := env.globals, cells := cellsFrom (s.heap.objs.size + 1) scope.names cl, qual := env.qual, func := none, code := env.code, frame := env.frame, builtins := env.builtins } { s with heap := h' }) :
    wpAny M A (newFunctionEnv scope env.globals cl [] env.qual none .none (some env)) Q E s := by
  simp only [newFunctionEnv, Option.isSome_some, if_true]
  refine wpAny_bind (wpAny_alloc ?_)
  refine wpAny_bind (wpAny_layCells _ (fun name kind cells => by cases hkc : kind == NameKind.cell <;> simp [hkc]) _ _ _ _ ?_)
  rw [show ({ s with heap := s.heap.push { cls := .type "dict", data := .dict #[] } } : Shared).heap.objs.size = s.heap.objs.size + 1 from Heap.size_push ..]
  simp only [List.forIn_nil]
  refine wpAny_bind (wpAny_pure (wpAny_pure ?_))
  have pc : ∀ (names : List (Str × NameKind)) (h : Heap), (pushCells h names).objs.size = h.objs.size + cellCount names ∧ ∀ i, i < cellCount names → (pushCells h names).IsCell (h.objs.size + i) none := by
    intro names
    induction names with
    | nil => intro h; exact ⟨rfl, fun i hi => absurd hi (Nat.not_lt_zero _)⟩
    | cons p r ih =>
      intro h
      obtain ⟨x, k⟩ := p
      unfold pushCells cellCount
      split
      · obtain ⟨a1, a2⟩ := ih (h.push { cls := .type "cell", data := .cell none })
        rw [Heap.size_push] at a1 a2
        refine ⟨by rw [a1]; omega, fun i hi => ?_⟩
        cases i with
        | zero => exact ⟨_, pushCells_keeps r _ _ _ (Heap.get?_push_size _ rfl), rfl⟩
        | succ i =>
          have := a2 i (by omega)
          rwa [show h.objs.size + 1 + i = h.objs.size + (i + 1) by omega] at this
      · obtain ⟨a1, a2⟩ := ih h
        refine ⟨by rw [a1]; omega, fun i hi => a2 i (by omega)⟩
  obtain ⟨a1, a2⟩ := pc scope.names (s.heap.push { cls := .type "dict", data := .dict #[] })
  rw [Heap.size_push] at a1 a2
  exact hQ _ (fun b o e => pushCells_keeps _ _ b o (Heap.get?_push_of_some _ e)) a1.symm ((Heap.Ns.new s.heap (.type "dict")).keeps (pushCells_keeps _ _)) a2
end
end

/-! # part F14 -/
section
section
variable {K : Cx} {n : Nat} {F : Fm}

/-- names are let go -/
inductive Forget : List Var → List Var → Prop
  | nil : Forget [] []
  | same {p : Var} {ρ ρ' : List Var} : Forget ρ ρ' → Forget (p :: ρ) (p :: ρ')
  | un {x : Str} {l : Loc} {d : D} {ρ ρ' : List Var} : Forget ρ ρ' → Forget (⟨x, l, .val d⟩ :: ρ) (⟨x, l, .un⟩ :: ρ')

theorem Forget.refl : ∀ ρ : List Var, Forget ρ ρ
  | [] => .nil
  | _ :: ρ => .same (Forget.refl ρ)
theorem Forget.keys {ρ ρ' : List Var} (h : Forget ρ ρ') : ρ'.map Var.key = ρ.map Var.key := by
  induction h with
  | nil => rfl
  | same _ ih => rw [List.map_cons, List.map_cons, ih]
  | un _ ih => rw [List.map_cons, List.map_cons, ih]; rfl
theorem Forget.spec {ρ ρ' : List Var} (h : Forget ρ ρ') : ∀ p ∈ ρ', p ∈ ρ ∨ ∃ d, p.en = .un ∧ (⟨p.x, p.loc, .val d⟩ : Var) ∈ ρ := by
  induction h with
  | nil => intro p hp; cases hp
  | same _ ih =>
    intro p hp
    rcases List.mem_cons.mp hp with rfl | hp
    · exact .inl (.head _)
    · exact (ih p hp).imp (fun h => .tail _ h) fun ⟨d, a, b⟩ => ⟨d, a, .tail _ b⟩
  | un _ ih =>
    intro p hp
    rcases List.mem_cons.mp hp with rfl | hp
    · exact .inr ⟨_, rfl, .head _⟩
    · exact (ih p hp).imp (fun h => .tail _ h) fun ⟨d, a, b⟩ => ⟨d, a, .tail _ b⟩
theorem Forget.own {ρ ρ' : List Var} (h : Forget ρ ρ') (ho : ∀ p ∈ ρ', ∀ a ds, p.en ≠ .own a ds) : ∀ p ∈ ρ, ∀ a ds, p.en ≠ .own a ds := by
  induction h with
  | nil => intro p hp; cases hp
  | same _ ih =>
    intro p hp
    rcases List.mem_cons.mp hp with rfl | hp
    · exact ho _ (.head _)
    · exact ih (fun q hq => ho q (.tail _ hq)) p hp
  | un _ ih =>
    intro p hp
    rcases List.mem_cons.mp hp with rfl | hp
    · intro a ds; nofun
    · exact ih (fun q hq => ho q (.tail _ hq)) p hp

theorem keys_names {ρ ρ' : List Var} (h : ρ'.map Var.key = ρ.map Var.key) : ρ'.map Var.x = ρ.map Var.x := by
  have e : ∀ r : List Var, r.map Var.x = (r.map Var.key).map Prod.fst := fun r => by rw [List.map_map]; rfl
  rw [e, e, h]

theorem FrOK.forget {ρ ρ' : List Var} {s : Shared} (h : FrOK K (F.at ρ) s) (g : Forget ρ ρ') : FrOK K (F.at ρ') s where
  ok := { h.ok with
    names := by show (ρ'.map Var.x).Nodup; rw [keys_names g.keys]; exact h.ok.names
    locs := fun p hp => by
      obtain ⟨q, hq, e1, e2⟩ := key_back g.keys hp
      have := h.ok.locs q hq
      rw [e1, e2] at this; exact this
    tame := fun p hp => by
      obtain ⟨q, hq, e1, e2⟩ := key_back g.keys hp
      rw [← e1]; exact h.ok.tame q hq
    apart := fun p hp q hq c e1 e2 => by
      obtain ⟨p', hp', a1, a2⟩ := key_back g.keys hp
      obtain ⟨q', hq', b1, b2⟩ := key_back g.keys hq
      rw [← a1, ← b1]
      exact h.ok.apart p' hp' q' hq' c (a2 ▸ e1) (b2 ▸ e2)
    owns := fun p hp a ds e => by
      rcases g.spec p hp with hp' | ⟨d, h1, h2⟩
      · obtain ⟨o1, o2⟩ := h.ok.owns p hp' a ds e
        refine ⟨o1, fun q hq ds' e' => ?_⟩
        rcases g.spec q hq with hq' | ⟨d, h1, h2⟩
        · exact o2 q hq' ds' e'
        · rw [h1] at e'; cases e'
      · rw [h1] at e; cases e }
  inv := h.inv
  alloc := h.alloc
  ns := by
    obtain ⟨m, hn, hv⟩ := h.ns
    refine ⟨m, hn, fun p hp => ?_⟩
    rcases g.spec p hp with hp' | ⟨d, h1, h2⟩
    · exact hv p hp'
    · have hx := hv _ h2
      unfold VarOK at hx ⊢
      cases hpl : p.loc with
      | loc => simp only [h1]; trivial
      | cell c => simp only [hpl] at hx ⊢; obtain ⟨v, a, _⟩ := hx; exact ⟨v, a, by rw [h1]; trivial⟩
      | free c => simp only [hpl] at hx ⊢; obtain ⟨v, a, _⟩ := hx; exact ⟨v, a, by rw [h1]; trivial⟩

/-- addresses apart from a frame's own objects -/
structure Apart (F : Fm) (X : Addr → Prop) : Prop where
  N : ∀ a, X a → F.N a
  loc : ¬ X F.env.locals
  cell : ∀ p ∈ F.ρ, ∀ c, (p.loc = .cell c ∨ p.loc = .free c) → ¬ X c

theorem Apart.shape {ρ : List Var} {X : Addr → Prop} (h : Apart F X) (e : ρ.map Var.key = F.ρ.map Var.key) : Apart (F.at ρ) X where
  N := h.N
  loc := h.loc
  cell := fun p hp c hc => by
    obtain ⟨q, hq, e1, e2⟩ := key_back e hp
    exact h.cell q hq c (e2 ▸ hc)

noncomputable def NoOwn (ρ : List Var) : Prop := ∀ p ∈ ρ, ∀ a ds, p.en ≠ .own a ds

theorem FrOK.apart {X : Addr → Prop} {V : Nat → Prop} {s s' : Shared} (h : FrOK K F s) (a : Apart F X) (o : NoOwn F.ρ) (x : Ext K X V s s') : FrOK K F s' :=
  h.ext x a.N a.loc a.cell fun p hp b ds e => absurd e (o p hp b ds)

noncomputable def Tests (K : Cx) (n : Nat) (F : Fm) (ifs : List Expr) (b : Bool) : Prop :=
  ∀ {A : Around} {s : Shared} {Q : Bool → Shared → Prop} {E : Value → Shared → Prop}, Room A n → FrOK K F s → (∀ s', E0 K s s' → Q b s') →
    wpAny K.M A (forIn ifs true fun c r => if r = true then do let ok ← isTrue c F.env (eval c F.env); pure (ForInStep.yield ok) else pure (ForInStep.yield r)) Q E s

theorem tests_nil : Tests K n F [] true := fun R hF h => wpAny_pure (h _ (Ext.refl _))
theorem tests_one {t : Expr} {b : Bool} (ht : Tr K n F t b) : Tests K n F [t] b := fun R hF h => by
  simp only [List.forIn_cons, List.forIn_nil, if_true]
  exact wpAny_bind (wpAny_bind (ht R hF fun s' x => wpAny_pure (wpAny_pure (h s' x))))

/-- what one turn puts behind the list -/
noncomputable def Emit (K : Cx) (n : Nat) (F : Fm) (acc : Addr) (m : Sem Unit) (out : List D) : Prop :=
  ∀ {A : Around} {s : Shared} {Q : Unit → Shared → Prop} {E : Value → Shared → Prop} {items : Array Value} {ds0 : List D}, Room A n → FrOK K F s → s.heap.PlainList acc items → Reps F.N s.heap ds0 items.toList → ds0.length + out.length ≤ sizeLine →
    (∀ s' items', FrOK K F s' → Ext K (fun a => F.W a ∨ a = acc) no s s' → s'.heap.PlainList acc items' → Reps F.N s'.heap (ds0 ++ out) items'.toList → Q () s') → wpAny K.M A m Q E s

/-- the list that grows -/
structure AccOK (K : Cx) (F : Fm) (acc : Addr) : Prop where
  ap : Apart F (· = acc)
  base : K.g0.get? acc = none
  tb : ¬ K.Tb acc
  nw : ¬ F.W acc

theorem emit_elt {elt : Expr} {acc : Addr} {d : D} (ha : AccOK K F acc) (no : NoOwn F.ρ) (he : Ev K n F elt d) :
    Emit K n F acc (do let _ ← call (.builtin "list.append") [.ref acc, ← eval elt F.env]) [d] := fun R hF hl hr hz hQ => by
  rename_i A s Q E items ds0
  refine wpAny_bind (he R hF fun v s₁ x₁ r₁ => wpAny_bind ?_)
  have hl1 : s₁.heap.PlainList acc items := PlainList_keep hl fun o e => x₁.heap _ _ (fun q => q) ha.tb e
  refine wpAny_list_append_plain hl1 (fun h' hl' hs => ?_) (by rw [← Array.length_toList, ← hr.length]; simp only [List.length_cons, List.length_nil] at hz; omega)
  obtain ⟨k, e⟩ := hl1
  have X : ∀ W : Addr → Prop, W acc → ∀ V, Ext K W V s₁ { s₁ with heap := h' } := fun W hW V => Ext.at1 (tk := s₁.toks) e (ns_c rfl (by decide)) hW ha.base ha.tb hs
  have X1 : Ext K (· = acc) Mine.no s₁ { s₁ with heap := h' } := X (· = acc) rfl _
  refine wpAny_pure (hQ _ _ ((hF.ext0 x₁).apart ha.ap no X1) (x₁.of0.trans (X _ (.inr rfl) _)) hl' ?_)
  have h1 := Reps.ext X1 ha.ap.N hF.ok.TN (Reps.ext0 x₁ hF.ok hr)
  have h2 := r₁.ext X1 ha.ap.N hF.ok.TN
  rw [Array.toList_push]
  exact Reps.snoc h1 h2

noncomputable def turnOf (target : Expr) (ifs : List Expr) (p : Pos) (m : Sem Unit) (e : Expr) (depth : Nat) (it acc : Value) (env : Env) : Sem Fin := do
  standAt p
  match ← pyNext it with
  | none => pure (.done .next)
  | some v =>
    letOwnedTupleGo target it v
    assign target env v
    let mut ok := true
    for c in ifs do
      if ok then ok ← isTrue c env (eval c env)
    if ok then
      m
    again (.compLoop e depth it acc env)

/-- a comprehension's loop -/
theorem comp_loop {α : Type} {acc : Addr} {elt : Expr} {gens : List Comprehension} {scope : Scope} {pos p : Pos} {depth : Nat} {it : Value} {target : Expr} {ifs : List Expr} {m : Sem Unit} {tup : Bool} {fp : Addr → Prop} {V : Nat → Prop}
    {xs : List α} {f : α → D} {ρt : α → List Var} {b : α → Bool} {out : α → List D} {R : Result → Shared → Prop} {A : Around} {s : Shared} {items : Array Value} {ds0 : List D}
    (hturn : compTurn (.ListComp elt gens scope pos) depth it (.ref acc) F.env = turnOf target ifs p m (.ListComp elt gens scope pos) depth it (.ref acc) F.env)
    (Rm : Room A n) (ht : TgtOK tup target) (ha : AccOK K F acc) (hap : Apart F fp) (hfa : ¬ fp acc) (hbt : ∀ a, fp a → K.g0.get? a = none) (hno : NoOwn F.ρ)
    (hF : FrOK K F s) (hit : IterOK K n (fun a => F.W a ∨ a = acc) F.N fp V tup it (xs.map f) s) (hl : s.heap.PlainList acc items) (hr : Reps F.N s.heap ds0 items.toList)
    (hasg : ∀ x ∈ xs, Asg K F target (f x) (ρt x)) (hfg : ∀ x ∈ xs, Forget (ρt x) F.ρ)
    (htests : ∀ x ∈ xs, Tests K n (F.at (ρt x)) ifs (b x)) (hemit : ∀ x ∈ xs, b x = true → Emit K n (F.at (ρt x)) acc m (out x)) (hout : ∀ x ∈ xs, b x = false → out x = [])
    (hz : ds0.length + (xs.flatMap out).length ≤ sizeLine)
    (hR : ∀ s' items', FrOK K F s' → Ext K (fun a => (F.W a ∨ a = acc) ∨ fp a) V s s' → s'.heap.PlainList acc items' → Reps F.N s'.heap (ds0 ++ xs.flatMap out) items'.toList → R (.ok .next) s') :
    codeAny K.M A (.compLoop (.ListComp elt gens scope pos) depth it (.ref acc) F.env) R s := by
  refine codeAny_loop rfl (fun k s' => ∃ pre rest items', xs = pre ++ rest ∧ k = rest.length + 1 ∧ FrOK K F s' ∧ Ext K (fun a => (F.W a ∨ a = acc) ∨ fp a) V s s' ∧
    IterOK K n (fun a => F.W a ∨ a = acc) F.N fp V tup it (rest.map f) s' ∧ s'.heap.PlainList acc items' ∧ Reps F.N s'.heap (ds0 ++ pre.flatMap out) items'.toList) ?_ (xs.length + 1)
    ⟨[], xs, items, rfl, rfl, hF, Ext.refl _, hit, hl, by simpa using hr⟩
  rintro k s' ⟨pre, rest, items', rfl, rfl, hF', x', hit', hl', hr'⟩
  show wpAny _ _ ((compTurn (.ListComp elt gens scope pos) depth it (.ref acc) F.env).onRaise (fun x => do noteFrame x F.env; theTreesLotGoes x)) _ _ s'
  refine wpAny_noted ?_
  rw [hturn]
  refine wpAny_bind (wpAny_standAt (wpAny_bind ?_))
  have tN : ∀ a, K.Tb a → F.N a := hF.ok.TN
  have keepL : ∀ {s₁ s₂ : Shared} {its : Array Value} {ds : List D}, Ext K fp V s₁ s₂ → s₁.heap.PlainList acc its → Reps F.N s₁.heap ds its.toList → s₂.heap.PlainList acc its ∧ Reps F.N s₂.heap ds its.toList :=
    fun x a r => ⟨PlainList_keep a fun o e => x.heap _ _ hfa ha.tb e, Reps.ext x hap.N tN r⟩
  cases rest with
  | nil =>
    refine hit' A _ _ s' Rm (Ext.refl _) hF'.inv fun s₂ x₂ => wpAny_pure ?_
    obtain ⟨l2, r2⟩ := keepL x₂ hl' hr'
    rw [List.append_nil] at hR
    exact hR s₂ _ (hF'.apart hap hno x₂) (x'.trans (x₂.mono (fun _ _ q => .inr q) fun _ _ q => q)) l2 r2
  | cons x rest =>
    have hx : x ∈ pre ++ x :: rest := List.mem_append_right _ (.head _)
    refine hit' A _ _ s' Rm (Ext.refl _) hF'.inv fun v s₂ x₂ r₂ go => ?_
    refine wpAny_bind (go target _ _ _ ht fun s₃ x₃ r₃ hit₃ => ?_)
    have x23 : Ext K fp V s' s₃ := x₂.trans x₃
    obtain ⟨l3, rr3⟩ := keepL x23 hl' hr'
    have hF₃ := hF'.apart hap hno x23
    refine wpAny_bind (hasg x hx Rm.hh hF₃ r₃ fun s₄ x₄ hF₄ => ?_)
    have l4 : s₄.heap.PlainList acc items' := PlainList_keep l3 fun o e => x₄.heap _ _ ha.nw ha.tb e
    have rr4 : Reps F.N s₄.heap _ items'.toList := Reps.ext x₄ hF.ok.WN tN rr3
    refine wpAny_bind (htests x hx Rm hF₄ fun s₅ x₅ => ?_)
    have l5 : s₅.heap.PlainList acc items' := PlainList_keep l4 fun o e => x₅.heap _ _ (fun q => q) ha.tb e
    have rr5 : Reps F.N s₅.heap _ items'.toList := Reps.ext x₅ (fun _ q => q.elim) tN rr4
    have hF₅ := hF₄.ext0 x₅
    have x35 : Ext K (fun a => F.W a ∨ a = acc) no s₃ s₅ := (x₄.mono (fun _ _ q => .inl q) fun _ _ q => q).trans x₅.of0
    have fin : ∀ s₆ its, FrOK K (F.at (ρt x)) s₆ → Ext K (fun a => F.W a ∨ a = acc) no s₅ s₆ → s₆.heap.PlainList acc its → Reps F.N s₆.heap (ds0 ++ pre.flatMap out ++ out x) its.toList →
        ∃ k, k < (x :: rest).length + 1 ∧ ∃ pre' rest' items', pre ++ x :: rest = pre' ++ rest' ∧ k = rest'.length + 1 ∧ FrOK K F s₆ ∧ Ext K (fun a => (F.W a ∨ a = acc) ∨ fp a) V s s₆ ∧
          IterOK K n (fun a => F.W a ∨ a = acc) F.N fp V tup it (rest'.map f) s₆ ∧ s₆.heap.PlainList acc items' ∧ Reps F.N s₆.heap (ds0 ++ pre'.flatMap out) items'.toList := fun s₆ its hF₆ x₆ l6 r6 =>
      ⟨rest.length + 1, by rw [List.length_cons]; exact Nat.lt_succ_self _, pre ++ [x], rest, its, by simp, rfl, hF₆.forget (hfg x hx),
        (x'.trans (x23.mono (fun _ _ q => .inr q) fun _ _ q => q)).trans ((x35.trans x₆).mono (fun _ _ q => .inl q) fun _ _ q => q.elim), hit₃.ext (x35.trans x₆), l6,
        by rw [List.flatMap_append, List.flatMap_cons, List.flatMap_nil, List.append_nil, ← List.append_assoc]; exact r6⟩
    cases hb : b x with
    | false =>
      simp only [Bool.false_eq_true, if_false]
      exact wpAny_pure ⟨rfl, fin s₅ items' hF₅ (Ext.refl _) l5 (by rw [hout x hx hb, List.append_nil]; exact rr5)⟩
    | true =>
      simp only [if_true]
      refine wpAny_bind (hemit x hx hb Rm hF₅ l5 rr5 ?_ fun s₆ its hF₆ x₆ l6 r6 => wpAny_pure ⟨rfl, fin s₆ its hF₆ x₆ l6 r6⟩)
      rw [List.flatMap_append, List.flatMap_cons] at hz
      simp only [List.length_append] at hz ⊢
      omega
end
end

/-! # part F15 -/
section
noncomputable def compScope (env : Env) (scope : Scope) : Scope :=
  { scope with names := scope.names.map fun (n, k) => if (k == .free && env.scope.kind == .function && env.kindOf n == some .cell) = true then (n, .cell) else (n, k) }

noncomputable def cEnv (env : Env) (scope : Scope) (C : Addr) : Env :=
  { scope := compScope env scope, locals := C, globals := env.globals, cells := cellsFrom (C + 1) scope.names (closL env.cells scope.names []), qual := env.qual, func := none, code := env.code, frame := env.frame, builtins := env.builtins }

section
variable {M : Model} {A : Around} {E : Value → Shared → Prop} {s : Shared} {env : Env}

theorem compScope_lookup {scope : Scope} {x : Str} : (compScope env scope).names.lookup x = (scope.names.lookup x).map fun k => if (k == .free && env.scope.kind == .function && env.kindOf x == some .cell) = true then .cell else k := by
  unfold compScope
  dsimp only
  generalize scope.names = l
  induction l with
  | nil => rfl
  | cons p r ih =>
    obtain ⟨y, k⟩ := p
    rw [List.map_cons]
    by_cases hy : (x == y) = true
    · have : x = y := beq_iff_eq.mp hy
      subst this
      dsimp only
      split
      · rename_i h; simp only [List.lookup_cons, beq_self_eq_true, Option.map_some]; rw [if_pos h]
      · rename_i h; simp only [List.lookup_cons, beq_self_eq_true, Option.map_some]; rw [if_neg h]
    · have hy' : (x == y) = false := by simpa using hy
      dsimp only
      split <;> simp only [List.lookup_cons, hy', ih]

theorem lookup_mem {x : Str} {k : NameKind} : ∀ {l : List (Str × NameKind)}, l.lookup x = some k → (x, k) ∈ l
  | [], h => by cases h
  | (y, k') :: r, h => by
    rw [List.lookup_cons] at h
    cases hy : x == y with
    | true => rw [hy] at h; cases h; rw [beq_iff_eq.mp hy]; exact .head _
    | false => rw [hy] at h; exact .tail _ (lookup_mem h)

theorem mem_lookup {x : Str} {k : NameKind} : ∀ {l : List (Str × NameKind)}, (l.map (·.1)).Nodup → (x, k) ∈ l → l.lookup x = some k
  | (y, k') :: r, hn, h => by
    rw [List.map_cons, List.nodup_cons] at hn
    rcases List.mem_cons.mp h with e | h
    · cases e; rw [List.lookup_cons, beq_self_eq_true]
    · have : (x == y) = false := by
        have : x ≠ y := fun e => hn.1 (e ▸ List.mem_map_of_mem (f := (·.1)) h)
        simpa using this
      rw [List.lookup_cons, this]; exact mem_lookup hn.2 h

theorem cellNo_none {y : Str} {k : NameKind} (hk : k ≠ .cell) : ∀ {l : List (Str × NameKind)}, (l.map (·.1)).Nodup → l.lookup y = some k → cellNo l y = none
  | [], _, h => by cases h
  | (x, k') :: r, hn, h => by
    rw [List.map_cons, List.nodup_cons] at hn
    rw [List.lookup_cons] at h
    unfold cellNo
    cases hy : y == x with
    | true =>
      rw [hy] at h; cases h
      have : (k == NameKind.cell) = false := by simpa using hk
      rw [this]
      simp only [Bool.false_eq_true, if_false]
      have hyx := beq_iff_eq.mp hy
      subst hyx
      have hno : ∀ (r : List (Str × NameKind)), y ∉ r.map (·.1) → cellNo r y = none := by
        intro r
        induction r with
        | nil => intro _; rfl
        | cons p r ih =>
          intro h
          obtain ⟨x', k'⟩ := p
          rw [List.map_cons, List.mem_cons, not_or] at h
          unfold cellNo
          have : (y == x') = false := by simpa using h.1
          rw [this, ih h.2]
          cases k' == NameKind.cell <;> rfl
      exact hno r hn.1
    | false =>
      rw [hy] at h
      rw [cellNo_none hk hn.2 h]
      cases k' == NameKind.cell <;> rfl

/-- behind a comprehension's loop -/
noncomputable def CompUse (M : Model) (A : Around) (E : Value → Shared → Prop) (Q : Value → Shared → Prop) (u : Option (Value → Sem Unit)) (acc : Value) (C : Addr) (s' : Shared) : Prop := match u with
  | none => ∃ m, s'.heap.Ns C m ∧ ∀ h', Heap.SameBut C s'.heap h' → Q acc { s' with heap := h' }
  | some u => wpAny M A (u acc) (fun _ s'' => ∃ m, s''.heap.Ns C m ∧ ∀ h', Heap.SameBut C s''.heap h' → Q .none { s'' with heap := h' }) E s'
noncomputable def CompEnd (M : Model) (A : Around) (E : Value → Shared → Prop) (Q : Value → Shared → Prop) (u : Option (Value → Sem Unit)) (acc : Value) (C : Addr) (r : Result) (s' : Shared) : Prop := match r with
  | .error _ => False
  | .ok _ => CompUse M A E Q u acc C s'

/-- a comprehension with names from around -/
theorem wpAny_comp {e : Expr} {scope : Scope} {pos : Pos} {newAcc first : Sem Value} {g : Comprehension} {gs : List Comprehension} {u : Option (Value → Sem Unit)} {Q : Value → Shared → Prop}
    (hcl : clausesOf e = g :: gs) (hs : ∀ x, foldedSetIterable g.iter env x = pure x) (hnd : (scope.names.map (·.1)).Nodup) (hkind : scope.kind = .function)
    (hfree : ∀ x, (x, NameKind.free) ∈ scope.names → (env.cells.lookup x).isSome = true)
    (h : wpAny M A first (fun x s₁ => wpAny M A (pyIter x) (fun it s₂ => wpAny M A newAcc (fun acc s₃ =>
      wpAny M A (newFunctionEnv scope env.globals (closL env.cells scope.names []) [] env.qual none .none (some env)) (fun cenv s₄ =>
        codeAny M A (.compStart e 0 it acc { cenv with scope := compScope env scope }) (CompEnd M A E Q u acc cenv.locals) s₄) E s₃) E s₂) E s₁) E s) :
    wpAny M A (comprehension e scope env pos newAcc false first u) Q E s := by
  have hv : ∀ x ∈ (scope.names.filter fun x => (x.2 == .local || x.2 == .cell) && x.1 != (".0" : Str)).reverse, x.2 = .local → ∀ cenv : Env,
      Env.kindOf { cenv with scope := compScope env scope } x.1 = some .local := fun x hx hl cenv => by
    have h1 := mem_lookup hnd (List.mem_filter.mp (List.mem_reverse.mp hx)).1
    show (compScope env scope).names.lookup x.1 = some .local
    rw [compScope_lookup, h1, hl]
    rfl
  unfold comprehension
  rw [hcl]
  refine wpAny_bind (wpAny_mono h (fun x s₁ h₁ => wpAny_bind (wpAny_standAt (wpAny_bind (wpAny_of_eq (hs x) (wpAny_bind (wpAny_holding (wpAny_mono h₁ (fun it s₂ h₂ =>
    wpAny_standIf (wpAny_bind (wpAny_mono h₂ (fun acc s₃ h₃ => wpAny_bind (wpAny_closureFor hfree (wpAny_bind (wpAny_mono h₃ (fun cenv s₄ h₄ => ?_) fun _ _ h' => h')))) fun _ _ h' => h')))
      fun _ _ h' => h'))))))) fun _ _ h' => h')
  refine wpAny_holding (wpAny_bind (wpAny_attempt (wpAny_holding (wpAny_run (codeAny_mono h₄ fun r s' hr => ?_)))))
  cases r with
  | error x => exact hr.elim
  | ok f =>
    cases u with
    | none =>
      obtain ⟨m, hn, hr⟩ := hr
      exact wpAny_bind (wpAny_holding (wpAny_comp_letGo (cenv := { cenv with scope := compScope env scope }) hkind _ s' m (fun x hx hl => hv x hx hl cenv) hn fun h' m' _ hs' => wpAny_pure (hr h' hs')))
    | some u =>
      refine wpAny_bind (wpAny_rule (wpAny_bind (wpAny_holding (wpAny_mono hr (fun _ s'' hr' => ?_) fun _ _ h' => h'))))
      obtain ⟨m, hn, hr'⟩ := hr'
      refine wpAny_bind (wpAny_comp_letGo (cenv := { cenv with scope := compScope env scope }) hkind _ s'' m (fun x hx hl => ?_) hn fun h' m' _ hs' => wpAny_pure (hr' h' hs'))
      rcases List.mem_append.mp hx with h1 | h1
      · exact hv x (List.mem_of_mem_drop h1) hl cenv
      · exact hv x (List.mem_of_mem_take h1) hl cenv
end

/-- a comprehension's names: its own, its own cells, and those from around -/
structure Sh where
  lv : List Str
  cv : List (Str × Nat) := []
  fv : List (Str × Addr × D) := []

noncomputable def Sh.vars (sh : Sh) (C : Addr) : List Var :=
  sh.lv.map (fun x => ⟨x, .loc, .un⟩) ++ (sh.cv.map (fun p => ⟨p.1, .cell (C + 1 + p.2), .un⟩) ++ sh.fv.map (fun p => ⟨p.1, .free p.2.1, .val p.2.2⟩))

noncomputable def compOk (scope : Scope) (lv : List Str) (cv : List (Str × Nat)) (fv gl : List Str) : Bool :=
  scope.kind == .function && decide (scope.names.map (·.1)).Nodup && decide (lv ++ (cv.map (·.1) ++ fv)).Nodup && decide (cv.map (·.2)).Nodup
  && lv.all (fun x => scope.names.lookup x == some .local) && cv.all (fun p => scope.names.lookup p.1 == some .cell && cellNo scope.names p.1 == some p.2 && decide (p.2 < cellCount scope.names))
  && fv.all (fun x => scope.names.lookup x == some .free) && gl.all (fun x => scope.names.lookup x == some .globalImplicit && !(x == ("__debug__" : Str)))
  && (lv ++ (cv.map (·.1) ++ fv)).all (fun x => !(x == ("__debug__" : Str)) && !(x == ("__classdict__" : Str))) && scope.names.all (fun p => p.2 != .free || fv.contains p.1)

inductive Fvs (ρ : List Var) : List (Str × Addr × D) → Prop
  | nil : Fvs ρ []
  | cell {x : Str} {c : Addr} {d : D} {r : List (Str × Addr × D)} : (⟨x, .cell c, .val d⟩ : Var) ∈ ρ → Fvs ρ r → Fvs ρ ((x, c, d) :: r)
  | free {x : Str} {c : Addr} {d : D} {r : List (Str × Addr × D)} : (⟨x, .free c, .val d⟩ : Var) ∈ ρ → Fvs ρ r → Fvs ρ ((x, c, d) :: r)

theorem Fvs.spec {ρ : List Var} {l : List (Str × Addr × D)} (h : Fvs ρ l) : ∀ p ∈ l, (⟨p.1, .cell p.2.1, .val p.2.2⟩ : Var) ∈ ρ ∨ (⟨p.1, .free p.2.1, .val p.2.2⟩ : Var) ∈ ρ := by
  induction h with
  | nil => intro p hp; cases hp
  | cell h _ ih =>
    intro p hp
    rcases List.mem_cons.mp hp with rfl | hp
    · exact .inl h
    · exact ih p hp
  | free h _ ih =>
    intro p hp
    rcases List.mem_cons.mp hp with rfl | hp
    · exact .inr h
    · exact ih p hp

noncomputable def cFm (F : Fm) (scope : Scope) (C acc : Addr) (fp : Addr → Prop) (sh : Sh) (gl : List Str) : Fm where
  W a := a = C ∨ (C + 1 ≤ a ∧ a < C + 1 + cellCount scope.names)
  N a := F.N a ∨ fp a ∨ a = acc ∨ (C ≤ a ∧ a < C + 1 + cellCount scope.names)
  No := F.No
  env := cEnv F.env scope C
  ρ := sh.vars C
  gl := gl

theorem Sh.noOwn (sh : Sh) (C : Addr) : NoOwn (sh.vars C) := by
  intro p hp a ds
  unfold Sh.vars at hp
  rcases List.mem_append.mp hp with hp | hp
  · obtain ⟨x, _, rfl⟩ := List.mem_map.mp hp; nofun
  · rcases List.mem_append.mp hp with hp | hp
    · obtain ⟨x, _, rfl⟩ := List.mem_map.mp hp; nofun
    · obtain ⟨x, _, rfl⟩ := List.mem_map.mp hp; nofun

section
variable {K : Cx} {n : Nat} {F : Fm}

theorem comp_frame {scope : Scope} {C acc : Addr} {fp : Addr → Prop} {sh : Sh} {fvn gl : List Str} {s s₃ : Shared} (hF : FrOK K F s) (x : E0 K s s₃)
    (hk : compOk scope sh.lv sh.cv fvn gl = true) (hfv : sh.fv.map (·.1) = fvn) (hsh : Fvs F.ρ sh.fv)
    (ha : s.heap.objs.size ≤ acc) (haC : acc < C) (hC : C + 1 + cellCount scope.names = s₃.heap.objs.size) (hfp : ∀ a, fp a → s.heap.objs.size ≤ a ∧ a < C)
    (hns : s₃.heap.Ns C (fun _ => none)) (hcells : ∀ i, i < cellCount scope.names → s₃.heap.IsCell (C + 1 + i) none) : FrOK K (cFm F scope C acc fp sh gl) s₃ := by
  subst hfv
  unfold compOk at hk
  simp only [Bool.and_eq_true, decide_eq_true_eq, List.all_eq_true, beq_iff_eq, Bool.not_eq_true', Bool.or_eq_true, bne_iff_ne, ne_eq, List.contains_iff_mem] at hk
  obtain ⟨⟨⟨⟨⟨⟨⟨⟨⟨k1, k2⟩, k3⟩, k4⟩, k5⟩, k6⟩, k7⟩, k8⟩, k9⟩, k10⟩ := hk
  have hsC : s.heap.objs.size ≤ C := Nat.le_trans ha (Nat.le_of_lt haC)
  have hCz : C < s₃.heap.objs.size := hC ▸ Nat.lt_of_lt_of_le (Nat.lt_succ_self _) (Nat.le_add_right _ _)
  have wge : ∀ a, (cFm F scope C acc fp sh gl).W a → s.heap.objs.size ≤ a := fun a q => by
    rcases q with rfl | q
    · exact hsC
    · exact Nat.le_trans hsC (Nat.le_trans (Nat.le_succ _) q.1)
  have nge : ∀ a, (cFm F scope C acc fp sh gl).N a → F.N a ∨ s.heap.objs.size ≤ a := fun a q => by
    rcases q with q | q | q | q
    · exact .inl q
    · exact .inr (hfp a q).1
    · exact .inr (q ▸ ha)
    · exact .inr (Nat.le_trans hsC q.1)
  have low := hF.low
  have notge : ∀ {a : Addr}, a < s.heap.objs.size → ¬ s.heap.objs.size ≤ a := fun h => Nat.not_le.mpr h
  -- where a name lies
  have names : (sh.vars C).map Var.x = sh.lv ++ (sh.cv.map (·.1) ++ sh.fv.map (·.1)) := by
    unfold Sh.vars
    simp only [List.map_append, List.map_map]
    congr 1
    · exact List.map_id' _
  have inv : ∀ p ∈ sh.vars C, (∃ y ∈ sh.lv, p = ⟨y, .loc, .un⟩) ∨ (∃ q ∈ sh.cv, p = ⟨q.1, .cell (C + 1 + q.2), .un⟩) ∨ (∃ q ∈ sh.fv, p = ⟨q.1, .free q.2.1, .val q.2.2⟩) := fun p hp => by
    unfold Sh.vars at hp
    rcases List.mem_append.mp hp with hp | hp
    · obtain ⟨y, hy, rfl⟩ := List.mem_map.mp hp; exact .inl ⟨y, hy, rfl⟩
    · rcases List.mem_append.mp hp with hp | hp
      · obtain ⟨y, hy, rfl⟩ := List.mem_map.mp hp; exact .inr (.inl ⟨y, hy, rfl⟩)
      · obtain ⟨y, hy, rfl⟩ := List.mem_map.mp hp; exact .inr (.inr ⟨y, hy, rfl⟩)
  have fvlt : ∀ q ∈ sh.fv, q.2.1 < s.heap.objs.size := fun q hq => by
    rcases hsh.spec q hq with h | h
    · exact low.cell _ h _ (.inl rfl)
    · exact low.cell _ h _ (.inr rfl)
  refine ⟨⟨k1, hF.ok.glob, hF.ok.blt, by rw [show (cFm F scope C acc fp sh gl).ρ = sh.vars C from rfl, names]; exact k3, ?_, ?_, ?_, ?_, .inl rfl, ?_, fun a q => .inl (hF.ok.TN a q), fun a q => .inl (hF.ok.NoN a q), ?_, ?_⟩, x.inv hF.inv, ⟨_, hns, ?_⟩, ?_⟩
  · intro p hp
    rcases inv p hp with ⟨y, hy, rfl⟩ | ⟨q, hq, rfl⟩ | ⟨q, hq, rfl⟩
    · show (compScope F.env scope).names.lookup y = some .local
      rw [compScope_lookup, k5 y hy]; rfl
    · obtain ⟨⟨h1, h2⟩, h3⟩ := k6 q hq
      refine ⟨?_, ?_, .inr ⟨Nat.le_add_right _ _, Nat.add_lt_add_left h3 _⟩, ?_⟩
      · show (compScope F.env scope).names.lookup q.1 = some .cell
        rw [compScope_lookup, h1]; rfl
      · show (cellsFrom (C + 1) scope.names (closL F.env.cells scope.names [])).lookup q.1 = _
        rw [cellsFrom_lookup _ _ _ k2, h2]
      · exact Nat.ne_of_gt (Nat.lt_of_lt_of_le (Nat.lt_succ_self C) (Nat.le_add_right _ _))
    · have h1 := k7 q.1 (List.mem_map_of_mem hq)
      have hout : F.env.cells.lookup q.1 = some q.2.1 ∧ ¬ K.Tb q.2.1 := by
        rcases hsh.spec q hq with h | h
        · have := hF.ok.locs _ h
          exact ⟨this.2.1, (hF.ok.base _ this.2.2.1).2⟩
        · have := hF.ok.locs _ h
          exact ⟨this.2.1, this.2.2.1⟩
      refine ⟨?_, ?_, hout.2, ?_⟩
      · show (compScope F.env scope).names.lookup q.1 = some .cell ∨ (compScope F.env scope).names.lookup q.1 = some .free
        rw [compScope_lookup, h1]
        dsimp only [Option.map_some]
        split
        · exact .inl rfl
        · exact .inr rfl
      · show (cellsFrom (C + 1) scope.names (closL F.env.cells scope.names [])).lookup q.1 = _
        rw [cellsFrom_lookup _ _ _ k2, cellNo_none (by nofun) k2 h1]
        show (closL F.env.cells scope.names []).lookup q.1 = _
        rw [closL_lookup _ _ k2 (lookup_mem h1), hout.1]; rfl
      · exact Nat.ne_of_lt (Nat.lt_of_lt_of_le (fvlt q hq) hsC)
  · intro y hy
    obtain ⟨h1, h2⟩ := k8 y hy
    refine ⟨?_, h2⟩
    show (compScope F.env scope).names.lookup y = some .globalImplicit
    rw [compScope_lookup, h1]; rfl
  · intro p hp
    refine k9 p.x ?_
    rw [← names]
    exact List.mem_map_of_mem hp
  · intro p hp q hq c hpc hqc
    rcases inv p hp with ⟨y, hy, rfl⟩ | ⟨y, hy, rfl⟩ | ⟨y, hy, rfl⟩
    · cases hpc
    · injection hpc with hpc
      rcases inv q hq with ⟨z, hz, rfl⟩ | ⟨z, hz, rfl⟩ | ⟨z, hz, rfl⟩
      · rcases hqc with h | h <;> cases h
      · rcases hqc with h | h
        · injection h with h
          have e : y.2 = z.2 := Nat.add_left_cancel (hpc.trans h.symm)
          have : ∀ {l : List (Str × Nat)}, (l.map (·.2)).Nodup → y ∈ l → z ∈ l → y = z := by
            intro l
            induction l with
            | nil => intro _ h; cases h
            | cons a l ih =>
              intro hn h1 h2
              rw [List.map_cons, List.nodup_cons] at hn
              rcases List.mem_cons.mp h1 with h1 | h1 <;> rcases List.mem_cons.mp h2 with h2 | h2
              · rw [h1, h2]
              · exact absurd (by rw [← h1, e]; exact List.mem_map_of_mem h2) hn.1
              · exact absurd (by rw [← h2, ← e]; exact List.mem_map_of_mem h1) hn.1
              · exact ih hn.2 h1 h2
          rw [this k4 hy hz]
        · cases h
      · rcases hqc with h | h
        · cases h
        · injection h with h
          have := fvlt z hz
          rw [h, ← hpc] at this
          exact absurd (Nat.lt_of_le_of_lt (Nat.le_trans hsC (Nat.le_trans (Nat.le_succ C) (Nat.le_add_right _ y.2))) this) (Nat.lt_irrefl _)
    · cases hpc
  · intro a q
    rcases q with rfl | q
    · exact .inr (.inr (.inr ⟨Nat.le_refl _, Nat.lt_of_lt_of_le (Nat.lt_succ_self _) (Nat.le_add_right _ _)⟩))
    · exact .inr (.inr (.inr ⟨Nat.le_trans (Nat.le_succ _) q.1, q.2⟩))
  · intro a q
    have := fresh_facts hF (wge a q)
    exact ⟨this.2.2.1, this.2.2.2⟩
  · intro p hp a ds e
    exact absurd e (sh.noOwn C p hp a ds)
  · intro p hp
    rcases inv p hp with ⟨y, hy, rfl⟩ | ⟨q, hq, rfl⟩ | ⟨q, hq, rfl⟩
    · trivial
    · exact ⟨_, hcells q.2 (k6 q hq).2, trivial⟩
    · obtain ⟨m, hn, hv⟩ := hF.ns
      have aux : ∃ v, s.heap.IsCell q.2.1 v ∧ EnOK F.N s.heap (.val q.2.2) v := by
        rcases hsh.spec q hq with h | h
        · exact hv _ h
        · exact hv _ h
      have htb : ¬ K.Tb q.2.1 := by
        rcases hsh.spec q hq with h | h
        · exact (hF.ok.base _ (hF.ok.locs _ h).2.2.1).2
        · exact (hF.ok.locs _ h).2.2.1
      obtain ⟨v, ⟨o, e1, e2⟩, u, e3, r⟩ := aux
      refine ⟨v, ⟨o, x.heap _ _ (fun q => q) htb e1, e2⟩, u, e3, ?_⟩
      refine r.keep (fun a hs q => ?_) (fun b o hb e => x.heap b o (fun q => q) (fun q => hb (hF.ok.TN b q)) e)
      rcases nge a q with q | q
      · exact q
      · obtain ⟨o, e⟩ := Option.isSome_iff_exists.mp hs
        exact absurd (Heap.lt_size e) (Nat.not_lt.mpr q)
  · intro a q
    rcases q with q | q | q | q
    · exact Nat.lt_of_lt_of_le (hF.alloc a q) x.size
    · exact Nat.lt_trans (hfp a q).2 hCz
    · exact q ▸ Nat.lt_trans haC hCz
    · exact hC ▸ q.2
end
end

/-! # part F16 -/
section
section
variable {K : Cx} {n : Nat} {F : Fm} {P : Out → Prop}

noncomputable def LoopOK (K : Cx) (n : Nat) (F : Fm) (e : Expr) (scope : Scope) (sh : Sh) (gl : List Str) (tup : Bool) (ds out : List D) : Prop :=
  ∀ (C acc : Addr) (fp : Addr → Prop) (V : Nat → Prop) (it : Value) (A : Around) (R : Result → Shared → Prop) (s : Shared), Room A n → AccOK K (cFm F scope C acc fp sh gl) acc → Apart (cFm F scope C acc fp sh gl) fp → ¬ fp acc →
    (∀ a, fp a → K.g0.get? a = none) → FrOK K (cFm F scope C acc fp sh gl) s →
    IterOK K n (fun a => (cFm F scope C acc fp sh gl).W a ∨ a = acc) (cFm F scope C acc fp sh gl).N fp V tup it ds s → s.heap.PlainList acc #[] →
    (∀ s' items', FrOK K (cFm F scope C acc fp sh gl) s' → Ext K (fun a => ((cFm F scope C acc fp sh gl).W a ∨ a = acc) ∨ fp a) V s s' → s'.heap.PlainList acc items' → Reps (cFm F scope C acc fp sh gl).N s'.heap out items'.toList → R (.ok .next) s') →
    codeAny K.M A (.compLoop e 0 it (.ref acc) (cEnv F.env scope C)) R s

theorem loop1 {α : Type} {elt target iter : Expr} {ifs : List Expr} {scope : Scope} {pos : Pos} {sh : Sh} {gl : List Str} {tup : Bool} {xs : List α} {f : α → D} {ρt : Addr → α → List Var} {b : α → Bool} {g : α → D} (ht : TgtOK tup target)
    (hasg : ∀ C acc fp, ∀ x ∈ xs, Asg K (cFm F scope C acc fp sh gl) target (f x) (ρt C x)) (hfg : ∀ C, ∀ x ∈ xs, Forget (ρt C x) (sh.vars C))
    (htests : ∀ C acc fp, ∀ x ∈ xs, Tests K n ((cFm F scope C acc fp sh gl).at (ρt C x)) ifs (b x))
    (helt : ∀ C acc fp, ∀ x ∈ xs, b x = true → Ev K n ((cFm F scope C acc fp sh gl).at (ρt C x)) elt (g x)) (hz : xs.length ≤ sizeLine) :
    LoopOK K n F (.ListComp elt [⟨target, iter, ifs, 0⟩] scope pos) scope sh gl tup (xs.map f) ((xs.filter b).map g) := by
  intro C acc fp V it A R s Rm ha hap hfa hbt hF hit hl hR
  have e : ∀ l : List α, (l.flatMap fun x => if b x then [g x] else []) = (l.filter b).map g := fun l => by
    induction l with
    | nil => rfl
    | cons x l ih =>
      rw [List.flatMap_cons, ih, List.filter_cons]
      cases b x <;> simp
  refine comp_loop (F := cFm F scope C acc fp sh gl) (b := b) (out := fun x => if b x then [g x] else []) (ds0 := []) (m := do let _ ← call (.builtin "list.append") [.ref acc, ← eval elt (cFm F scope C acc fp sh gl).env]) (p := iter.pos) rfl Rm ht ha hap hfa hbt (sh.noOwn C) hF hit hl .nil
    (hasg C acc fp) (hfg C) (htests C acc fp) (fun x hx hb => ?_) (fun x hx hb => by simp [hb]) ?_ fun s' items' hF' x' l' r' => hR s' items' hF' x' l' (by rw [List.nil_append, e] at r'; exact r')
  · simp only [hb, if_true]
    exact emit_elt (F := (cFm F scope C acc fp sh gl).at (ρt C x)) ⟨ha.ap.shape ((hfg C x hx).keys).symm, ha.base, ha.tb, ha.nw⟩ ((hfg C x hx).own (sh.noOwn C)) (helt C acc fp x hx hb)
  · rw [e]
    simp only [List.length_nil, Nat.zero_add, List.length_map]
    exact Nat.le_trans (List.length_filter_le _ _) hz

theorem comp_run {elt target iter : Expr} {ifs : List Expr} {rest : List Comprehension} {scope : Scope} {pos pos' : Pos} {sh : Sh} {fvn gl : List Str} {tup : Bool} {ds out : List D} {u : Option (Value → Sem Unit)} {A : Around} {s : Shared} {Q : Value → Shared → Prop} {E : Value → Shared → Prop}
    (hL : LoopOK K n F (.ListComp elt (⟨target, iter, ifs, 0⟩ :: rest) scope pos) scope sh gl tup ds out) (hi : Itr K n F iter tup ds)
    (hk : compOk scope sh.lv sh.cv fvn gl = true) (hfv : sh.fv.map (·.1) = fvn) (hsh : Fvs F.ρ sh.fv)
    (hs : ∀ x, foldedSetIterable iter F.env x = pure x) (R : Room A n) (hF : FrOK K F s)
    (hQ : ∀ acc C s' m, E0 K s s' → s.heap.objs.size ≤ C → C < s'.heap.objs.size → s'.heap.Ns C m → Rep (F.more (· = C)).N s'.heap (.list out) (.ref acc) → CompUse K.M A E Q u (.ref acc) C s') :
    wpAny K.M A (comprehension (.ListComp elt (⟨target, iter, ifs, 0⟩ :: rest) scope pos) scope F.env pos' (newList []) false (eval iter F.env) u) Q E s := by
  have hk0 := hk
  subst hfv
  unfold compOk at hk0
  simp only [Bool.and_eq_true, decide_eq_true_eq, List.all_eq_true, beq_iff_eq, Bool.not_eq_true', Bool.or_eq_true, bne_iff_ne, ne_eq, List.contains_iff_mem] at hk0
  obtain ⟨⟨⟨⟨⟨⟨⟨⟨⟨k1, k2⟩, k3⟩, k4⟩, k5⟩, k6⟩, k7⟩, k8⟩, k9⟩, k10⟩ := hk0
  refine wpAny_comp rfl hs k2 k1 (fun x hx => ?_) (hi R hF fun it fp V s₁ x₁ hfp hV hit hself => ?_)
  · rcases k10 _ hx with h | h
    · exact absurd rfl h
    · obtain ⟨p, hp, rfl⟩ := List.mem_map.mp h
      rcases hsh.spec p hp with h | h
      · rw [(hF.ok.locs _ h).2.1]; rfl
      · rw [(hF.ok.locs _ h).2.1]; rfl
  · refine wpAny_newList (wpAny_newCompEnv fun h' hk' hz hns hcells => ?_) (Nat.zero_le _)
    generalize hacc : s₁.heap.objs.size = acc at *
    have hC0 : (s₁.heap.push { cls := .type "list", data := .seq ([] : List Value).toArray }).objs.size = acc + 1 := by rw [Heap.size_push, hacc]
    have hold : ∀ b o, s₁.heap.get? b = some o → h'.get? b = some o := fun b o e => hk' b o (Heap.get?_push_of_some _ e)
    have hplain : h'.PlainList acc #[] := ⟨0, hk' _ _ (hacc ▸ Heap.get?_push_size _ rfl)⟩
    dsimp only at hz hns hcells ⊢
    rw [hC0] at hz hns hcells ⊢
    generalize hCe : acc + 1 = C at *
    have haC : acc < C := hCe ▸ Nat.lt_succ_self _
    have hsa : s.heap.objs.size ≤ acc := hacc ▸ x₁.size
    have hz1 : acc ≤ h'.objs.size := Nat.le_trans (Nat.le_of_lt haC) (hz ▸ Nat.le_trans (Nat.le_succ _) (Nat.le_add_right _ _))
    have x14 : E0 K s₁ { s₁ with heap := h' } := E0.grow (tk := s₁.toks) hold (hacc.symm ▸ hz1)
    have x04 : E0 K s { s₁ with heap := h' } := x₁.trans x14
    have hfpC : ∀ a, fp a → s.heap.objs.size ≤ a ∧ a < C := fun a q => ⟨(hfp a q).1, Nat.lt_trans (hfp a q).2 haC⟩
    have hfr : FrOK K (cFm F scope C acc fp sh gl) { s₁ with heap := h' } := comp_frame hF x04 hk rfl hsh hsa haC hz hfpC hns hcells
    have hsC : s.heap.objs.size ≤ C := Nat.le_trans hsa (Nat.le_of_lt haC)
    have fa := fresh_facts hF hsa
    have low := hF.low
    have cellsC : ∀ X : Addr → Prop, (∀ a, X a → s.heap.objs.size ≤ a ∧ a < C) → ∀ p ∈ sh.vars C, ∀ c, (p.loc = .cell c ∨ p.loc = .free c) → ¬ X c := fun X hX p hp c hc q => by
      have h1 := hX c q
      unfold Sh.vars at hp
      rcases List.mem_append.mp hp with hp | hp
      · obtain ⟨y, hy, rfl⟩ := List.mem_map.mp hp; rcases hc with hc | hc <;> cases hc
      · rcases List.mem_append.mp hp with hp | hp
        · obtain ⟨y, hy, rfl⟩ := List.mem_map.mp hp
          rcases hc with hc | hc
          · injection hc with hc
            rw [← hc] at h1
            exact absurd h1.2 (Nat.not_lt.mpr (Nat.le_trans (Nat.le_succ C) (Nat.le_add_right _ _)))
          · cases hc
        · obtain ⟨y, hy, rfl⟩ := List.mem_map.mp hp
          rcases hc with hc | hc
          · cases hc
          · injection hc with hc
            rw [← hc] at h1
            rcases hsh.spec y hy with h | h
            · exact absurd (low.cell _ h _ (.inl rfl)) (Nat.not_lt.mpr h1.1)
            · exact absurd (low.cell _ h _ (.inr rfl)) (Nat.not_lt.mpr h1.1)
    have apF : Apart (cFm F scope C acc fp sh gl) fp := ⟨fun a q => .inr (.inl q), fun q => absurd (hfpC _ q).2 (Nat.lt_irrefl C), cellsC fp hfpC⟩
    have apA : Apart (cFm F scope C acc fp sh gl) (· = acc) := ⟨fun a q => .inr (.inr (.inl q)), fun q => absurd (q : C = acc) (Nat.ne_of_gt haC), cellsC _ fun a q => q ▸ ⟨hsa, haC⟩⟩
    have nwA : ¬ (cFm F scope C acc fp sh gl).W acc := fun q => q.elim (fun q => absurd q (Nat.ne_of_lt haC)) fun q => absurd q.1 (Nat.not_le.mpr (Nat.lt_trans haC (Nat.lt_succ_self _)))
    have cge : ∀ a, (cFm F scope C acc fp sh gl).W a → C ≤ a := fun a q => q.elim (fun q => q ▸ Nat.le_refl _) fun q => Nat.le_trans (Nat.le_succ _) q.1
    have hitOK := hit (fun a => (cFm F scope C acc fp sh gl).W a ∨ a = acc) (cFm F scope C acc fp sh gl).N { s₁ with heap := h' } x14
      (fun a q => .inr (hacc.symm ▸ q.elim (fun q => Nat.le_trans (Nat.le_of_lt haC) (cge a q)) fun q => q ▸ Nat.le_refl _))
      (fun a q => q.elim (fun q => hfr.ok.WN a q) fun q => .inr (.inr (.inl q))) (fun a q => .inl q) (fun a q => .inr (.inl q))
      (fun a q => q.elim .inl fun q => .inr (q.elim .inl fun q => .inr (hacc.symm ▸ q.elim (fun q => q ▸ Nat.le_refl _) fun q => Nat.le_trans (Nat.le_of_lt haC) q.1))) hfr.alloc
    have loop : codeAny K.M A (.compLoop (.ListComp elt (⟨target, iter, ifs, 0⟩ :: rest) scope pos) 0 it (.ref acc) (cEnv F.env scope C)) (CompEnd K.M A E Q u (.ref acc) C) { s₁ with heap := h' } := by
      refine hL C acc fp V it A _ _ R ⟨apA, fa.2.2.1, fa.2.2.2, nwA⟩ apF (fun q => absurd (hfp _ q).2 (Nat.lt_irrefl _)) (fun a q => (fresh_facts hF (hfp a q).1).2.2.1) hfr hitOK hplain fun s' items' hF' x' l' r' => ?_
      obtain ⟨m, hn, _⟩ := hF'.ns
      have x0' : E0 K s s' := x04.of0.trans (x'.mono (W' := fun a => s.heap.objs.size ≤ a) (V' := fun g => s.gens.size ≤ g) (fun a _ q => q.elim (fun q => q.elim (fun q => Nat.le_trans hsC (cge a q)) fun q => q ▸ hsa) fun q => (hfp a q).1) fun g _ q => hV g q) |>.mono
        (fun a hs q => by obtain ⟨o, e⟩ := Option.isSome_iff_exists.mp hs; exact absurd (Heap.lt_size e) (Nat.not_lt.mpr q)) (fun g hg q => absurd hg (Nat.not_lt.mpr q))
      refine hQ acc C s' m x0' hsC hn.lt hn (.list (fun q => q.elim fa.2.1 fun q => absurd q (Nat.ne_of_lt haC)) l' (Reps.keep (fun a _ q => q.elim .inl fun q => .inr (.inr (.inr (q ▸ ⟨Nat.le_refl _, Nat.lt_of_lt_of_le (Nat.lt_succ_self _) (Nat.le_add_right _ _)⟩)))) (fun _ _ _ e => e) r'))
    exact codeAny_compStart_list loop (hself A _ _ _ x14 loop)

theorem ns_same {s : Shared} {h' : Heap} {C : Addr} {m : Str → Option Value} {z : Nat} {W : Addr → Prop} {V : Nat → Prop} (hF : FrOK K F s) (hz : s.heap.objs.size ≤ C) {s' : Shared} (hn : s'.heap.Ns C m) (hs : Heap.SameBut C s'.heap h') (hW : W C) : Ext K W V s' { s' with heap := h' } := by
  obtain ⟨oL, es, ep, heL, hdL, _⟩ := id hn
  have fa := fresh_facts hF hz
  exact Ext.at1 (tk := s'.toks) heL (ns_d (fun vs e => by rw [hdL] at e; cases e) (fun vs e => by rw [hdL] at e; cases e)) hW fa.2.2.1 fa.2.2.2 hs

theorem ev_of_loop {elt target iter : Expr} {ifs : List Expr} {rest : List Comprehension} {scope : Scope} {pos : Pos} {sh : Sh} {fvn gl : List Str} {tup : Bool} {ds out : List D}
    (hL : LoopOK K n F (.ListComp elt (⟨target, iter, ifs, 0⟩ :: rest) scope pos) scope sh gl tup ds out) (hi : Itr K n F iter tup ds)
    (hk : compOk scope sh.lv sh.cv fvn gl = true) (hfv : sh.fv.map (·.1) = fvn) (hsh : Fvs F.ρ sh.fv)
    (hs : ∀ x, foldedSetIterable iter F.env x = pure x := by intro _; rfl) : Ev K n F (.ListComp elt (⟨target, iter, ifs, 0⟩ :: rest) scope pos) (.list out) := fun R hF h => by
  rename_i A s Q E
  show wpAny K.M A (comprehension _ scope F.env _ (newList []) false (eval iter F.env) none) Q E s
  refine comp_run hL hi hk hfv hsh hs R hF fun acc C s' m x hC hC2 hn r => ⟨m, hn, fun h' hs' => ?_⟩
  have X : Ext K (· = C) no s' { s' with heap := h' } := ns_same (z := 0) hF hC hn hs' rfl
  refine h _ _ ((x.of0.trans X).mono (fun a hs q => by obtain ⟨o, e⟩ := Option.isSome_iff_exists.mp hs; exact absurd (Heap.lt_size e) (Nat.not_lt.mpr (q ▸ hC))) fun _ _ q => q) ?_
  exact r.keep (fun a _ q => .inl q) fun b o hb e => X.heap b o (fun q => hb (.inr q)) (fun q => hb (.inl (hF.ok.TN _ q))) e

/-- one clause -/
theorem ev_comp {α : Type} {elt target iter : Expr} {ifs : List Expr} {scope : Scope} {pos : Pos} (sh : Sh) (fvn gl : List Str) {tup : Bool} (xs : List α) (f : α → D) (ρt : Addr → α → List Var) (b : α → Bool) (g : α → D)
    (hi : Itr K n F iter tup (xs.map f)) (ht : TgtOK tup target) (hk : compOk scope sh.lv sh.cv fvn gl = true) (hfv : sh.fv.map (·.1) = fvn) (hsh : Fvs F.ρ sh.fv)
    (hasg : ∀ C acc fp, ∀ x ∈ xs, Asg K (cFm F scope C acc fp sh gl) target (f x) (ρt C x)) (hfg : ∀ C, ∀ x ∈ xs, Forget (ρt C x) (sh.vars C))
    (htests : ∀ C acc fp, ∀ x ∈ xs, Tests K n ((cFm F scope C acc fp sh gl).at (ρt C x)) ifs (b x))
    (helt : ∀ C acc fp, ∀ x ∈ xs, b x = true → Ev K n ((cFm F scope C acc fp sh gl).at (ρt C x)) elt (g x)) (hz : xs.length ≤ sizeLine)
    (hs : ∀ x, foldedSetIterable iter F.env x = pure x := by intro _; rfl) : Ev K n F (.ListComp elt [⟨target, iter, ifs, 0⟩] scope pos) (.list ((xs.filter b).map g)) :=
  ev_of_loop (loop1 ht hasg hfg htests helt hz) hi hk hfv hsh hs

/-- a local takes a comprehension's list: the stores go the other way about -/
theorem blk_assign_comp {x : Str} {p spos : Pos} {ρ' : List Var} {rest' : List Stmt} {elt target iter : Expr} {ifs : List Expr} {rest : List Comprehension} {scope : Scope} {pos : Pos} {sh : Sh} {fvn gl : List Str} {tup : Bool} {ds out : List D}
    (hL : LoopOK K n F (.ListComp elt (⟨target, iter, ifs, 0⟩ :: rest) scope pos) scope sh gl tup ds out) (hi : Itr K n F iter tup ds)
    (hk : compOk scope sh.lv sh.cv fvn gl = true) (hfv : sh.fv.map (·.1) = fvn) (hsh : Fvs F.ρ sh.fv) (u : Upd x (.val (.list out)) F.ρ ρ') (hr : Blk K n (F.at ρ') rest' P)
    (hsw : swapsWith (.ListComp elt (⟨target, iter, ifs, 0⟩ :: rest) scope pos) (some (.Name x p)) spos.line F.env = pure true)
    (hs : ∀ x, foldedSetIterable iter F.env x = pure x := by intro _; rfl) : Blk K n F (.Assign [.Name x p] (.ListComp elt (⟨target, iter, ifs, 0⟩ :: rest) scope pos) spos :: rest') P := fun R hF hQ => by
  rename_i A s Q E
  refine wpAny_execs_cons ?_
  rw [exec_Assign_Name_used _ _ _ _ hsw]
  refine wpAny_bind (wpAny_standAt (wpAny_bind ?_))
  show wpAny K.M A (do let _ ← comprehension _ scope F.env _ (newList []) false (eval iter F.env) (some (assign (.Name x p) F.env))) _ _ s
  refine wpAny_bind (comp_run (u := some (assign (.Name x p) F.env)) hL hi hk hfv hsh hs R hF fun acc C s' m x' hC hC2 hn r => ?_)
  have hlow := hF.low
  have hFm : FrOK K (F.more (· = C)) s' := hF.more x' fun a q => q ▸ ⟨hC, hC2⟩
  refine wpAny_assign_Name (store_val (F := F.more (· = C)) hFm u r fun s₂ x₂ hF₂ => ?_)
  have hWC : ¬ F.W C := (fresh_facts hF hC).1
  have hn2 : s₂.heap.Ns C m := hn.at' fun o e => x₂.heap _ _ hWC (fresh_facts hF hC).2.2.2 e
  refine ⟨m, hn2, fun h' hs' => wpAny_pure (wpAny_pure ?_)⟩
  have X : Ext K (· = C) no s₂ { s₂ with heap := h' } := ns_same (z := 0) hF hC hn2 hs' rfl
  have hkey : ρ'.map Var.key = F.ρ.map Var.key := by
    clear hL hi hsh hr r hF₂ hlow hFm hF hn hn2 hQ
    generalize F.ρ = ρ at u
    induction u with
    | here _ => rfl
    | there _ ih => rw [List.map_cons, List.map_cons, ih]
  have hF₃ := hF₂.pulled (F := F) (ρ := ρ') X (fun a q => q ▸ hC) (hlow.shape hkey) hF.ok.WN
  have hF₄ : FrOK K (F.at ρ') { s₂ with heap := h' } := hF₃.less hF.ok.WN hF.ok.TN hF.ok.NoN fun p hp a es e => hF.ok.WN _ (hF₃.ok.owns p hp a es e).1
  have x24 : Ext K F.W no s { s₂ with heap := h' } := ((x'.of0.trans (x₂.mono (W' := fun a => F.W a ∨ a = C) (fun _ _ q => .inl q) fun _ _ q => q)).trans (X.mono (fun _ _ q => .inr q) fun _ _ q => q)).mono
    (fun a hs q => q.elim id fun q => by obtain ⟨o, e⟩ := Option.isSome_iff_exists.mp hs; exact absurd (Heap.lt_size e) (Nat.not_lt.mpr (q ▸ hC))) fun _ _ q => q
  exact hr R hF₄ fun o f s₅ hp ho x₅ => hQ o f s₅ hp ho (x24.trans x₅)
end
end

/-! # part F17 -/
section
section
variable {prog : Program} {w : World} {A : Around} {E : Value → Shared → Prop} {R : Result → Shared → Prop} {s : Shared}

theorem codeAny_compStart2 {elt target iter : Expr} {ifs : List Expr} {g : Comprehension} {scope : Scope} {pos : Pos} {it acc : Value} {env : Env}
    (h0 : codeAny (model prog w) A (.compLoop (.ListComp elt [g, ⟨target, iter, ifs, 0⟩] scope pos) 1 it acc env) R s)
    (h : wpAny (model prog w) A (pyIter it) (fun it' s' => codeAny (model prog w) A (.compLoop (.ListComp elt [g, ⟨target, iter, ifs, 0⟩] scope pos) 1 it' acc env) R s')
      (notedBy (model prog w) A env fun x s' => R (.error x) s') s) :
    codeAny (model prog w) A (.compStart (.ListComp elt [g, ⟨target, iter, ifs, 0⟩] scope pos) 1 it acc env) R s := by
  refine codeAny_of_tree ?_
  show wpAny _ _ ((compStart (.ListComp elt [g, ⟨target, iter, ifs, 0⟩] scope pos) 1 it acc env).onRaise (fun x => do noteFrame x env; standAt theWindowsPlace)) _ _ s
  refine wpAny_notedAt ?_
  unfold compStart
  show wpAny _ _ (ask >>= _) _ _ s
  refine wpAny_bind (wpAny_askSetting (wpAny_ite ?_))
  split
  · first
      | exact wpAny_bind (wpAny_pure (wpAny_pure (And.intro rfl h0)))
      | exact wpAny_pure (And.intro rfl h0)
  · first
      | exact wpAny_bind (wpAny_rule (wpAny_bind (wpAny_standAt (wpAny_bind (wpAny_mono h (fun it' s' h' => wpAny_pure (And.intro rfl h')) fun _ _ x => x)))))
      | (refine wpAny_bind (wpAny_rule ?_); show wpAny _ _ (standAt iter.pos >>= _) _ _ s; exact wpAny_bind (wpAny_standAt (wpAny_bind (wpAny_mono h (fun it' s' h' => wpAny_pure (And.intro rfl h')) fun _ _ x => x))))
end

section
variable {K : Cx} {n : Nat} {F : Fm} {P : Out → Prop}

theorem flat_one {α : Type} (b : α → Bool) (g : α → D) : ∀ l : List α, (l.flatMap fun x => if b x then [g x] else []) = (l.filter b).map g := fun l => by
  induction l with
  | nil => rfl
  | cons x l ih =>
    rw [List.flatMap_cons, ih, List.filter_cons]
    cases b x <;> simp

theorem FrOK.wider {acc : Addr} {s : Shared} (h : FrOK K F s) (ha : AccOK K F acc) : FrOK K { F with W := fun a => F.W a ∨ a = acc } s where
  ok := { h.ok with
    modL := .inl h.ok.modL
    locs := fun p hp => by
      have := h.ok.locs p hp
      revert this
      generalize p.loc = l
      intro this
      cases l with
      | loc => exact this
      | cell c => exact ⟨this.1, this.2.1, .inl this.2.2.1, this.2.2.2⟩
      | free c => exact this
    WN := fun a q => q.elim (h.ok.WN a) fun q => ha.ap.N a q
    base := fun a q => q.elim (h.ok.base a) fun q => q ▸ ⟨ha.base, ha.tb⟩
    owns := fun p hp a ds e => ⟨.inl (h.ok.owns p hp a ds e).1, (h.ok.owns p hp a ds e).2⟩ }
  inv := h.inv
  ns := h.ns
  alloc := h.alloc

/-- the inner clause of two -/
theorem emit_loop {β : Type} {acc : Addr} {elt t2 i2 : Expr} {ifs : List Expr} {g1 : Comprehension} {scope : Scope} {pos : Pos} {tup : Bool} {ys : List β} {f : β → D} {ρt : β → List Var} {b : β → Bool} {g : β → D}
    (ha : AccOK K F acc) (hno : NoOwn F.ρ) (ht : TgtOK tup t2) (hi : Itr K n { F with W := fun a => F.W a ∨ a = acc } i2 tup (ys.map f))
    (hasg : ∀ fp, ∀ y ∈ ys, Asg K (F.more fp) t2 (f y) (ρt y)) (hfg : ∀ y ∈ ys, Forget (ρt y) F.ρ) (htests : ∀ fp, ∀ y ∈ ys, Tests K n ((F.more fp).at (ρt y)) ifs (b y))
    (helt : ∀ fp, ∀ y ∈ ys, b y = true → Ev K n ((F.more fp).at (ρt y)) elt (g y)) (hs : ∀ x, foldedSetIterable i2 F.env x = pure x) :
    Emit K n F acc (do
      let x ← eval i2 F.env
      standAt i2.pos
      let x ← foldedSetIterable i2 F.env x
      let _ ← runOwn (.compStart (.ListComp elt [g1, ⟨t2, i2, ifs, 0⟩] scope pos) 1 (← holding [x] (pyIter x)) (.ref acc) F.env) F.env) ((ys.filter b).map g) := fun R hF hl hr hz hQ => by
  rename_i A s Q E items ds0
  refine wpAny_bind (wpAny_mono (hi R (hF.wider ha) fun it fp V s₁ x₁ hfp hV hit hself => ?_) (fun v s₁ h₁ => wpAny_bind (wpAny_standAt (wpAny_bind (wpAny_of_eq (hs v) (wpAny_bind (wpAny_holding h₁)))))) fun _ _ h => h)
  have low := hF.low
  have hF1 := hF.more x₁ hfp
  have apF : Apart (F.more fp) fp := ⟨fun a q => .inr q, fun q => absurd low.loc (Nat.not_lt.mpr (hfp _ q).1), fun p hp c hc q => absurd (low.cell p hp c hc) (Nat.not_lt.mpr (hfp _ q).1)⟩
  have apA : Apart (F.more fp) (· = acc) := ⟨fun a q => .inl (ha.ap.N a q), ha.ap.loc, ha.ap.cell⟩
  have haA : AccOK K (F.more fp) acc := ⟨apA, ha.base, ha.tb, ha.nw⟩
  have l1 : s₁.heap.PlainList acc items := PlainList_keep hl fun o e => x₁.heap _ _ (fun q => q) ha.tb e
  have r1 : Reps (F.more fp).N s₁.heap ds0 items.toList := Reps.keep (fun a hs q => q.elim id fun q => by obtain ⟨o, e⟩ := Option.isSome_iff_exists.mp hs; exact absurd (Heap.lt_size e) (Nat.not_lt.mpr (hfp a q).1))
    (fun b o hb e => x₁.heap b o (fun q => q) (fun q => hb (hF.ok.TN _ q)) e) hr
  have accN : F.N acc := ha.ap.N acc rfl
  have hitOK := hit (fun a => F.W a ∨ a = acc) (F.more fp).N s₁ (Ext.refl _) (fun a q => .inl q) (fun a q => q.elim (fun q => .inl (hF.ok.WN a q)) fun q => .inl (ha.ap.N a q)) (fun a q => .inl q) (fun a q => .inr q)
    (fun a q => q.imp id .inl) hF1.alloc
  have loop : codeAny K.M A (.compLoop (.ListComp elt [g1, ⟨t2, i2, ifs, 0⟩] scope pos) 1 it (.ref acc) F.env) (fun r s' => match r with | .ok _ => Q () s' | .error e => cameBackBy K.M A F.env E e s') s₁ := by
    refine comp_loop (F := F.more fp) (b := b) (out := fun y => if b y then [g y] else []) (ds0 := ds0) (m := do let _ ← call (.builtin "list.append") [.ref acc, ← eval elt (F.more fp).env]) (p := i2.pos) rfl R ht haA apF
      (fun q => absurd (hF.alloc _ accN) (Nat.not_lt.mpr (hfp _ q).1)) (fun a q => (fresh_facts hF (hfp a q).1).2.2.1) hno hF1 hitOK l1 r1 (hasg fp) hfg (htests fp) (fun y hy hb => ?_) (fun y hy hb => by simp [hb]) ?_ ?_
    · simp only [hb, if_true]
      exact emit_elt (F := (F.more fp).at (ρt y)) ⟨apA.shape ((hfg y hy).keys).symm, ha.base, ha.tb, ha.nw⟩ ((hfg y hy).own hno) (helt fp y hy hb)
    · rw [flat_one]; exact hz
    · intro s' items' hF' x' l' r'
      rw [flat_one] at r'
      refine hQ s' items' (hF'.less (F := F) (ρ := F.ρ) hF.ok.WN hF.ok.TN hF.ok.NoN fun p hp a ds e => absurd e (hno p hp a ds)) ?_ l' (Reps.keep (fun a _ q => .inl q) (fun _ _ _ e => e) r')
      exact (x₁.of0.trans (x'.mono (W' := fun a => (F.W a ∨ a = acc) ∨ s.heap.objs.size ≤ a) (V' := fun g => s.gens.size ≤ g) (fun a _ q => q.imp id fun q => (hfp a q).1) fun g _ q => hV g q)).mono
        (fun a hs q => q.elim id fun q => by obtain ⟨o, e⟩ := Option.isSome_iff_exists.mp hs; exact absurd (Heap.lt_size e) (Nat.not_lt.mpr q)) (fun g hg q => absurd hg (Nat.not_lt.mpr q))
  refine wpAny_bind (wpAny_runOwn ?_)
  refine codeAny_mono (codeAny_compStart2 loop (hself A _ _ _ (Ext.refl _) loop)) fun r s' h => ?_
  cases r with
  | ok _ => exact wpAny_pure h
  | error _ => exact h

theorem turn2 {elt t1 i1 t2 i2 : Expr} {ifs : List Expr} {scope : Scope} {pos : Pos} {it acc : Value} {env : Env} :
    compTurn (.ListComp elt [⟨t1, i1, [], 0⟩, ⟨t2, i2, ifs, 0⟩] scope pos) 0 it acc env = turnOf t1 [] i1.pos (do
      let x ← eval i2 env
      standAt i2.pos
      let x ← foldedSetIterable i2 env x
      let _ ← runOwn (.compStart (.ListComp elt [⟨t1, i1, [], 0⟩, ⟨t2, i2, ifs, 0⟩] scope pos) 1 (← holding [x] (pyIter x)) acc env) env) (.ListComp elt [⟨t1, i1, [], 0⟩, ⟨t2, i2, ifs, 0⟩] scope pos) 0 it acc env := by
  have e : compTurn (.ListComp elt [⟨t1, i1, [], 0⟩, ⟨t2, i2, ifs, 0⟩] scope pos) 0 it acc env = (do
      standAt i1.pos
      match ← pyNext it with
      | none => pure (.done .next)
      | some v =>
        letOwnedTupleGo t1 it v
        assign t1 env v
        let mut ok := true
        for c in ([] : List Expr) do
          if ok then ok ← isTrue c env (eval c env)
        if ok then
          let x ← eval i2 env
          standAt i2.pos
          let x ← foldedSetIterable i2 env x
          let _ ← runOwn (.compStart (.ListComp elt [⟨t1, i1, [], 0⟩, ⟨t2, i2, ifs, 0⟩] scope pos) 1 (← holding [x] (pyIter x)) acc env) env
        again (.compLoop (.ListComp elt [⟨t1, i1, [], 0⟩, ⟨t2, i2, ifs, 0⟩] scope pos) 0 it acc env)) := rfl
  rw [e]
  unfold turnOf
  simp only [bind_assoc, pure_bind]
  all_goals rfl

theorem loop2 {α β : Type} {elt t1 i1 t2 i2 : Expr} {ifs : List Expr} {scope : Scope} {pos : Pos} {sh : Sh} {gl : List Str} {tup tup2 : Bool} {xs : List α} {f : α → D} {ρ1 : Addr → α → List Var}
    {ys : List β} {f2 : β → D} {ρ2 : Addr → α → β → List Var} {b : α → β → Bool} {g : α → β → D} (ht : TgtOK tup t1) (ht2 : TgtOK tup2 t2)
    (hasg : ∀ C acc fp, ∀ x ∈ xs, Asg K (cFm F scope C acc fp sh gl) t1 (f x) (ρ1 C x)) (hfg : ∀ C, ∀ x ∈ xs, Forget (ρ1 C x) (sh.vars C))
    (hi2 : ∀ C acc fp W, ∀ x ∈ xs, Itr K n { ((cFm F scope C acc fp sh gl).at (ρ1 C x)) with W := W } i2 tup2 (ys.map f2))
    (hasg2 : ∀ C acc fp fp2, ∀ x ∈ xs, ∀ y ∈ ys, Asg K (((cFm F scope C acc fp sh gl).at (ρ1 C x)).more fp2) t2 (f2 y) (ρ2 C x y)) (hfg2 : ∀ C, ∀ x ∈ xs, ∀ y ∈ ys, Forget (ρ2 C x y) (ρ1 C x))
    (htests : ∀ C acc fp fp2, ∀ x ∈ xs, ∀ y ∈ ys, Tests K n ((((cFm F scope C acc fp sh gl).at (ρ1 C x)).more fp2).at (ρ2 C x y)) ifs (b x y))
    (helt : ∀ C acc fp fp2, ∀ x ∈ xs, ∀ y ∈ ys, b x y = true → Ev K n ((((cFm F scope C acc fp sh gl).at (ρ1 C x)).more fp2).at (ρ2 C x y)) elt (g x y))
    (hz : (xs.flatMap fun x => (ys.filter (b x)).map (g x)).length ≤ sizeLine) (hs2 : ∀ env x, foldedSetIterable i2 env x = pure x := by intro _ _; rfl) :
    LoopOK K n F (.ListComp elt [⟨t1, i1, [], 0⟩, ⟨t2, i2, ifs, 0⟩] scope pos) scope sh gl tup (xs.map f) (xs.flatMap fun x => (ys.filter (b x)).map (g x)) := by
  intro C acc fp V it A R s Rm ha hap hfa hbt hF hit hl hR
  refine comp_loop (F := cFm F scope C acc fp sh gl) (b := fun _ => true) (out := fun x => (ys.filter (b x)).map (g x)) (ds0 := []) (p := i1.pos)
    (m := do
      let x ← eval i2 (cFm F scope C acc fp sh gl).env
      standAt i2.pos
      let x ← foldedSetIterable i2 (cFm F scope C acc fp sh gl).env x
      let _ ← runOwn (.compStart (.ListComp elt [⟨t1, i1, [], 0⟩, ⟨t2, i2, ifs, 0⟩] scope pos) 1 (← holding [x] (pyIter x)) (.ref acc) (cFm F scope C acc fp sh gl).env) (cFm F scope C acc fp sh gl).env) turn2 Rm ht ha hap hfa hbt (sh.noOwn C) hF hit hl .nil
    (hasg C acc fp) (hfg C) (fun x hx => tests_nil) (fun x hx hb => ?_) (fun x hx hb => by cases hb) (by rw [List.length_nil, Nat.zero_add]; exact hz) fun s' items' hF' x' l' r' => hR s' items' hF' x' l' (by rw [List.nil_append] at r'; exact r')
  exact emit_loop (F := (cFm F scope C acc fp sh gl).at (ρ1 C x)) ⟨ha.ap.shape ((hfg C x hx).keys).symm, ha.base, ha.tb, ha.nw⟩ ((hfg C x hx).own (sh.noOwn C)) ht2 (hi2 C acc fp _ x hx)
    (fun fp2 y hy => hasg2 C acc fp fp2 x hx y hy) (fun y hy => hfg2 C x hx y hy) (fun fp2 y hy => htests C acc fp fp2 x hx y hy) (fun fp2 y hy hb => helt C acc fp fp2 x hx y hy hb) (hs2 _)
end
end

/-! # part F18 -/
section
theorem pushCells_facts : ∀ (names : List (Str × NameKind)) (h : Heap), (pushCells h names).objs.size = h.objs.size + cellCount names ∧ ∀ i, i < cellCount names → (pushCells h names).IsCell (h.objs.size + i) none := by
  intro names
  induction names with
  | nil => intro h; exact ⟨rfl, fun i hi => absurd hi (Nat.not_lt_zero _)⟩
  | cons p r ih =>
    intro h
    obtain ⟨x, k⟩ := p
    unfold pushCells cellCount
    split
    · obtain ⟨a1, a2⟩ := ih (h.push { cls := .type "cell", data := .cell none })
      rw [Heap.size_push] at a1 a2
      refine ⟨by rw [a1]; omega, fun i hi => ?_⟩
      cases i with
      | zero => exact ⟨_, pushCells_keeps r _ _ _ (Heap.get?_push_size _ rfl), rfl⟩
      | succ i =>
        have := a2 i (by omega)
        rwa [show h.objs.size + 1 + i = h.objs.size + (i + 1) by omega] at this
    · obtain ⟨a1, a2⟩ := ih h
      refine ⟨by rw [a1]; omega, fun i hi => a2 i (by omega)⟩

/-- the state a function is entered in -/
structure FnIn (K : Cx) (N0 W0 : Addr → Prop) (s : Shared) : Prop where
  inv : Inv K s
  TN : ∀ a, K.Tb a → N0 a
  al : ∀ a, N0 a → a < s.heap.objs.size
  WN : ∀ a, W0 a → N0 a
  base : ∀ a, W0 a → K.g0.get? a = none ∧ ¬ K.Tb a

structure FSh where
  lv : List Str
  cv : List (Str × Nat) := []
  fv : List (Str × Addr × En) := []

noncomputable def FSh.vars (sh : FSh) (L : Addr) : List Var :=
  sh.lv.map (fun x => ⟨x, .loc, .un⟩) ++ (sh.cv.map (fun p => ⟨p.1, .cell (L + 1 + p.2), .un⟩) ++ sh.fv.map (fun p => ⟨p.1, .free p.2.1, p.2.2⟩))

noncomputable def fEnv (scope : Scope) (L : Addr) (cl : List (Str × Addr)) (qual : Str) (self : Addr) (code : Value) : Env :=
  { scope, locals := L, globals := mainGlobals, cells := cellsFrom (L + 1) scope.names cl, qual, func := some self, code, frame := some L, builtins := builtinsNs }

noncomputable def fFm (env : Env) (N0 W0 : Addr → Prop) (ρ : List Var) (gl : List Str) : Fm where
  W a := W0 a ∨ (env.locals ≤ a ∧ a < env.locals + 1 + cellCount env.scope.names)
  N a := N0 a ∨ (env.locals ≤ a ∧ a < env.locals + 1 + cellCount env.scope.names)
  No := N0
  env := env
  ρ := ρ
  gl := gl

structure FvOK (K : Cx) (N0 W0 : Addr → Prop) (cl : List (Str × Addr)) (s : Shared) (fv : List (Str × Addr × En)) : Prop where
  look : ∀ p ∈ fv, cl.lookup p.1 = some p.2.1
  cell : ∀ p ∈ fv, ¬ K.Tb p.2.1 ∧ ∃ v, s.heap.IsCell p.2.1 v ∧ EnOK N0 s.heap p.2.2 v
  own : ∀ p ∈ fv, ∀ a ds, p.2.2 = .own a ds → W0 a ∧ ∀ q ∈ fv, ∀ ds', q.2.2 = .own a ds' → p.1 = q.1

theorem FvOK.nil {K : Cx} {N0 W0 : Addr → Prop} {cl : List (Str × Addr)} {s : Shared} : FvOK K N0 W0 cl s [] := ⟨fun _ h => (nomatch h), fun _ h => (nomatch h), fun _ h => (nomatch h)⟩

section
variable {K : Cx} {n : Nat}

theorem fn_fresh {N0 W0 : Addr → Prop} {s : Shared} (h : FnIn K N0 W0 s) {a : Addr} (ha : s.heap.objs.size ≤ a) : ¬ W0 a ∧ ¬ N0 a ∧ K.g0.get? a = none ∧ ¬ K.Tb a := by
  have hn : ¬ N0 a := fun q => absurd (h.al a q) (Nat.not_lt.mpr ha)
  refine ⟨fun q => hn (h.WN a q), hn, ?_, fun q => hn (h.TN a q)⟩
  cases e : K.g0.get? a with
  | none => rfl
  | some o => exact absurd (Heap.lt_size e) (Nat.not_lt.mpr (Nat.le_trans h.inv.low ha))

theorem fn_frame {scope : Scope} {L self : Addr} {cl : List (Str × Addr)} {qual : Str} {code : Value} {sh : FSh} {fvn gl : List Str} {N0 W0 : Addr → Prop} {s s₃ : Shared} (hI : FnIn K N0 W0 s) (x : E0 K s s₃)
    (hk : compOk scope sh.lv sh.cv fvn gl = true) (hfv : sh.fv.map (·.1) = fvn) (hsh : FvOK K N0 W0 cl s sh.fv)
    (hL : s.heap.objs.size = L) (hz : L + 1 + cellCount scope.names = s₃.heap.objs.size)
    (hns : s₃.heap.Ns L (fun _ => none)) (hcells : ∀ i, i < cellCount scope.names → s₃.heap.IsCell (L + 1 + i) none) : FrOK K (fFm (fEnv scope L cl qual self code) N0 W0 (sh.vars L) gl) s₃ := by
  subst hfv
  unfold compOk at hk
  simp only [Bool.and_eq_true, decide_eq_true_eq, List.all_eq_true, beq_iff_eq, Bool.not_eq_true', Bool.or_eq_true, bne_iff_ne, ne_eq, List.contains_iff_mem] at hk
  obtain ⟨⟨⟨⟨⟨⟨⟨⟨⟨k1, k2⟩, k3⟩, k4⟩, k5⟩, k6⟩, k7⟩, k8⟩, k9⟩, k10⟩ := hk
  have hsC : s.heap.objs.size ≤ L := Nat.le_of_eq hL
  have names : (sh.vars L).map Var.x = sh.lv ++ (sh.cv.map (·.1) ++ sh.fv.map (·.1)) := by
    unfold FSh.vars
    simp only [List.map_append, List.map_map]
    congr 1
    · exact List.map_id' _
  have inv : ∀ p ∈ sh.vars L, (∃ y ∈ sh.lv, p = ⟨y, .loc, .un⟩) ∨ (∃ q ∈ sh.cv, p = ⟨q.1, .cell (L + 1 + q.2), .un⟩) ∨ (∃ q ∈ sh.fv, p = ⟨q.1, .free q.2.1, q.2.2⟩) := fun p hp => by
    unfold FSh.vars at hp
    rcases List.mem_append.mp hp with hp | hp
    · obtain ⟨y, hy, rfl⟩ := List.mem_map.mp hp; exact .inl ⟨y, hy, rfl⟩
    · rcases List.mem_append.mp hp with hp | hp
      · obtain ⟨y, hy, rfl⟩ := List.mem_map.mp hp; exact .inr (.inl ⟨y, hy, rfl⟩)
      · obtain ⟨y, hy, rfl⟩ := List.mem_map.mp hp; exact .inr (.inr ⟨y, hy, rfl⟩)
  have fvlt : ∀ q ∈ sh.fv, q.2.1 < s.heap.objs.size := fun q hq => by
    obtain ⟨_, v, e, _⟩ := hsh.cell q hq
    exact e.lt
  refine ⟨⟨k1, rfl, rfl, by rw [show (fFm (fEnv scope L cl qual self code) N0 W0 (sh.vars L) gl).ρ = sh.vars L from rfl, names]; exact k3, ?_, ?_, ?_, ?_, .inr ⟨Nat.le_refl _, Nat.lt_of_lt_of_le (Nat.lt_succ_self _) (Nat.le_add_right _ _)⟩, fun a q => q.imp (hI.WN a) id, fun a q => .inl (hI.TN a q), fun a q => .inl q, ?_, ?_⟩, x.inv hI.inv, ⟨_, hns, ?_⟩, ?_⟩
  · intro p hp
    rcases inv p hp with ⟨y, hy, rfl⟩ | ⟨q, hq, rfl⟩ | ⟨q, hq, rfl⟩
    · exact k5 y hy
    · obtain ⟨⟨h1, h2⟩, h3⟩ := k6 q hq
      refine ⟨h1, ?_, .inr ⟨Nat.le_trans (Nat.le_succ L) (Nat.le_add_right _ _), Nat.add_lt_add_left h3 _⟩, ?_⟩
      · show (cellsFrom (L + 1) scope.names cl).lookup q.1 = _
        rw [cellsFrom_lookup _ _ _ k2, h2]
      · exact Nat.ne_of_gt (Nat.lt_of_lt_of_le (Nat.lt_succ_self L) (Nat.le_add_right _ _))
    · have h1 := k7 q.1 (List.mem_map_of_mem hq)
      refine ⟨.inr h1, ?_, (hsh.cell q hq).1, ?_⟩
      · show (cellsFrom (L + 1) scope.names cl).lookup q.1 = _
        rw [cellsFrom_lookup _ _ _ k2, cellNo_none (by nofun) k2 h1]
        exact hsh.look q hq
      · exact Nat.ne_of_lt (Nat.lt_of_lt_of_le (fvlt q hq) hsC)
  · intro y hy
    exact k8 y hy
  · intro p hp
    refine k9 p.x ?_
    rw [← names]
    exact List.mem_map_of_mem hp
  · intro p hp q hq c hpc hqc
    rcases inv p hp with ⟨y, hy, rfl⟩ | ⟨y, hy, rfl⟩ | ⟨y, hy, rfl⟩
    · cases hpc
    · injection hpc with hpc
      rcases inv q hq with ⟨z, hz, rfl⟩ | ⟨z, hz, rfl⟩ | ⟨z, hz, rfl⟩
      · rcases hqc with h | h <;> cases h
      · rcases hqc with h | h
        · injection h with h
          have e : y.2 = z.2 := Nat.add_left_cancel (hpc.trans h.symm)
          have : ∀ {l : List (Str × Nat)}, (l.map (·.2)).Nodup → y ∈ l → z ∈ l → y = z := by
            intro l
            induction l with
            | nil => intro _ h; cases h
            | cons a l ih =>
              intro hn h1 h2
              rw [List.map_cons, List.nodup_cons] at hn
              rcases List.mem_cons.mp h1 with h1 | h1 <;> rcases List.mem_cons.mp h2 with h2 | h2
              · rw [h1, h2]
              · exact absurd (by rw [← h1, e]; exact List.mem_map_of_mem h2) hn.1
              · exact absurd (by rw [← h2, ← e]; exact List.mem_map_of_mem h1) hn.1
              · exact ih hn.2 h1 h2
          rw [this k4 hy hz]
        · cases h
      · rcases hqc with h | h
        · cases h
        · injection h with h
          have := fvlt z hz
          rw [h, ← hpc] at this
          exact absurd (Nat.lt_of_le_of_lt (Nat.le_trans hsC (Nat.le_trans (Nat.le_succ L) (Nat.le_add_right _ y.2))) this) (Nat.lt_irrefl _)
    · cases hpc
  · intro a q
    rcases q with q | q
    · exact hI.base a q
    · have := fn_fresh hI (Nat.le_trans hsC q.1)
      exact ⟨this.2.2.1, this.2.2.2⟩
  · intro p hp a ds e
    rcases inv p hp with ⟨y, hy, rfl⟩ | ⟨y, hy, rfl⟩ | ⟨y, hy, rfl⟩
    · cases e
    · cases e
    · obtain ⟨o1, o2⟩ := hsh.own y hy a ds e
      refine ⟨.inl o1, fun q hq ds' e' => ?_⟩
      rcases inv q hq with ⟨z, hz, rfl⟩ | ⟨z, hz, rfl⟩ | ⟨z, hz, rfl⟩
      · cases e'
      · cases e'
      · exact o2 z hz ds' e'
  · intro p hp
    rcases inv p hp with ⟨y, hy, rfl⟩ | ⟨q, hq, rfl⟩ | ⟨q, hq, rfl⟩
    · trivial
    · exact ⟨_, hcells q.2 (k6 q hq).2, trivial⟩
    · obtain ⟨htb, v, ⟨o, e1, e2⟩, hen⟩ := hsh.cell q hq
      refine ⟨v, ⟨o, x.heap _ _ (fun q => q) htb e1, e2⟩, ?_⟩
      have hN : ∀ a, (s.heap.get? a).isSome → (N0 a ∨ (L ≤ a ∧ a < L + 1 + cellCount scope.names)) → N0 a := fun a hs q => q.elim id fun q => by
        obtain ⟨o, e⟩ := Option.isSome_iff_exists.mp hs
        exact absurd (Heap.lt_size e) (Nat.not_lt.mpr (hL ▸ q.1))
      have kk : ∀ b o, ¬ N0 b → s.heap.get? b = some o → s₃.heap.get? b = some o := fun b o hb e => x.heap b o (fun q => q) (fun q => hb (hI.TN b q)) e
      obtain ⟨qx, qc, qe⟩ := q
      dsimp only at hen ⊢
      cases qe with
      | un => trivial
      | val d => obtain ⟨u, e3, r⟩ := hen; exact ⟨u, e3, r.keep hN kk⟩
      | raw u => exact hen
      | own a ds =>
        obtain ⟨e3, hn, its, hl, hr⟩ := hen
        have hWa := (hsh.own _ hq a ds rfl).1
        exact ⟨e3, .inl hn, its, PlainList_keep hl fun o e => x.heap _ _ (fun q => q) (hI.base a hWa).2 e, Reps.keep hN kk hr⟩
  · intro a q
    rcases q with q | q
    · exact Nat.lt_of_lt_of_le (hI.al a q) x.size
    · exact hz ▸ q.2

/-- the parameters take their values -/
inductive Takes : List (Str × D) → List Var → List Var → Prop
  | nil {ρ : List Var} : Takes [] ρ ρ
  | cons {x : Str} {d : D} {r : List (Str × D)} {ρ ρ₁ ρ₂ : List Var} : Upd x (.val d) ρ ρ₁ → Takes r ρ₁ ρ₂ → Takes ((x, d) :: r) ρ ρ₂

/-- a block by what its end says of the state -/
noncomputable def BlkS (K : Cx) (n : Nat) (F : Fm) (sts : List Stmt) (R2 : Flow → Shared → Prop) : Prop :=
  ∀ {A : Around} {s : Shared} {Q : Flow → Shared → Prop} {E : Value → Shared → Prop}, Room A n → FrOK K F s →
    (∀ f s', R2 f s' → Ext K F.W no s s' → Q f s') → wpAny K.M A (execs sts F.env) Q E s

/-- a function's call, from its body -/
theorem fn_runS {f : Addr} {o : Obj} {fd : FuncData} {scope : Scope} {body : List Stmt} {cl : List (Str × Addr)} {code : Value} {sh : FSh} {fvn gl : List Str} {N0 W0 : Addr → Prop} {s : Shared} {A : Around} {vs : List Value} {names : List Str} {ws : List Value} {ds : List D} {R2 : Addr → Flow → Shared → Prop} {ρ0 : Addr → List Var}
    {Q : Value → Shared → Prop} {E : Value → Shared → Prop}
    (ho : s.heap.get? f = some o) (hd : o.data = .func fd) (hsc : fd.scope = scope) (hgl : fd.globals = mainGlobals) (hbl : fd.builtins = builtinsNs) (hcl : fd.closure = cl) (hb : fd.body = .stmts body) (hcode : fd.code = code)
    (hrec : s.heap.CodeRec fd.code fd.qualname) (hco : scope.isCoroutine = false) (hgen : scope.isGenerator = false)
    (hbind : ∀ (A : Around) (Q : List (Str × Value) → Shared → Prop) (E : Value → Shared → Prop), Q (names.zip ws) s → wpAny K.M A (bindArgs fd ⟨vs, []⟩) Q E s)
    (R : Room A (n + 1)) (hI : FnIn K N0 W0 s) (hk : compOk scope sh.lv sh.cv fvn gl = true) (hfv : sh.fv.map (·.1) = fvn) (hsh : FvOK K N0 W0 cl s sh.fv)
    (hes : Reps N0 s.heap ds ws) (hnl : names.length = ws.length) (htk : ∀ L, Takes (names.zip ds) (sh.vars L) (ρ0 L))
    (hbody : ∀ L, BlkS K n (fFm (fEnv scope L cl (fd.qualname ++ ".<locals>.") f code) N0 W0 (ρ0 L) gl) body (R2 L))
    (hQ : ∀ fl s' L, R2 L fl s' → Ext K W0 no s s' → Q (match fl with | .ret v => v | _ => .none) s') : wpAny K.M A (call (.ref f) vs) Q E s := by
  subst hsc hcl hcode
  have hnl0 : s.heap.NoLimit := K.nolim.at fun o e => hI.inv.keep _ o e
  refine wpAny_call (codeAny_call_function (by have := R.depth; omega) ho hd hco hgen hb hrec (hbind _ _ _ ?_))
  simp only [newFunctionEnv, Option.isSome_none, Bool.false_eq_true, if_false]
  refine wpAny_bind (wpAny_alloc ?_)
  refine wpAny_bind (wpAny_layCells _ (fun name kind cells => by cases hkc : kind == NameKind.cell <;> simp [hkc]) _ _ _ _ ?_)
  rw [show ({ s with heap := s.heap.push { cls := .type "frame", data := .dict #[] } } : Shared).heap.objs.size = s.heap.objs.size + 1 from Heap.size_push ..]
  obtain ⟨a1, a2⟩ := pushCells_facts fd.scope.names (s.heap.push { cls := .type "frame", data := .dict #[] })
  rw [Heap.size_push] at a1 a2
  generalize hL : s.heap.objs.size = L at *
  have hkeep : ∀ b o, s.heap.get? b = some o → (pushCells (s.heap.push { cls := .type "frame", data := .dict #[] }) fd.scope.names).get? b = some o := fun b o e => pushCells_keeps _ _ b o (Heap.get?_push_of_some _ e)
  have hns : (pushCells (s.heap.push { cls := .type "frame", data := .dict #[] }) fd.scope.names).Ns L (fun _ => none) := hL ▸ (Heap.Ns.new s.heap (.type "frame")).keeps (pushCells_keeps _ _)
  generalize hH : pushCells (s.heap.push { cls := .type "frame", data := .dict #[] }) fd.scope.names = H at *
  have x0 : E0 K s { s with heap := H } := E0.grow (tk := s.toks) hkeep (by rw [a1, hL]; omega)
  rw [hgl, hbl]
  have hfr := fn_frame (self := f) (qual := fd.qualname ++ ".<locals>.") (code := fd.code) hI x0 hk hfv hsh hL a1.symm hns a2
  generalize hF : fFm (fEnv fd.scope L fd.closure (fd.qualname ++ ".<locals>.") f fd.code) N0 W0 (sh.vars L) gl = F at hfr
  have henv : F.env = fEnv fd.scope L fd.closure (fd.qualname ++ ".<locals>.") f fd.code := by rw [← hF]; rfl
  have hNN : ∀ a, N0 a → F.N a := by rw [← hF]; exact fun a q => .inl q
  have hNb : ∀ a, (s.heap.get? a).isSome → F.N a → N0 a := fun a hs q => by
    rw [← hF] at q
    rcases q with q | q
    · exact q
    · obtain ⟨o, e⟩ := Option.isSome_iff_exists.mp hs
      exact absurd (Heap.lt_size e) (Nat.not_lt.mpr (by rw [hL]; exact q.1))
  have hTN : ∀ a, K.Tb a → F.N a := fun a q => hNN a (hI.TN a q)
  -- the parameters
  have loop : ∀ (names : List Str) (ws : List Value) (ds : List D) (ρ ρ' : List Var) (s₁ : Shared) (E' : Value → Shared → Prop) (Q' : PUnit → Shared → Prop), Reps F.N s₁.heap ds ws → names.length = ws.length → Takes (names.zip ds) ρ ρ' → FrOK K (F.at ρ) s₁ →
      Ext K F.W no s s₁ → (∀ s₂, FrOK K (F.at ρ') s₂ → Ext K F.W no s s₂ → Q' PUnit.unit s₂) →
      wpAny K.M A.in1 (forIn (names.zip ws) PUnit.unit fun x r => do storeName F.env x.1 x.2; pure (ForInStep.yield PUnit.unit)) Q' E' s₁ := by
    intro names
    induction names with
    | nil =>
      intro ws ds ρ ρ' s₁ E' Q' _ _ ht hF x hq
      rw [List.zip_nil_left] at ht
      cases ht
      rw [List.zip_nil_left, List.forIn_nil]
      exact wpAny_pure (hq _ hF x)
    | cons y ys ih =>
      intro ws ds ρ ρ' s₁ E' Q' he hl ht hF x hq
      cases he with
      | nil => cases hl
      | cons h1 h2 =>
        rw [List.zip_cons_cons] at ht ⊢
        cases ht with
        | cons u ht =>
          rw [List.forIn_cons]
          refine wpAny_bind (wpAny_bind (store_val (F := F.at ρ) hF u h1 fun s' X hF' => wpAny_pure ?_))
          exact ih _ _ _ ρ' s' E' Q' (Reps.ext X hF.ok.WN hF.ok.TN h2) (Nat.succ.inj hl) ht hF' (x.trans X) hq
  have hρ : F.ρ = sh.vars L := by rw [← hF]; rfl
  refine wpAny_bind (m := forIn (names.zip ws) PUnit.unit fun x r => do storeName (fEnv fd.scope L fd.closure (fd.qualname ++ ".<locals>.") f fd.code) x.1 x.2; pure (ForInStep.yield PUnit.unit)) ?_
  rw [← henv]
  refine loop names ws ds (sh.vars L) (ρ0 L) _ _ _ (Reps.keep hNb (fun b o hb e => hkeep b o e) hes) hnl (htk L) (by rw [← hρ]; exact hfr) x0.of0 fun s₂ hF₂ x₂ => wpAny_pure ?_
  refine ⟨K.nolim.at fun o e => hF₂.inv.keep _ o e, ?_⟩
  show codeAny K.M A (.func body (fEnv fd.scope L fd.closure (fd.qualname ++ ".<locals>.") f fd.code)) _ s₂
  refine codeAny_func ?_
  have hF₂' : FrOK K (fFm (fEnv fd.scope L fd.closure (fd.qualname ++ ".<locals>.") f fd.code) N0 W0 (ρ0 L) gl) s₂ := by rw [← hF] at hF₂; exact hF₂
  refine hbody L R.deeper hF₂' fun fl s₃ hp x₃ => ?_
  refine hQ fl s₃ L hp ?_
  rw [← hF] at x₂
  refine (x₂.trans x₃).mono (fun a hs q => q.elim id fun q => ?_) fun _ _ q => q
  obtain ⟨o, e⟩ := Option.isSome_iff_exists.mp hs
  exact absurd (Heap.lt_size e) (Nat.not_lt.mpr (by rw [hL]; exact q.1))

/-- a function's call, from its body -/
theorem fn_run {f : Addr} {o : Obj} {fd : FuncData} {scope : Scope} {body : List Stmt} {cl : List (Str × Addr)} {code : Value} {sh : FSh} {fvn gl : List Str} {N0 W0 : Addr → Prop} {s : Shared} {A : Around} {vs : List Value} {names : List Str} {ws : List Value} {ds : List D} {P : Out → Prop} {ρ0 : Addr → List Var}
    {Q : Value → Shared → Prop} {E : Value → Shared → Prop}
    (ho : s.heap.get? f = some o) (hd : o.data = .func fd) (hsc : fd.scope = scope) (hgl : fd.globals = mainGlobals) (hbl : fd.builtins = builtinsNs) (hcl : fd.closure = cl) (hb : fd.body = .stmts body) (hcode : fd.code = code)
    (hrec : s.heap.CodeRec fd.code fd.qualname) (hco : scope.isCoroutine = false) (hgen : scope.isGenerator = false)
    (hbind : ∀ (A : Around) (Q : List (Str × Value) → Shared → Prop) (E : Value → Shared → Prop), Q (names.zip ws) s → wpAny K.M A (bindArgs fd ⟨vs, []⟩) Q E s)
    (R : Room A (n + 1)) (hI : FnIn K N0 W0 s) (hk : compOk scope sh.lv sh.cv fvn gl = true) (hfv : sh.fv.map (·.1) = fvn) (hsh : FvOK K N0 W0 cl s sh.fv)
    (hes : Reps N0 s.heap ds ws) (hnl : names.length = ws.length) (htk : ∀ L, Takes (names.zip ds) (sh.vars L) (ρ0 L))
    (hbody : ∀ L qual, Blk K n (fFm (fEnv scope L cl qual f code) N0 W0 (ρ0 L) gl) body P)
    (hQ : ∀ out fl s' L qual, P out → OutOK K (fFm (fEnv scope L cl qual f code) N0 W0 (ρ0 L) gl) out fl s' → Ext K W0 no s s' → Q (match fl with | .ret v => v | _ => .none) s') : wpAny K.M A (call (.ref f) vs) Q E s :=
  fn_runS (R2 := fun L fl s' => ∃ o, P o ∧ OutOK K (fFm (fEnv scope L cl (fd.qualname ++ ".<locals>.") f code) N0 W0 (ρ0 L) gl) o fl s') ho hd hsc hgl hbl hcl hb hcode hrec hco hgen hbind R hI hk hfv hsh hes hnl htk
    (fun L => fun R' hF' hQ' => hbody L _ R' hF' fun o f s' hp ho x => hQ' f s' ⟨o, hp, ho⟩ x) fun fl s' L ⟨o, hp, ho⟩ x => hQ o fl s' L _ hp ho x
end
end

/-! # part F19 -/
section
section
variable {K : Cx} {n : Nat} {F : Fm} {P : Out → Prop}

/-! ## what a function gives -/
noncomputable def FnSpec (K : Cx) (n : Nat) (v : Value) (ds : List D) (d : D) : Prop :=
  ∀ {N0 : Addr → Prop} {A : Around} {s : Shared} {Q : Value → Shared → Prop} {E : Value → Shared → Prop} {vs : List Value}, Room A n → FnIn K N0 no s → Reps N0 s.heap ds vs → (∀ r s', E0 K s s' → Rep N0 s'.heap d r → Q r s') → wpAny K.M A (call v vs) Q E s

theorem FnSpec.mono {m : Nat} {v : Value} {ds : List D} {d : D} (h : FnSpec K n v ds d) (hm : n ≤ m) : FnSpec K m v ds d := fun R => h (R.mono hm)

/-- a function that the module made -/
structure FnObj (K : Cx) (f : Addr) (scope : Scope) (body : List Stmt) (names : List Str) (dv : List Value) : Prop where
  ex : ∃ o fd, K.g0.get? f = some o ∧ o.data = .func fd ∧ fd.scope = scope ∧ fd.globals = mainGlobals ∧ fd.builtins = builtinsNs ∧ fd.closure = [] ∧ fd.body = .stmts body ∧ K.g0.CodeRec fd.code fd.qualname ∧
    ∀ (vs : List Value) (A : Around) (Q : List (Str × Value) → Shared → Prop) (E : Value → Shared → Prop) (s : Shared), vs.length + dv.length = names.length → Inv K s → Q (names.zip (vs ++ dv)) s → wpAny K.M A (bindArgs fd ⟨vs, []⟩) Q E s

theorem FrOK.fnIn {s : Shared} (h : FrOK K F s) : FnIn K F.N no s := ⟨h.inv, h.ok.TN, h.alloc, fun _ q => q.elim, fun _ q => q.elim⟩

theorem fn_spec {f : Addr} {scope : Scope} {body : List Stmt} {names : List Str} {dv : List Value} {ds dd : List D} {d : D} {sh : FSh} {gl : List Str} {ρ0 : Addr → List Var} (ho : FnObj K f scope body names dv)
    (hdv : ∀ N h, Reps N h dd dv) (hco : scope.isCoroutine = false := by rfl) (hgen : scope.isGenerator = false := by rfl) (hfv : sh.fv = []) (hk : compOk scope sh.lv sh.cv [] gl = true)
    (hn : names.length = ds.length + dd.length) (htk : ∀ L, Takes (names.zip (ds ++ dd)) (sh.vars L) (ρ0 L))
    (hbody : ∀ N0 L qual code, Blk K n (fFm (fEnv scope L [] qual f code) N0 no (ρ0 L) gl) body (fun o => o = .ret d)) : FnSpec K (n + 1) (.ref f) ds d := fun R hI hr hQ => by
  rename_i N0 A s Q E vs
  obtain ⟨o, fd, h1, h2, h3, h4, h5, h6, h7, h8, h9⟩ := ho.ex
  have hl := hr.length
  have hl2 := (hdv N0 s.heap).length
  refine fn_run (P := fun o => o = .ret d) (cl := []) (sh := sh) (fvn := []) (gl := gl) (ds := ds ++ dd) (ws := vs ++ dv) (names := names) (ρ0 := ρ0) (W0 := no) (hI.inv.keep _ _ h1) h2 h3 h4 h5 h6 h7 rfl (h8.keeps hI.inv.keep) hco hgen
    (fun A Q E hq => h9 vs A Q E s (by omega) hI.inv hq) R hI hk (by rw [hfv]; rfl) (by rw [hfv]; exact FvOK.nil) (Reps.append (hdv _ _) hr) (by rw [List.length_append]; omega) htk (fun L qual => hbody N0 L qual _) fun out fl s' L qual hp ho x => ?_
  subst hp
  obtain ⟨v, rfl, r⟩ := ho
  exact hQ v s' x r

theorem ev_call_fn {x : Str} {p pos : Pos} {es : List Expr} {ds : List D} {d : D} {f : Addr} {m : Nat} (hm : x ∈ F.gl) (hg : K.Gl x (.ref f)) (hf : ∃ o fd, K.g0.get? f = some o ∧ o.data = .func fd) (ha : Evs K n F es ds) (hc : FnSpec K m (.ref f) ds d) (hmn : m ≤ n) :
    Ev K n F (.Call (.Name x p) es [] pos) d := fun R hF hQ => by
  obtain ⟨o, fd, h1, h2⟩ := hf
  exact Call_ (load_gl hF hm hg (Calls.callWith_function (o := o) (fd := fd) (evalArgs_run ha R hF fun vs s₁ x₁ r₁ => ⟨⟨(hF.ext0 x₁).inv.keep _ _ h1, h2⟩, hc.mono hmn R (hF.ext0 x₁).fnIn r₁ fun v s₂ x₂ r₂ => hQ v s₂ (x₁.trans x₂) r₂⟩)))

/-! ## lists that a frame may change -/
inductive UpdA (x : Str) (en : En) : List Var → List Var → Prop
  | here {l : Loc} {e0 : En} {ρ : List Var} : UpdA x en (⟨x, l, e0⟩ :: ρ) (⟨x, l, en⟩ :: ρ)
  | there {p : Var} {ρ ρ' : List Var} : UpdA x en ρ ρ' → UpdA x en (p :: ρ) (p :: ρ')

theorem UpdA.keys {x : Str} {en : En} {ρ ρ' : List Var} (u : UpdA x en ρ ρ') : ρ'.map Var.key = ρ.map Var.key := by
  induction u with
  | here => rfl
  | there _ ih => rw [List.map_cons, List.map_cons, ih]
theorem UpdA.spec {x : Str} {en : En} {ρ ρ' : List Var} (u : UpdA x en ρ ρ') : ∃ l e0, (⟨x, l, e0⟩ : Var) ∈ ρ ∧ (⟨x, l, en⟩ : Var) ∈ ρ' ∧ (∀ q ∈ ρ', q = ⟨x, l, en⟩ ∨ q ∈ ρ) := by
  induction u with
  | here => exact ⟨_, _, .head _, .head _, fun q hq => (List.mem_cons.mp hq).imp id fun h => .tail _ h⟩
  | there _ ih =>
    obtain ⟨l, e0, h1, h2, h4⟩ := ih
    refine ⟨l, e0, .tail _ h1, .tail _ h2, fun q hq => ?_⟩
    rcases List.mem_cons.mp hq with rfl | hq
    · exact .inr (.head _)
    · exact (h4 q hq).imp id fun h => .tail _ h

theorem Upd.toA {x : Str} {en : En} {ρ ρ' : List Var} (u : Upd x en ρ ρ') : UpdA x en ρ ρ' := by
  induction u with
  | here _ => exact .here
  | there _ ih => exact .there ih

theorem names_of {ρ ρ' : List Var} (h : ρ'.map Var.key = ρ.map Var.key) (hn : (ρ.map Var.x).Nodup) : (ρ'.map Var.x).Nodup := by rw [keys_names h]; exact hn

/-- the owned list is another one now -/
theorem FrOK.chg {x : Str} {l : Loc} {a : Addr} {ds ds' : List D} {ρ' : List Var} {s s' : Shared} {its : Array Value} (h : FrOK K F s) (hx : (⟨x, l, .own a ds⟩ : Var) ∈ F.ρ) (u : UpdA x (.own a ds') F.ρ ρ') (X : Ext K (· = a) no s s')
    (hl : s'.heap.PlainList a its) (hr : Reps F.N s'.heap ds' its.toList) : FrOK K (F.at ρ') s' := by
  obtain ⟨l', e0, u1, u2, u3⟩ := u.spec
  obtain rfl : l' = l := congrArg Var.loc (nodup_inj h.ok.names u1 hx rfl)
  obtain ⟨hWa, huniq⟩ := h.ok.owns _ hx a ds rfl
  have hnd : (ρ'.map Var.x).Nodup := names_of u.keys h.ok.names
  obtain ⟨m, hn, hv⟩ := h.ns
  have hva := hv _ hx
  have hpl : ∃ its, s.heap.PlainList a its := by
    unfold VarOK at hva
    cases l' with
    | loc => obtain ⟨_, _, i, h1, _⟩ := hva; exact ⟨i, h1⟩
    | cell c => obtain ⟨v, _, _, _, i, h1, _⟩ := hva; exact ⟨i, h1⟩
    | free c => obtain ⟨v, _, _, _, i, h1, _⟩ := hva; exact ⟨i, h1⟩
  obtain ⟨its0, hpl⟩ := hpl
  have hNa := h.ok.WN _ hWa
  refine ⟨{ h.ok with names := hnd, locs := ?_, tame := ?_, apart := ?_, owns := ?_ }, X.inv h.inv, ⟨m, ?_, ?_⟩, fun b q => Nat.lt_of_lt_of_le (h.alloc b q) X.size⟩
  · intro p hp
    obtain ⟨q, hq, e1, e2⟩ := key_back u.keys hp
    have := h.ok.locs q hq
    rw [e1, e2] at this; exact this
  · intro p hp
    obtain ⟨q, hq, e1, e2⟩ := key_back u.keys hp
    rw [← e1]; exact h.ok.tame q hq
  · intro p hp q hq c e1 e2
    obtain ⟨p', hp', a1, a2⟩ := key_back u.keys hp
    obtain ⟨q', hq', b1, b2⟩ := key_back u.keys hq
    rw [← a1, ← b1]
    exact h.ok.apart p' hp' q' hq' c (a2 ▸ e1) (b2 ▸ e2)
  · intro p hp b es e
    have key : ∀ q ∈ ρ', ∀ es', q.en = .own b es' → ∃ q' ∈ F.ρ, q'.x = q.x ∧ ∃ es'', q'.en = .own b es'' := fun q hq es' e' => by
      rcases u3 q hq with rfl | hq
      · injection e' with e1 e2; subst e1; exact ⟨_, hx, rfl, _, rfl⟩
      · exact ⟨q, hq, rfl, _, e'⟩
    obtain ⟨p', hp', n1, es1, o1⟩ := key p hp es e
    obtain ⟨w1, w2⟩ := h.ok.owns p' hp' b es1 o1
    refine ⟨w1, fun q hq es' e' => ?_⟩
    obtain ⟨q', hq', n2, es2, o2⟩ := key q hq es' e'
    rw [← n1, ← n2]; exact w2 q' hq' es2 o2
  · exact hn.at' fun o e => X.heap _ _ (fun q => plain_ne_ns hpl hn q.symm) (h.ok.base _ h.ok.modL).2 e
  · intro p hp
    rcases u3 p hp with rfl | hp'
    · unfold VarOK at hva ⊢
      cases l' with
      | loc => obtain ⟨e1, e2, _⟩ := hva; exact ⟨e1, e2, its, hl, hr⟩
      | cell c =>
        obtain ⟨v, ⟨o, c1, c2⟩, e1, e2, _⟩ := hva
        exact ⟨v, ⟨o, X.heap _ _ (fun q => plain_ne_cell hpl ⟨o, c1, c2⟩ q.symm) (h.ok.base _ (h.ok.locs _ hx).2.2.1).2 c1, c2⟩, e1, e2, its, hl, hr⟩
      | free c =>
        obtain ⟨v, ⟨o, c1, c2⟩, e1, e2, _⟩ := hva
        exact ⟨v, ⟨o, X.heap _ _ (fun q => plain_ne_cell hpl ⟨o, c1, c2⟩ q.symm) (h.ok.locs _ hx).2.2.1 c1, c2⟩, e1, e2, its, hl, hr⟩
    · by_cases hpx : p.x = x
      · have e := nodup_inj (ρ := ρ') hnd hp u2 hpx
        rw [e]
        unfold VarOK at hva ⊢
        cases l' with
        | loc => obtain ⟨e1, e2, _⟩ := hva; exact ⟨e1, e2, its, hl, hr⟩
        | cell c =>
          obtain ⟨v, ⟨o, c1, c2⟩, e1, e2, _⟩ := hva
          exact ⟨v, ⟨o, X.heap _ _ (fun q => plain_ne_cell hpl ⟨o, c1, c2⟩ q.symm) (h.ok.base _ (h.ok.locs _ hx).2.2.1).2 c1, c2⟩, e1, e2, its, hl, hr⟩
        | free c =>
          obtain ⟨v, ⟨o, c1, c2⟩, e1, e2, _⟩ := hva
          exact ⟨v, ⟨o, X.heap _ _ (fun q => plain_ne_cell hpl ⟨o, c1, c2⟩ q.symm) (h.ok.locs _ hx).2.2.1 c1, c2⟩, e1, e2, its, hl, hr⟩
      · have hvp := hv p hp'
        have hE : ∀ w, EnOK F.N s.heap p.en w → EnOK F.N s'.heap p.en w := fun w hw => hw.ext X (fun b q => q ▸ hNa) h.ok.TN fun b es e => ⟨fun q => hpx (huniq p hp' es (q ▸ e)).symm, (h.ok.base _ (h.ok.owns p hp' b es e).1).2⟩
        have hlp := h.ok.locs p hp'
        unfold VarOK at hvp ⊢
        cases hpl' : p.loc with
        | loc => rw [hpl'] at hvp; exact hE _ hvp
        | cell c =>
          rw [hpl'] at hvp hlp
          obtain ⟨v, ⟨o, c1, c2⟩, e1⟩ := hvp
          exact ⟨v, ⟨o, X.heap _ _ (fun q => plain_ne_cell hpl ⟨o, c1, c2⟩ q.symm) (h.ok.base _ hlp.2.2.1).2 c1, c2⟩, hE _ e1⟩
        | free c =>
          rw [hpl'] at hvp hlp
          obtain ⟨v, ⟨o, c1, c2⟩, e1⟩ := hvp
          exact ⟨v, ⟨o, X.heap _ _ (fun q => plain_ne_cell hpl ⟨o, c1, c2⟩ q.symm) hlp.2.2.1 c1, c2⟩, hE _ e1⟩

/-- what an owned name holds -/
theorem own_load {x : Str} {l : Loc} {a : Addr} {ds : List D} {s : Shared} (hF : FrOK K F s) (hm : (⟨x, l, .own a ds⟩ : Var) ∈ F.ρ) : (∃ its, s.heap.PlainList a its ∧ Reps F.N s.heap ds its.toList) ∧
    ∀ {A : Around} {p : Pos} {Q : Value → Shared → Prop} {E : Value → Shared → Prop}, Q (.ref a) s → wpAny K.M A (eval (.Name x p) F.env) Q E s := by
  refine ⟨?_, fun hq => wpAny_Name (load_var hF hm (fun u h => h.1) hq) (hF.ok.tame _ hm).1⟩
  obtain ⟨m, hn, hv⟩ := hF.ns
  have hva := hv _ hm
  unfold VarOK at hva
  cases l with
  | loc => exact hva.2.2
  | cell c => obtain ⟨v, _, h⟩ := hva; exact h.2.2
  | free c => obtain ⟨v, _, h⟩ := hva; exact h.2.2

theorem own_at1 {x : Str} {l : Loc} {a : Addr} {ds : List D} {s : Shared} (hF : FrOK K F s) (hm : (⟨x, l, .own a ds⟩ : Var) ∈ F.ρ) {its : Array Value} (hp : s.heap.PlainList a its) {h' : Heap} {tk : Nat} (hs : Heap.SameBut a s.heap h') : Ext K (· = a) no s { s with heap := h', toks := tk } := by
  obtain ⟨k, e⟩ := hp
  have hb := hF.ok.base _ (hF.ok.owns _ hm a ds rfl).1
  exact Ext.at1 e (ns_c rfl (by decide)) rfl hb.1 hb.2 hs

theorem own_ext {x : Str} {l : Loc} {a : Addr} {ds : List D} {s s' : Shared} (hF : FrOK K F s) (hm : (⟨x, l, .own a ds⟩ : Var) ∈ F.ρ) (X : Ext K (· = a) no s s') : Ext K F.W no s s' :=
  X.mono (fun b _ q => q ▸ (hF.ok.owns _ hm a ds rfl).1) fun _ _ q => q

theorem Reps.own {a : Addr} {s s' : Shared} {es : List D} {vs : List Value} (hF : FrOK K F s) (ha : F.N a) (X : Ext K (· = a) no s s') (r : Reps F.N s.heap es vs) : Reps F.N s'.heap es vs := Reps.ext X (fun b q => q ▸ ha) hF.ok.TN r

theorem blk_append {x : Str} {l : Loc} {a : Addr} {ds : List D} {d : D} {ρ' : List Var} {e : Expr} {p apos cpos pos : Pos} {rest : List Stmt} (hx : (⟨x, l, .own a ds⟩ : Var) ∈ F.ρ) (he : Ev K n F e d) (u : UpdA x (.own a (ds ++ [d])) F.ρ ρ') (hz : ds.length ≤ sizeLine)
    (hr : Blk K n (F.at ρ') rest P) (hi : interactive F.env = false := by rfl) (hsw : swapsWith (.Call (.Attribute (.Name x p) "append" apos) [e] [] cpos) none pos.line F.env = pure false := by rfl)
    (hbase : attributeBase (.Name x p) "append" F.env (eval (.Name x p) F.env) = eval (.Name x p) F.env := by rfl)
    (hs : starEach [e] F.env = [(false, eval e F.env)] := by rfl) (hline : (apos.endLine == cpos.line) = true := by rfl) :
    Blk K n F (.Expr (.Call (.Attribute (.Name x p) "append" apos) [e] [] cpos) pos :: rest) P := fun R hF hQ => by
  refine wpAny_execs_cons (wpAny_Expr_any ?_ hi hsw)
  obtain ⟨⟨its0, hp0, hr0⟩, ld⟩ := own_load hF hx
  refine Call_method1 hbase hs hline (ld ?_)
  obtain ⟨k0, e0⟩ := id hp0
  refine ⟨"list", "list.append", PySem.F.plainAttrs_list, PySem.F.slot_list_append, PySem.F.type_list_append, ⟨_, e0, rfl⟩, (fun b eb => by cases eb; exact ⟨_, e0, rfl⟩), ?_⟩
  refine Calls.callWith_builtin rfl (Calls.evalArgs_plain (Calls.spliced_cons (he R hF fun v s₁ x₁ r₁ => Calls.spliced_nil ?_)))
  have hF₁ := hF.ext0 x₁
  obtain ⟨⟨its, hp, hri⟩, _⟩ := own_load hF₁ hx
  refine wpAny_list_append_plain hp (fun h' hp' hs' => ?_) (by rw [← Array.length_toList, ← hri.length]; exact hz)
  have X := own_at1 (tk := s₁.toks) hF₁ hx hp hs'
  have hNa := hF.ok.WN _ (hF.ok.owns _ hx a ds rfl).1
  have hF₂ := hF₁.chg hx u X hp' (by rw [Array.toList_push]; exact Reps.snoc (Reps.own hF₁ hNa X hri) (r₁.ext X (fun b q => q ▸ hNa) hF.ok.TN))
  exact hr R hF₂ fun o f s₃ hp3 ho x₃ => hQ o f s₃ hp3 ho ((x₁.of0.trans (own_ext hF₁ hx X)).trans x₃)

theorem blk_reverse {x : Str} {l : Loc} {a : Addr} {ds : List D} {ρ' : List Var} {p apos cpos pos : Pos} {rest : List Stmt} (hx : (⟨x, l, .own a ds⟩ : Var) ∈ F.ρ) (u : UpdA x (.own a ds.reverse) F.ρ ρ') (hz : ds.length ≤ sizeLine)
    (hr : Blk K n (F.at ρ') rest P) (hi : interactive F.env = false := by rfl) (hsw : swapsWith (.Call (.Attribute (.Name x p) "reverse" apos) [] [] cpos) none pos.line F.env = pure false := by rfl)
    (hbase : attributeBase (.Name x p) "reverse" F.env (eval (.Name x p) F.env) = eval (.Name x p) F.env := by rfl) (hline : (apos.endLine == cpos.line) = true := by rfl) :
    Blk K n F (.Expr (.Call (.Attribute (.Name x p) "reverse" apos) [] [] cpos) pos :: rest) P := fun R hF hQ => by
  rename_i A s Q E
  refine wpAny_execs_cons (wpAny_Expr_any ?_ hi hsw)
  obtain ⟨⟨its, hp, hri⟩, ld⟩ := own_load hF hx
  refine Call_method0 hbase hline (ld ?_)
  obtain ⟨k0, e0⟩ := id hp
  refine ⟨"list", "list.reverse", PySem.F.plainAttrs_list, PySem.F.slot_list_reverse, PySem.F.type_list_reverse, ⟨_, e0, rfl⟩, (fun b eb => by cases eb; exact ⟨_, e0, rfl⟩), callWith_method0 (env := F.env) ?_⟩
  refine call_meets PySem.F.slot_list_reverse ⟨_, e0, rfl⟩ PySem.F.entry_list_reverse (PySem.F.args_list_reverse_1 _) (AutoListH.list_reverse_list_0 a its k0 (by rw [← Array.length_toList, ← hri.length]; exact hz)) ⟨e0, ?_⟩
  have hp' : (s.heap.update a (Obj.mapSeq fun x => x.reverse)).PlainList a its.reverse := ⟨_, Heap.get?_update_self _ e0 rfl⟩
  have X := own_at1 (tk := s.toks) hF hx hp (Heap.SameBut.update s.heap a (Obj.mapSeq fun x => x.reverse))
  have hNa := hF.ok.WN _ (hF.ok.owns _ hx a ds rfl).1
  have hF₂ := hF.chg hx u X hp' (by rw [Array.toList_reverse]; exact Reps.reverse (Reps.own hF hNa X hri))
  exact hr R hF₂ fun o f s₃ hp3 ho x₃ => hQ o f s₃ hp3 ho ((own_ext hF hx X).trans x₃)
end
end

/-! # part F20 -/
section
section
variable {K : Cx} {n : Nat} {F : Fm} {P : Out → Prop}

noncomputable def RetOnly (P : Out → Prop) : Prop := ∀ ρ, ¬ P (.next ρ)
theorem retOnly {d : D} : RetOnly (fun o => o = .ret d) := fun ρ h => by cases h

abbrev Fm.grab (F : Fm) (a : Addr) : Fm := { F with W := fun b => F.W b ∨ b = a, N := fun b => F.N b ∨ b = a }
abbrev Fm.drop (F : Fm) (a : Addr) : Fm := { F with W := fun b => F.W b ∧ b ≠ a, N := fun b => F.N b ∧ b ≠ a }

/-- a fresh list belongs to the frame -/
theorem FrOK.grab {s s' : Shared} {a : Addr} {its : Array Value} {k : Nat} (h : FrOK K F s) (x : E0 K s s') (ha : s.heap.objs.size ≤ a) (ha2 : a < s'.heap.objs.size) : FrOK K (F.grab a) s' := by
  have hm : FrOK K (F.more (· = a)) s' := h.more x fun b q => q ▸ ⟨ha, ha2⟩
  have fa := fresh_facts h ha
  exact ⟨{ hm.ok with
    modL := .inl h.ok.modL
    locs := fun p hp => by
      have := h.ok.locs p hp
      revert this
      generalize p.loc = l
      intro this
      cases l with
      | loc => exact this
      | cell c => exact ⟨this.1, this.2.1, .inl this.2.2.1, this.2.2.2⟩
      | free c => exact this
    WN := fun b q => q.elim (fun q => .inl (h.ok.WN b q)) fun q => .inr q
    base := fun b q => q.elim (h.ok.base b) fun q => q ▸ ⟨fa.2.2.1, fa.2.2.2⟩
    owns := fun p hp b ds e => ⟨.inl (h.ok.owns p hp b ds e).1, (h.ok.owns p hp b ds e).2⟩ }, hm.inv, hm.ns, hm.alloc⟩

/-- a name that holds the list's address owns it -/
theorem FrOK.own {x : Str} {a : Addr} {l : Loc} {ds : List D} {ρ' : List Var} {s : Shared} {its : Array Value} (h : FrOK K F s) (hx : (⟨x, l, .raw (.ref a)⟩ : Var) ∈ F.ρ) (u : UpdA x (.own a ds) F.ρ ρ') (hW : F.W a) (hno : ∀ p ∈ F.ρ, ∀ es, p.en ≠ .own a es)
    (hl : s.heap.PlainList a its) (hr : Reps F.N s.heap ds its.toList) : FrOK K (F.at ρ') s := by
  obtain ⟨l', e0, u1, u2, u3⟩ := u.spec
  obtain rfl : l' = l := congrArg Var.loc (nodup_inj h.ok.names u1 hx rfl)
  have hnd : (ρ'.map Var.x).Nodup := names_of u.keys h.ok.names
  obtain ⟨m, hn, hv⟩ := h.ns
  refine ⟨{ h.ok with names := hnd, locs := ?_, tame := ?_, apart := ?_, owns := ?_ }, h.inv, ⟨m, hn, ?_⟩, h.alloc⟩
  · intro p hp
    obtain ⟨q, hq, e1, e2⟩ := key_back u.keys hp
    have := h.ok.locs q hq
    rw [e1, e2] at this; exact this
  · intro p hp
    obtain ⟨q, hq, e1, e2⟩ := key_back u.keys hp
    rw [← e1]; exact h.ok.tame q hq
  · intro p hp q hq c e1 e2
    obtain ⟨p', hp', a1, a2⟩ := key_back u.keys hp
    obtain ⟨q', hq', b1, b2⟩ := key_back u.keys hq
    rw [← a1, ← b1]
    exact h.ok.apart p' hp' q' hq' c (a2 ▸ e1) (b2 ▸ e2)
  · intro p hp b es e
    rcases u3 p hp with rfl | hp'
    · injection e with e1 e2
      subst e1
      refine ⟨hW, fun q hq es' e' => ?_⟩
      rcases u3 q hq with rfl | hq'
      · rfl
      · exact absurd e' (hno q hq' es')
    · obtain ⟨w1, w2⟩ := h.ok.owns p hp' b es e
      refine ⟨w1, fun q hq es' e' => ?_⟩
      rcases u3 q hq with rfl | hq'
      · injection e' with e1 e2
        subst e1
        exact absurd e (hno p hp' es)
      · exact w2 q hq' es' e'
  · intro p hp
    have new : ∀ v, v = some (.ref a) → EnOK F.N s.heap (.own a ds) v := fun v e => ⟨e, h.ok.WN _ hW, its, hl, hr⟩
    rcases u3 p hp with rfl | hp'
    · have hva := hv _ hx
      unfold VarOK at hva ⊢
      cases l' with
      | loc => exact new _ hva
      | cell c => obtain ⟨v, e1, e2⟩ := hva; exact ⟨v, e1, new _ e2⟩
      | free c => obtain ⟨v, e1, e2⟩ := hva; exact ⟨v, e1, new _ e2⟩
    · exact hv p hp'

/-- the list is plain data from now on -/
theorem FrOK.freeze {x : Str} {a : Addr} {l : Loc} {ds : List D} {ρ' : List Var} {s : Shared} (h : FrOK K F s) (hx : (⟨x, l, .own a ds⟩ : Var) ∈ F.ρ) (u : UpdA x (.val (.list ds)) F.ρ ρ') (hNo : ¬ F.No a) : FrOK K ((F.drop a).at ρ') s := by
  obtain ⟨l', e0, u1, u2, u3⟩ := u.spec
  obtain rfl : l' = l := congrArg Var.loc (nodup_inj h.ok.names u1 hx rfl)
  have hnd : (ρ'.map Var.x).Nodup := names_of u.keys h.ok.names
  obtain ⟨⟨its, hl, hr⟩, _⟩ := own_load h hx
  obtain ⟨hWa, huniq⟩ := h.ok.owns _ hx a ds rfl
  obtain ⟨m, hn, hv⟩ := h.ns
  have ta := (h.ok.base _ hWa).2
  have only : ∀ p ∈ ρ', ∀ b es, p.en = .own b es → p ∈ F.ρ ∧ b ≠ a := fun p hp b es e => by
    rcases u3 p hp with rfl | hp'
    · cases e
    · refine ⟨hp', fun q => ?_⟩
      subst q
      have e2 := nodup_inj (ρ := ρ') hnd hp u2 (huniq p hp' es e).symm
      rw [e2] at e; cases e
  refine ⟨{ h.ok with names := hnd, locs := ?_, tame := ?_, apart := ?_, owns := ?_, modL := ⟨h.ok.modL, fun q => plain_ne_ns hl hn q.symm⟩, WN := fun b q => ⟨h.ok.WN b q.1, q.2⟩, TN := fun b q => ⟨h.ok.TN b q, fun e => ta (e ▸ q)⟩, NoN := fun b q => ⟨h.ok.NoN b q, fun e => hNo (e ▸ q)⟩, base := fun b q => h.ok.base b q.1 }, h.inv, ⟨m, hn, ?_⟩, fun b q => h.alloc b q.1⟩
  · intro p hp
    obtain ⟨q, hq, e1, e2⟩ := key_back u.keys hp
    have := h.ok.locs q hq
    have hvq := hv q hq
    unfold VarOK at hvq
    rw [e1, e2] at this
    rw [e2] at hvq
    revert this hvq
    generalize p.loc = l
    intro this hvq
    cases l with
    | loc => exact this
    | cell c => obtain ⟨v, ec, _⟩ := hvq; exact ⟨this.1, this.2.1, ⟨this.2.2.1, fun q => plain_ne_cell hl ec q.symm⟩, this.2.2.2⟩
    | free c => exact this
  · intro p hp
    obtain ⟨q, hq, e1, e2⟩ := key_back u.keys hp
    rw [← e1]; exact h.ok.tame q hq
  · intro p hp q hq c e1 e2
    obtain ⟨p', hp', a1, a2⟩ := key_back u.keys hp
    obtain ⟨q', hq', b1, b2⟩ := key_back u.keys hq
    rw [← a1, ← b1]
    exact h.ok.apart p' hp' q' hq' c (a2 ▸ e1) (b2 ▸ e2)
  · intro p hp b es e
    obtain ⟨hp', hb⟩ := only p hp b es e
    obtain ⟨w1, w2⟩ := h.ok.owns p hp' b es e
    exact ⟨⟨w1, hb⟩, fun q hq es' e' => w2 q (only q hq b es' e').1 es' e'⟩
  · intro p hp
    have kk : ∀ {es : List D} {vs : List Value}, Reps F.N s.heap es vs → Reps (F.drop a).N s.heap es vs := fun r => Reps.keep (fun b _ q => q.1) (fun _ _ _ e => e) r
    rcases u3 p hp with rfl | hp'
    · have hva := hv _ hx
      have new : ∀ v, v = some (.ref a) → EnOK (F.drop a).N s.heap (.val (.list ds)) v := fun v e => ⟨_, e, .list (fun q => q.2 rfl) hl (kk hr)⟩
      unfold VarOK at hva ⊢
      cases l' with
      | loc => exact new _ hva.1
      | cell c => obtain ⟨v, e1, e2⟩ := hva; exact ⟨v, e1, new _ e2.1⟩
      | free c => obtain ⟨v, e1, e2⟩ := hva; exact ⟨v, e1, new _ e2.1⟩
    · have hvp := hv p hp'
      have hE : ∀ w, EnOK F.N s.heap p.en w → EnOK (F.drop a).N s.heap p.en w := fun w hw => by
        cases hpe : p.en with
        | un => trivial
        | val d => rw [hpe] at hw; obtain ⟨y, e, r⟩ := hw; exact ⟨y, e, r.keep (fun b _ q => q.1) (fun _ _ _ e => e)⟩
        | raw y => rw [hpe] at hw; exact hw
        | own b es =>
          rw [hpe] at hw
          obtain ⟨e, hn, i, h1, h2⟩ := hw
          exact ⟨e, ⟨hn, (only p hp b es hpe).2⟩, i, h1, kk h2⟩
      unfold VarOK at hvp ⊢
      cases hpl : p.loc with
      | loc => rw [hpl] at hvp; exact hE _ hvp
      | cell c => rw [hpl] at hvp; obtain ⟨v, e1, e2⟩ := hvp; exact ⟨v, e1, hE _ e2⟩
      | free c => rw [hpl] at hvp; obtain ⟨v, e1, e2⟩ := hvp; exact ⟨v, e1, hE _ e2⟩

theorem blk_freeze {x : Str} {a : Addr} {l : Loc} {ds : List D} {ρ' : List Var} {rest : List Stmt} (hx : (⟨x, l, .own a ds⟩ : Var) ∈ F.ρ) (u : UpdA x (.val (.list ds)) F.ρ ρ') (hNo : ¬ F.No a) (hP : RetOnly P) (hr : Blk K n ((F.drop a).at ρ') rest P) : Blk K n F rest P := fun R hF hQ =>
  hr R (hF.freeze hx u hNo) fun o f s' hp ho x => by
    cases o with
    | next ρ => exact (hP ρ hp).elim
    | ret d => exact hQ (.ret d) f s' hp ho (x.mono (fun b _ q => q.1) fun _ _ q => q)

/-- a fresh list -/
noncomputable def EvN (K : Cx) (n : Nat) (F : Fm) (e : Expr) (ds : List D) : Prop :=
  ∀ {A : Around} {s : Shared} {Q : Value → Shared → Prop} {E : Value → Shared → Prop}, Room A n → FrOK K F s → (∀ a its s', E0 K s s' → s.heap.objs.size ≤ a → s'.heap.PlainList a its → Reps (fun b => F.N b ∨ b = a) s'.heap ds its.toList → Q (.ref a) s') → wpAny K.M A (eval e F.env) Q E s

theorem evn_list {es : List Expr} {ds : List D} {pos : Pos} (h : Evs K n F es ds) (hz : es.length ≤ 1000 := by decide) : EvN K n F (.List es pos) ds := fun R hF hQ =>
  wpAny_List (h.run R hF fun vs s₁ x r => ⟨by rw [← r.length, h.length, sizeLine_eq]; omega, by
    have k : ∀ b o, s₁.heap.get? b = some o → (s₁.heap.push { cls := .type "list", data := .seq vs.toArray }).get? b = some o := fun b o e => Heap.get?_push_of_some _ e
    exact hQ s₁.heap.objs.size vs.toArray _ (x.trans (E0.grow (tk := s₁.toks) k (by rw [Heap.size_push]; omega))) x.size ⟨0, Heap.get?_push_size _ rfl⟩ (Reps.keep (fun b hs q => q.elim id fun q => by obtain ⟨o, e⟩ := Option.isSome_iff_exists.mp hs; exact absurd (Heap.lt_size e) (Nat.not_lt.mpr (Nat.le_of_eq q.symm))) (fun b o _ e => k b o e) r)⟩)

theorem FrOK.widen {a : Addr} {s : Shared} (h : FrOK K F s) (hN : F.N a) (hb : K.g0.get? a = none) (ht : ¬ K.Tb a) : FrOK K { F with W := fun b => F.W b ∨ b = a } s where
  ok := { h.ok with
    modL := .inl h.ok.modL
    locs := fun p hp => by
      have := h.ok.locs p hp
      revert this
      generalize p.loc = l
      intro this
      cases l with
      | loc => exact this
      | cell c => exact ⟨this.1, this.2.1, .inl this.2.2.1, this.2.2.2⟩
      | free c => exact this
    WN := fun b q => q.elim (h.ok.WN b) fun q => q ▸ hN
    base := fun b q => q.elim (h.ok.base b) fun q => q ▸ ⟨hb, ht⟩
    owns := fun p hp b ds e => ⟨.inl (h.ok.owns p hp b ds e).1, (h.ok.owns p hp b ds e).2⟩ }
  inv := h.inv
  ns := h.ns
  alloc := h.alloc

/-- a name takes a fresh list for its own -/
theorem store_own {x : Str} {a : Addr} {ds : List D} {its : Array Value} {ρ₁ ρ' : List Var} {s s' : Shared} {A : Around} {Q : Unit → Shared → Prop} {E : Value → Shared → Prop} (hF : FrOK K F s) (x0 : E0 K s s') (ha : s.heap.objs.size ≤ a) (hl : s'.heap.PlainList a its) (hr : Reps (fun b => F.N b ∨ b = a) s'.heap ds its.toList)
    (u₁ : Upd x (.raw (.ref a)) F.ρ ρ₁) (u₂ : UpdA x (.own a ds) ρ₁ ρ') (h : ∀ s₂, Ext K F.W no s' s₂ → FrOK K ((F.grab a).at ρ') s₂ → Q () s₂) : wpAny K.M A (storeName F.env x (.ref a)) Q E s' := by
  have ha2 : a < s'.heap.objs.size := by obtain ⟨k, e⟩ := hl; exact Heap.lt_size e
  have fa := fresh_facts hF ha
  have hG : FrOK K (F.more (· = a)) s' := hF.more x0 fun b q => q ▸ ⟨ha, ha2⟩
  refine store_var (F := F.more (· = a)) hG u₁ (fun _ _ => nofun) (fun s'' _ => rfl) fun s₂ X hF₂ => ?_
  have hl2 : s₂.heap.PlainList a its := PlainList_keep hl fun o e => X.heap _ _ fa.1 fa.2.2.2 e
  have hr2 : Reps (F.grab a).N s₂.heap ds its.toList := Reps.ext X (fun b q => .inl (hF.ok.WN b q)) (fun b q => .inl (hF.ok.TN b q)) hr
  have hF₃ : FrOK K ((F.grab a).at ρ₁) s₂ := hF₂.widen (.inr rfl) fa.2.2.1 fa.2.2.2
  obtain ⟨l, e0, m1, m2, m3, m4⟩ := u₁.spec
  refine h s₂ X (hF₃.own (F := (F.grab a).at ρ₁) m2 u₂ (.inr rfl) (fun p hp es e => ?_) hl2 hr2)
  rcases m4 p hp with rfl | hp'
  · cases e
  · exact absurd (hF.alloc _ (hF.ok.WN _ (hF.ok.owns p hp' a es e).1)) (Nat.not_lt.mpr ha)

theorem blk_own {x : Str} {p pos : Pos} {value : Expr} {ds : List D} {ρ₁ ρ' : Addr → List Var} {rest : List Stmt} (hv : EvN K n F value ds) (u₁ : ∀ a, Upd x (.raw (.ref a)) F.ρ (ρ₁ a)) (u₂ : ∀ a, UpdA x (.own a ds) (ρ₁ a) (ρ' a)) (hP : RetOnly P)
    (hr : ∀ a, ¬ F.N a → Blk K n ((F.grab a).at (ρ' a)) rest P) (hs : swapsWith value (some (.Name x p)) pos.line F.env = pure false := by rfl) : Blk K n F (.Assign [.Name x p] value pos :: rest) P := fun R hF hQ =>
  wpAny_execs_cons (wpAny_Assign_Name (hv R hF fun a its s₁ x₁ ha hl r => store_own hF x₁ ha hl r (u₁ a) (u₂ a) fun s₂ x₂ hF₂ => hr a (fresh_facts hF ha).2.1 R hF₂ fun o f s₃ hp ho x₃ => by
    cases o with
    | next ρ => exact (hP ρ hp).elim
    | ret d => exact hQ (.ret d) f s₃ hp ho ((x₁.of0.trans (x₂.mono (W' := fun b => F.W b ∨ b = a) (fun _ _ q => .inl q) fun _ _ q => q)).trans x₃ |>.mono (fun b hs q => q.elim id fun q => by obtain ⟨o, e⟩ := Option.isSome_iff_exists.mp hs; exact absurd (Heap.lt_size e) (Nat.not_lt.mpr (q ▸ ha))) fun _ _ q => q)) hs)

/-- a fresh list of noughts -/
theorem evn_times {l r : Expr} {pos : Pos} {k : Int} (hl : Ev K n F l (.list [.int 0])) (hr : Ev K n F r (.int k)) (h0 : 0 ≤ k) (hz : k ≤ 2 ^ 20) : EvN K n F (.BinOp l .Mult r pos) (List.replicate k.toNat (.int 0)) := fun R hF hQ =>
  wpAny_BinOp (hl R hF fun u s₁ x₁ r₁ => hr R (hF.ext0 x₁) fun v s₂ x₂ r₂ => by
    have hF2 := (hF.ext0 x₁).ext0 x₂
    have r₁' := r₁.ext0 x₂ hF.ok
    cases r₂ with
    | int _ t =>
    cases r₁' with
    | list n1 l1 r1 =>
      rename_i a1 i1
      obtain ⟨k1, e1⟩ := l1
      obtain ⟨l⟩ := i1
      match l, r1 with
      | [v], .cons rv .nil =>
        cases rv with
        | int _ tv =>
        have aux : ∀ N h, ∀ m : Nat, Reps N h (List.replicate m (.int 0)) (List.replicate m (.int 0 tv)) := fun N h m => by
          induction m with
          | zero => exact .nil
          | succ m ih => rw [List.replicate_succ, List.replicate_succ]; exact .cons (.int _ _) ih
        have fe : (List.foldl (fun x1 x2 => x1 ++ x2) #[] (List.replicate k.toNat (#[.int 0 tv] : Array Value))) = (List.replicate k.toNat (.int 0 tv)).toArray := by
          have g : ∀ (m : Nat) (acc : Array Value), List.foldl (fun x1 x2 => x1 ++ x2) acc (List.replicate m (#[.int 0 tv] : Array Value)) = acc ++ (List.replicate m (Value.int 0 tv)).toArray := by
            intro m
            induction m with
            | zero => intro acc; simp
            | succ m ih => intro acc; rw [List.replicate_succ, List.foldl_cons, ih, List.replicate_succ]; apply Array.ext'; simp
          rw [g]; simp
        refine wpAny_binaryOp_repeat_ref (T := "list") (U := "int") (by decide) ⟨_, e1, rfl⟩ (fun s' => typeIs_int s' k t) noFill_list_mul PySem.F.fills_int_mul PySem.F.slot_int_rmul repeat_list PySem.F.slot_int_index.lookup
          (call_meets PySem.F.slot_int_rmul (typeIs_int s₂ k t) PySem.F.entry_int_rmul (PySem.F.args_int_rmul_2 _ _) (int___rmul___int_list k t a1 #[.int 0 tv] k1)
            ⟨e1, rfl, ⟨_, e1, rfl⟩, call_meets PySem.F.slot_list_mul ⟨_, e1, rfl⟩ PySem.F.entry_list_mul (PySem.F.args_list_mul_2 _ _)
              (AutoListH.list___mul___list_int_3 a1 #[.int 0 tv] k1 k t (by simp [Builtin.List.listFitsIndex]; omega) (by have e9 : (#[Value.int 0 tv] : Array Value).size * k.toNat = k.toNat := Nat.one_mul _
                                                                                                                          first | omega | (simp only [List.size_toArray, List.length_cons, List.length_nil]; omega)) (by show ¬ Builtin.List.listTooLong (1 * k.toNat) = true; rw [Nat.one_mul]; simp [Builtin.List.listTooLong, sizeLine]; omega))
              ⟨e1, ?_⟩⟩)
        have fe2 : (List.foldl (fun x1 x2 => x1 ++ x2) #[] (List.replicate (if (#[Value.int 0 tv] : Array Value).isEmpty = true then 0 else k.toNat) (#[.int 0 tv] : Array Value))) = (List.replicate k.toNat (.int 0 tv)).toArray := fe
        rw [fe2]
        have kk : ∀ b o, s₂.heap.get? b = some o → (s₂.heap.push { cls := .type "list", data := .seq (List.replicate k.toNat (Value.int 0 tv)).toArray }).get? b = some o := fun b o e => Heap.get?_push_of_some _ e
        exact hQ s₂.heap.objs.size _ _ ((x₁.trans x₂).trans (E0.grow (tk := s₂.toks) kk (by rw [Heap.size_push]; omega))) (x₁.trans x₂).size ⟨0, Heap.get?_push_size _ rfl⟩ (aux _ _ _))

/-- the length of an owned list -/
theorem ev_len_own {x y : Str} {p p' pos : Pos} {l : Loc} {a : Addr} {ds : List D} (hm : y ∈ F.gl) (hg : K.Gl y (.builtin "len")) (hx : (⟨x, l, .own a ds⟩ : Var) ∈ F.ρ) (hz : ds.length ≤ sizeLine)
    (hs : starEach [.Name x p'] F.env = [(false, eval (.Name x p') F.env)] := by rfl) : Ev K n F (.Call (.Name y p) [.Name x p'] [] pos) (.int ds.length) := fun R hF hQ =>
  Call_ (load_gl hF hm hg (by
    rw [hs]
    obtain ⟨⟨its, hp, hri⟩, ld⟩ := own_load hF hx
    refine Calls.callWith_builtin rfl (Calls.evalArgs_plain (Calls.spliced_cons (ld (Calls.spliced_nil ?_))))
    have e : its.size = ds.length := by rw [hri.length, Array.length_toList]
    rw [← e] at hQ hz
    rw [sizeLine_eq] at hz
    exact len_list hp.isList (by omega) (hQ _ _ (E0.toks _) (.int _ _))))

/-- the pieces of an owned list, joined -/
theorem ev_join_own {o : Expr} {y : Str} {p apos pos : Pos} {l : Loc} {a : Addr} {x : Str} {xs : List Str} (ho : Ev K n F o (.str x)) (hy : (⟨y, l, .own a (xs.map .str)⟩ : Var) ∈ F.ρ) (hok : JoinOk x xs = true)
    (hbase : attributeBase o "join" F.env (eval o F.env) = eval o F.env := by rfl)
    (hs : starEach [.Name y p] F.env = [(false, eval (.Name y p) F.env)] := by rfl) (hline : (apos.endLine == pos.line) = true := by rfl) : Ev K n F (.Call (.Attribute o "join" apos) [.Name y p] [] pos) (.str (Txt.join x xs)) := fun R hF hQ =>
  Call_method1 hbase hs hline (ho R hF fun v s₁ x₁ r₁ => by
    cases r₁
    have hF1 := hF.ext0 x₁
    obtain ⟨⟨its, hp, hri⟩, ld⟩ := own_load hF1 hy
    exact SB.join (ld (by
      obtain ⟨l, e1, e2⟩ := reps_strs hri
      refine ⟨a, l, rfl, ?_, xs, e2, hok, fun t' k => hQ _ _ (x₁.trans (E0.toks _)) (.str _ _)⟩
      rw [← e1, Array.toArray_toList]; exact hp.isList)))
end
end

/-! # part F21 -/
section
open PySem.Sem (wp)
section
variable {K : Cx} {A : Around} {R : GenEnd} {Y : Protocol} {n : Nat} {s₀ : Shared} {c : Code} {fs : List Frame} {s : Shared} {env : Env}
  {Kc : Flow → Sem Fin} {H : Value → Sem Fin} {gd : Bool → Bool} {lv : List Value → List Value}

/-- a plain statement of a generator's body -/
theorem seg_stm {st : Stmt} {rest : List Stmt} (h : wpAny K.M (A.over c fs) (exec st env) (fun f s' => f = .next ∧ Seg K.M A R Y n s₀ c ((execs rest env).wrap Kc H gd lv) fs s') (fun _ _ => False) s) :
    Seg K.M A R Y n s₀ c ((execs (st :: rest) env).wrap Kc H gd lv) fs s :=
  seg_execs_cons (seg_wrap (wpAny_mono h (fun f s' h' => by obtain ⟨rfl, h'⟩ := h'; exact h') fun _ _ h' => h'.elim))

theorem seg_if {t : Expr} {b o rest : List Stmt} {pos : Pos} (h : wpAny K.M (A.over c fs) (isTrue t env (eval t env)) (fun v s' => Seg K.M A R Y n s₀ c ((execs ((if v then b else o) ++ rest) env).wrap Kc H gd lv) fs s') (fun _ _ => False) s) :
    Seg K.M A R Y n s₀ c ((execs (.If t b o pos :: rest) env).wrap Kc H gd lv) fs s := by
  rw [execs_if, Sem.bind_eq_wrap', Sem.wrap_wrap]
  refine seg_wrap (wpAny_standAt ?_)
  rw [Sem.bind_eq_wrap', Sem.wrap_wrap]
  refine seg_wrap (wpAny_mono h (fun v s' h' => ?_) fun _ _ h' => h'.elim)
  cases v
  · exact h'
  · exact h'

/-- the frame that a loop of a generator's body leaves behind -/
noncomputable def backFrame (K : Flow → Sem Fin) (H : Value → Sem Fin) (gd : Bool → Bool) (lv : List Value → List Value) (env : Env) (c : Code) (p : Pos) : Frame :=
  .ret (fun r => ((match r with | .ok f => (.pure f : Sem Flow) | .error e => .raise e).onRaise fun (x : Value) => do
        if (← field x 1) == Value.none then unsupported "frame.own-activation:exception-without-traceback"
        setFlight x env.frame).wrap K H gd lv) none (gd false) (lv []) c p []

theorem seg_For {target iter : Expr} {body : List Stmt} {pos : Pos} {rest : List Stmt}
    (h : wpAny K.M (A.over c fs) (eval iter env) (fun x s₁ => wpAny K.M (A.over c fs) (pyIter x) (fun it s₂ => ∀ p,
      Seg K.M A R Y n s₀ (.forLoop target it body [] env) (K.M.den (.forLoop target it body [] env))
        (backFrame (fun f => match f with | .next => (execs rest env).wrap Kc H gd lv | f => Kc f) H gd lv env c p :: fs) s₂) (fun _ _ => False) s₁) (fun _ _ => False) s)
    (hs : ∀ x, foldedSetIterable iter env x = pure x := by intro _; rfl) :
    Seg K.M A R Y n s₀ c ((execs (.For target iter body [] pos :: rest) env).wrap Kc H gd lv) fs s := by
  refine seg_execs_cons ?_
  rw [arm_exec_For, Sem.bind_eq_wrap', Sem.wrap_wrap]
  refine seg_wrap (wpAny_standAt ?_)
  rw [Sem.bind_eq_wrap', Sem.wrap_wrap]
  refine seg_wrap (wpAny_mono h (fun x s₁ h₁ => ?_) fun _ _ h' => h'.elim)
  rw [hs, Sem.bind_eq_wrap', Sem.wrap_wrap]
  refine seg_wrap (wpAny_pure ?_)
  rw [Sem.bind_eq_wrap', Sem.wrap_wrap]
  refine seg_wrap (wpAny_standAt ?_)
  rw [Sem.bind_eq_wrap', Sem.wrap_wrap]
  refine seg_wrap (wpAny_holding (wpAny_mono h₁ (fun it s₂ h₂ => ?_) fun _ _ h' => h'.elim))
  exact seg_call h₂

theorem seg_forLoop {target : Expr} {it : Value} {body : List Stmt}
    (h : wpAny K.M (A.over (.forLoop target it body [] env) fs) (pyNext it) (fun r s₁ => match r with
      | none => Seg K.M A R Y n s₀ (.forLoop target it body [] env) (.pure (.again (.block [] env))) fs s₁
      | some v => wpAny K.M (A.over (.forLoop target it body [] env) fs) (letOwnedTupleGo target it v) (fun _ s₂ => wpAny K.M (A.over (.forLoop target it body [] env) fs) (assign target env v) (fun _ s₃ =>
          Seg K.M A R Y n s₀ (.forLoop target it body [] env) ((execs body env).wrap (fun f => match f with
            | .next | .cont => .pure (.again (.forLoop target it body [] env))
            | .brk => .pure (.done .next)
            | .ret v => .pure (.done (.ret v))) (fun e => (do noteFrame e env; theTreesLotGoes e : Sem Unit).wrap (fun _ => .raise e) .raise id id) id id) fs s₃) (fun _ _ => False) s₂) (fun _ _ => False) s₁) (fun _ _ => False) s) :
    Seg K.M A R Y n s₀ (.forLoop target it body [] env) (K.M.den (.forLoop target it body [] env)) fs s := by
  show Seg _ A R Y n s₀ _ ((forTurn target it body [] env).onRaise (fun x => do noteFrame x env; theTreesLotGoes x)) fs s
  unfold forTurn
  rw [Sem.onRaise_eq_wrap, Sem.bind_eq_wrap', Sem.wrap_wrap]
  refine seg_wrap (wpAny_standAt ?_)
  rw [Sem.bind_eq_wrap', Sem.wrap_wrap]
  refine seg_wrap (wpAny_onRaise (wpAny_mono h (fun r s₁ h₁ => ?_) fun _ _ h' => h'.elim))
  cases r with
  | none => exact h₁
  | some v =>
    dsimp only
    rw [Sem.bind_eq_wrap', Sem.wrap_wrap]
    refine seg_wrap (wpAny_mono h₁ (fun _ s₂ h₂ => ?_) fun _ _ h' => h'.elim)
    rw [Sem.bind_eq_wrap', Sem.wrap_wrap]
    refine seg_wrap (wpAny_mono h₂ (fun _ s₃ h₃ => ?_) fun _ _ h' => h'.elim)
    rw [Sem.bind_eq_wrap', Sem.wrap_wrap]
    rw [Sem.wrap_congr (execs body env) _ _ (K' := fun f => match f with
            | .next | .cont => .pure (.again (.forLoop target it body [] env))
            | .brk => .pure (.done .next)
            | .ret v => .pure (.done (.ret v))) (H' := (fun e => (do noteFrame e env; theTreesLotGoes e : Sem Unit).wrap (fun _ => .raise e) .raise id id))
        (fun f => by cases f <;> rfl)
        (fun e => by first | exact Sem.bind_eq_wrap _ _ | (show (do noteFrame e env; theTreesLotGoes e : Sem Unit).bind (fun _ => .raise e) = _; rw [Sem.bind_eq_wrap]))]
    exact h₃

/-- a loop's end -/
theorem seg_block_end {c' : Code} {k : Result → Sem Fin} {hd : Option Value} {g : Bool} {l : List Value} {c₁ : Code} {p₁ : Pos} (h : Seg K.M A R Y n s₀ c₁ (k (.ok .next)) fs s) :
    Seg K.M A R Y n s₀ c' (.pure (.again (.block [] env))) (.ret k hd g l c₁ p₁ [] :: fs) s :=
  seg_again rfl (seg_leaf (.ok .next) h)
end
end

/-! # part F22 -/
/-! the row's functions, by their place -/
noncomputable def stA (i : Nat) : Stmt := PySem.Challenge.rw_rs0165_01.row.prog.main.body.getD i (.Pass ⟨0, 0, 0, 0⟩)
noncomputable def bodyA (i : Nat) : List Stmt := match stA i with
  | .FunctionDef _ _ b _ _ _ _ _ _ _ => b
  | _ => []
noncomputable def scopeA (i : Nat) : Scope := match stA i with
  | .FunctionDef _ _ _ _ _ _ s _ _ _ => s
  | _ => default

/-! the bisections -/
noncomputable def bisL (xs : List Str) (x : Str) (lo hi : Nat) : Nat :=
  if h : lo < hi then
    if (xs.getD ((lo + hi) / 2) ⟨#[]⟩).cps.toList < x.cps.toList then bisL xs x ((lo + hi) / 2 + 1) hi else bisL xs x lo ((lo + hi) / 2)
  else lo
termination_by hi - lo
decreasing_by all_goals omega
noncomputable def bisR (xs : List Str) (x : Str) (lo hi : Nat) : Nat :=
  if h : lo < hi then
    if x.cps.toList < (xs.getD ((lo + hi) / 2) ⟨#[]⟩).cps.toList then bisR xs x lo ((lo + hi) / 2) else bisR xs x ((lo + hi) / 2 + 1) hi
  else lo
termination_by hi - lo
decreasing_by all_goals omega

section
variable {K : Cx} {n : Nat} {F : Fm} {P : Out → Prop}

theorem stm_blk {st : Stmt} {P : Out → Prop} (h : Stm K n F st P) : Blk K n F [st] P :=
  blk_cons h (fun ρ' hp => blk_nil hp) fun d hp => hp

theorem Stm.imp {st : Stmt} {P P' : Out → Prop} (h : Stm K n F st P) (hp : ∀ o, P o → P' o) : Stm K n F st P' := fun R hF hQ => h R hF fun o f s' q ho x => hQ o f s' (hp o q) ho x
theorem Blk.imp {sts : List Stmt} {P P' : Out → Prop} (h : Blk K n F sts P) (hp : ∀ o, P o → P' o) : Blk K n F sts P' := fun R hF hQ => h R hF fun o f s' q ho x => hQ o f s' (hp o q) ho x
theorem Tr.eq {e : Expr} {c c' : Bool} (h : Tr K n F e c) (hc : c = c') : Tr K n F e c' := hc ▸ h
theorem Ev.eq {e : Expr} {d d' : D} (h : Ev K n F e d) (hc : d = d') : Ev K n F e d' := hc ▸ h
end

section
variable {K : Cx} {n : Nat} {F : Fm} {P : Out → Prop}
theorem evs_nil : Evs K n F [] [] := .nil
theorem evs_cons {e : Expr} {es : List Expr} {d : D} {ds : List D} (h : Ev K n F e d) (h2 : Evs K n F es ds) (h3 : ∀ env, starEach (e :: es) env = (false, eval e env) :: starEach es env) : Evs K n F (e :: es) (d :: ds) := .cons h h2 h3
theorem b_divS {a b : Int} (hb : b ≠ 0) (h : b.natAbs < 1073741824) : BinD K F .FloorDiv (.int a) (.int b) (.int (a.fdiv b)) := b_div hb (PyProof.noPylong_small h)
theorem c_is_none0 : CmpD K F .Is .none .none true := c_is_none rfl
theorem c_is_none1 {i : Int} : CmpD K F .Is (.int i) .none false := c_is_none rfl
end

local macro_rules | `(tactic| trivial) => `(tactic| first
  | (apply ev_name; trivial)
  | apply ev_int | apply ev_str | apply ev_none | apply ev_bool
  | (apply ev_bin
     · trivial
     · trivial
     · trivial)
  | apply b_add | apply b_sub
  | (apply b_divS
     · decide
     · decide)
  | (apply ev_cmp
     · trivial
     · trivial
     · trivial
     · rfl)
  | (apply ev_neg
     trivial)
  | (apply ev_inv
     trivial)
  | (apply ev_list
     · trivial
     · decide)
  | (apply ev_tup
     · trivial
     · decide)
  | apply i_add | apply i_sub | apply c_eq_str | apply c_is_bool | apply b_xor
  | apply c_lt_int | apply c_eq_int | apply c_ne_int | apply c_gt_int | apply c_le_int | apply c_is_none0 | apply c_is_none1
  | (apply tr_cmp
     · trivial
     · trivial
     · trivial
     · rfl)
  | (apply evs_cons
     · trivial
     · trivial
     · intro _; rfl) | apply evs_nil)
local macro_rules | `(tactic| trivial) => `(tactic| (first | apply UpdA.here | (apply UpdA.there; (first | apply UpdA.here | (apply UpdA.there; (first | apply UpdA.here | (apply UpdA.there; (first | apply UpdA.here | (apply UpdA.there; (first | apply UpdA.here | (apply UpdA.there; (first | apply UpdA.here | (apply UpdA.there; (first | apply UpdA.here | (apply UpdA.there; (first | apply UpdA.here | (apply UpdA.there; (first | apply UpdA.here | (apply UpdA.there; (first | apply UpdA.here | (apply UpdA.there; (first | apply UpdA.here | (apply UpdA.there; (first | apply UpdA.here | (apply UpdA.there; (first | apply UpdA.here | (apply UpdA.there; (first | apply UpdA.here | (apply UpdA.there; (first | apply UpdA.here | (apply UpdA.there; (first | apply UpdA.here | (apply UpdA.there; (first | apply UpdA.here | (apply UpdA.there; (first | apply UpdA.here | (apply UpdA.there; (first | apply UpdA.here | (apply UpdA.there; (first | apply UpdA.here | (apply UpdA.there; (first | apply UpdA.here | (apply UpdA.there; (first | apply UpdA.here | (apply UpdA.there; (first | apply UpdA.here | (apply UpdA.there; (first | apply UpdA.here | (apply UpdA.there; (first | apply UpdA.here | (apply UpdA.there; (first | apply UpdA.here | (apply UpdA.there; (first | apply UpdA.here | (apply UpdA.there; (first | apply UpdA.here | (apply UpdA.there; apply UpdA.here)))))))))))))))))))))))))))))))))))))))))))))))))))))))))
local macro_rules | `(tactic| trivial) => `(tactic| (first | (apply Upd.here; nofun) | (apply Upd.there; (first | (apply Upd.here; nofun) | (apply Upd.there; (first | (apply Upd.here; nofun) | (apply Upd.there; (first | (apply Upd.here; nofun) | (apply Upd.there; (first | (apply Upd.here; nofun) | (apply Upd.there; (first | (apply Upd.here; nofun) | (apply Upd.there; (first | (apply Upd.here; nofun) | (apply Upd.there; (first | (apply Upd.here; nofun) | (apply Upd.there; (first | (apply Upd.here; nofun) | (apply Upd.there; (first | (apply Upd.here; nofun) | (apply Upd.there; (first | (apply Upd.here; nofun) | (apply Upd.there; (first | (apply Upd.here; nofun) | (apply Upd.there; (first | (apply Upd.here; nofun) | (apply Upd.there; (first | (apply Upd.here; nofun) | (apply Upd.there; (first | (apply Upd.here; nofun) | (apply Upd.there; (first | (apply Upd.here; nofun) | (apply Upd.there; (first | (apply Upd.here; nofun) | (apply Upd.there; (first | (apply Upd.here; nofun) | (apply Upd.there; (first | (apply Upd.here; nofun) | (apply Upd.there; (first | (apply Upd.here; nofun) | (apply Upd.there; (first | (apply Upd.here; nofun) | (apply Upd.there; (first | (apply Upd.here; nofun) | (apply Upd.there; (first | (apply Upd.here; nofun) | (apply Upd.there; (first | (apply Upd.here; nofun) | (apply Upd.there; (first | (apply Upd.here; nofun) | (apply Upd.there; (first | (apply Upd.here; nofun) | (apply Upd.there; (first | (apply Upd.here; nofun) | (apply Upd.there; (first | (apply Upd.here; nofun) | (apply Upd.there; (apply Upd.here; nofun))))))))))))))))))))))))))))))))))))))))))))))))))))))))))
local macro_rules | `(tactic| trivial) => `(tactic| (first | exact List.Mem.head _ | (refine List.Mem.tail _ ?_; (first | exact List.Mem.head _ | (refine List.Mem.tail _ ?_; (first | exact List.Mem.head _ | (refine List.Mem.tail _ ?_; (first | exact List.Mem.head _ | (refine List.Mem.tail _ ?_; (first | exact List.Mem.head _ | (refine List.Mem.tail _ ?_; (first | exact List.Mem.head _ | (refine List.Mem.tail _ ?_; (first | exact List.Mem.head _ | (refine List.Mem.tail _ ?_; (first | exact List.Mem.head _ | (refine List.Mem.tail _ ?_; (first | exact List.Mem.head _ | (refine List.Mem.tail _ ?_; (first | exact List.Mem.head _ | (refine List.Mem.tail _ ?_; (first | exact List.Mem.head _ | (refine List.Mem.tail _ ?_; (first | exact List.Mem.head _ | (refine List.Mem.tail _ ?_; (first | exact List.Mem.head _ | (refine List.Mem.tail _ ?_; (first | exact List.Mem.head _ | (refine List.Mem.tail _ ?_; (first | exact List.Mem.head _ | (refine List.Mem.tail _ ?_; (first | exact List.Mem.head _ | (refine List.Mem.tail _ ?_; (first | exact List.Mem.head _ | (refine List.Mem.tail _ ?_; (first | exact List.Mem.head _ | (refine List.Mem.tail _ ?_; (first | exact List.Mem.head _ | (refine List.Mem.tail _ ?_; (first | exact List.Mem.head _ | (refine List.Mem.tail _ ?_; (first | exact List.Mem.head _ | (refine List.Mem.tail _ ?_; (first | exact List.Mem.head _ | (refine List.Mem.tail _ ?_; (first | exact List.Mem.head _ | (refine List.Mem.tail _ ?_; (first | exact List.Mem.head _ | (refine List.Mem.tail _ ?_; (first | exact List.Mem.head _ | (refine List.Mem.tail _ ?_; (first | exact List.Mem.head _ | (refine List.Mem.tail _ ?_; (first | exact List.Mem.head _ | (refine List.Mem.tail _ ?_; (first | exact List.Mem.head _ | (refine List.Mem.tail _ ?_; exact List.Mem.head _)))))))))))))))))))))))))))))))))))))))))))))))))))))))))

section
variable {K : Cx} {n : Nat} {F : Fm} {P : Out → Prop}

noncomputable def bρ (xs : List Str) (x : Str) (lo : Int) (hi : D) (mid : En) : List Var :=
  [⟨"a", .loc, .val (.list (xs.map .str))⟩, ⟨"x", .loc, .val (.str x)⟩, ⟨"lo", .loc, .val (.int lo)⟩, ⟨"hi", .loc, .val hi⟩, ⟨"key", .loc, .val .none⟩, ⟨"mid", .loc, mid⟩]

noncomputable def bmid : Option Nat → En
  | none => .un
  | some m => .val (.int m)

theorem bisL_done {xs : List Str} {x : Str} {lo hi : Nat} (h : ¬ lo < hi) : bisL xs x lo hi = lo := by unfold bisL; rw [dif_neg h]
theorem bisR_done {xs : List Str} {x : Str} {lo hi : Nat} (h : ¬ lo < hi) : bisR xs x lo hi = lo := by unfold bisR; rw [dif_neg h]
theorem bisL_step {xs : List Str} {x : Str} {lo hi : Nat} (h : lo < hi) : bisL xs x lo hi = if (xs.getD ((lo + hi) / 2) ⟨#[]⟩).cps.toList < x.cps.toList then bisL xs x ((lo + hi) / 2 + 1) hi else bisL xs x lo ((lo + hi) / 2) := by
  conv => lhs; unfold bisL
  rw [dif_pos h]
theorem bisR_step {xs : List Str} {x : Str} {lo hi : Nat} (h : lo < hi) : bisR xs x lo hi = if x.cps.toList < (xs.getD ((lo + hi) / 2) ⟨#[]⟩).cps.toList then bisR xs x lo ((lo + hi) / 2) else bisR xs x ((lo + hi) / 2 + 1) hi := by
  conv => lhs; unfold bisR
  rw [dif_pos h]
theorem mid_int {lo hi : Nat} : ((lo : Int) + (hi : Int)).fdiv 2 = (((lo + hi) / 2 : Nat) : Int) := by
  rw [Int.fdiv_eq_ediv_of_nonneg _ (by decide)]; omega

end

/-! # part N1 -/
section
open PySem.Sem (wp)
/-! ## numbers -/
noncomputable def digN (w : Nat) : Nat → Nat → List Nat
  | 0, _ => []
  | k + 1, x => x % 2 ^ w :: digN w k (x / 2 ^ w)
theorem digN_length (w : Nat) : ∀ k x, (digN w k x).length = k
  | 0, _ => rfl
  | k + 1, x => by unfold digN; rw [List.length_cons, digN_length w k]
theorem digN_app (w : Nat) : ∀ i j x, digN w (i + j) x = digN w i x ++ digN w j (x / 2 ^ (w * i))
  | 0, j, x => by simp [digN]
  | i + 1, j, x => by
    rw [Nat.add_right_comm]
    show x % 2 ^ w :: digN w (i + j) (x / 2 ^ w) = x % 2 ^ w :: (digN w i (x / 2 ^ w) ++ _)
    rw [digN_app w i j, Nat.div_div_eq_div_mul, ← Nat.pow_add, show w + w * i = w * (i + 1) by rw [Nat.mul_succ, Nat.add_comm]]
theorem digN_mod (w : Nat) : ∀ i x, digN w i (x % 2 ^ (w * i)) = digN w i x
  | 0, x => rfl
  | i + 1, x => by
    have e1 : x % 2 ^ (w * (i + 1)) % 2 ^ w = x % 2 ^ w := by
      rw [show w * (i + 1) = w + w * i by rw [Nat.mul_succ, Nat.add_comm], Nat.pow_add, Nat.mod_mul_right_mod]
    have e2 : x % 2 ^ (w * (i + 1)) / 2 ^ w = x / 2 ^ w % 2 ^ (w * i) := by
      rw [show w * (i + 1) = w + w * i by rw [Nat.mul_succ, Nat.add_comm], Nat.pow_add, Nat.mod_mul_right_div_self]
    show _ :: _ = _ :: _
    rw [e1, e2, digN_mod w i]

noncomputable def putD (ds : List D) (L R w x : Nat) : List D := ds.take L ++ (digN w (R - L) x).map (fun (i : Nat) => D.int i) ++ ds.drop R
theorem putD_length {ds : List D} {L R w x : Nat} (h : L ≤ R) (hR : R ≤ ds.length) : (putD ds L R w x).length = ds.length := by
  unfold putD
  rw [List.length_append, List.length_append, List.length_map, digN_length, List.length_take, List.length_drop]; omega
theorem putD_leaf {ds : List D} {L w x : Nat} (h : L < ds.length) (hx : x < 2 ^ w) : ds.set L (.int x) = putD ds L (L + 1) w x := by
  unfold putD
  rw [show L + 1 - L = 1 by omega]
  show _ = ds.take L ++ [D.int ((x % 2 ^ w : Nat) : Int)] ++ ds.drop (L + 1)
  rw [Nat.mod_eq_of_lt hx, List.set_eq_take_append_cons_drop, if_pos h, List.append_assoc]; rfl
theorem putD_step {ds : List D} {L m R w x : Nat} (h1 : L < m) (h2 : m < R) (hR : R ≤ ds.length) : putD (putD ds L m w (x % 2 ^ (w * (m - L)))) m R w (x / 2 ^ (w * (m - L))) = putD ds L R w x := by
  have hl : (ds.take L ++ (digN w (m - L) (x % 2 ^ (w * (m - L)))).map (fun (i : Nat) => D.int i)).length = m := by
    rw [List.length_append, List.length_take, List.length_map, digN_length]; omega
  unfold putD
  rw [List.take_append_of_le_length (by rw [hl]; exact Nat.le_refl _), List.take_of_length_le (by rw [hl]; exact Nat.le_refl _)]
  rw [List.drop_append, hl, List.drop_of_length_le (by rw [hl]; omega), List.nil_append, List.drop_drop, show m + (R - m) = R by omega, digN_mod]
  rw [show R - L = (m - L) + (R - m) by omega, digN_app, List.map_append]
  simp only [List.append_assoc]

theorem bits_le {x : Int} {k : Nat} (h : x.natAbs < 2 ^ k) : Builtin.Int.intBits x ≤ k := by
  unfold Builtin.Int.intBits
  split
  · exact Nat.zero_le _
  · rename_i h0
    have : x.natAbs ≠ 0 := by simpa using h0
    exact (Nat.log2_lt this).mpr h

theorem xor_low (a s : Nat) : Builtin.bitXor (a : Int) (((a / 2 ^ s * 2 ^ s : Nat) : Int)) = ((a % 2 ^ s : Nat) : Int) := by
  generalize hb : a / 2 ^ s * 2 ^ s = b
  have hsh : b = a >>> s <<< s := by rw [Nat.shiftRight_eq_div_pow, Nat.shiftLeft_eq, hb]
  have hand : a &&& b = b := by
    apply Nat.eq_of_testBit_eq
    intro i
    rw [Nat.testBit_and, hsh, Nat.testBit_shiftLeft, Nat.testBit_shiftRight]
    by_cases h : i ≥ s
    · rw [show s + (i - s) = i by omega]; cases a.testBit i <;> simp
    · simp [h]
  have hor : a ||| b = a := by
    apply Nat.eq_of_testBit_eq
    intro i
    rw [Nat.testBit_or, hsh, Nat.testBit_shiftLeft, Nat.testBit_shiftRight]
    by_cases h : i ≥ s
    · rw [show s + (i - s) = i by omega]; cases a.testBit i <;> simp
    · simp [h]
  have e1 : Builtin.bitAnd (a : Int) (b : Int) = (b : Int) := by
    unfold Builtin.bitAnd
    have h1 : decide ((0 : Int) ≤ (a : Int)) = true := by simp
    have h2 : decide ((0 : Int) ≤ (b : Int)) = true := by simp
    rw [h1, h2]
    show (((a : Int).toNat &&& (b : Int).toNat : Nat) : Int) = _
    rw [Int.toNat_natCast, Int.toNat_natCast, hand]
  have e2 : Builtin.bitOr (a : Int) (b : Int) = (a : Int) := by
    unfold Builtin.bitOr Builtin.bitAnd Builtin.bitNot
    have h1 : decide ((0 : Int) ≤ -(a : Int) - 1) = false := by simp; omega
    have h2 : decide ((0 : Int) ≤ -(b : Int) - 1) = false := by simp; omega
    rw [h1, h2]
    show -(-(((-(-(a : Int) - 1) - 1).toNat ||| (-(-(b : Int) - 1) - 1).toNat : Nat) : Int) - 1) - 1 = _
    rw [show (-(-(a : Int) - 1) - 1) = (a : Int) by omega, show (-(-(b : Int) - 1) - 1) = (b : Int) by omega, Int.toNat_natCast, Int.toNat_natCast, hor]
    omega
  unfold Builtin.bitXor
  rw [e1, e2]
  have := Nat.div_add_mod a (2 ^ s)
  rw [Nat.mul_comm, hb] at this
  omega

theorem fdiv_pow (a s : Nat) : (a : Int).fdiv (2 ^ s) = ((a / 2 ^ s : Nat) : Int) := by
  rw [Int.fdiv_eq_ediv_of_nonneg _ (Int.le_of_lt (by exact_mod_cast Nat.two_pow_pos s))]
  norm_cast
end

/-! # part N2 -/
section
noncomputable def valN (w : Nat) : List Nat → Nat
  | [] => 0
  | d :: r => d + 2 ^ w * valN w r
theorem valN_app (w : Nat) (b : List Nat) : ∀ a : List Nat, valN w (a ++ b) = valN w a + 2 ^ (w * a.length) * valN w b
  | [] => by simp [valN]
  | d :: r => by
    show d + 2 ^ w * valN w (r ++ b) = d + 2 ^ w * valN w r + _
    rw [valN_app w b r, List.length_cons, Nat.mul_succ, Nat.add_comm (w * r.length) w, Nat.pow_add, Nat.mul_add, Nat.mul_assoc, Nat.add_assoc]
theorem valN_lt (w : Nat) : ∀ xs : List Nat, (∀ d ∈ xs, d < 2 ^ w) → valN w xs < 2 ^ (w * xs.length)
  | [], _ => by simp [valN]
  | d :: r, h => by
    have h1 := h d (.head _)
    have h2 := valN_lt w r fun e he => h e (.tail _ he)
    rw [List.length_cons, Nat.mul_succ, Nat.add_comm (w * r.length) w, Nat.pow_add]
    show d + 2 ^ w * valN w r < _
    have : 2 ^ w * (valN w r + 1) ≤ 2 ^ w * 2 ^ (w * r.length) := Nat.mul_le_mul (Nat.le_refl _) h2
    rw [Nat.mul_succ] at this
    omega
theorem digN_valN (w : Nat) : ∀ xs : List Nat, (∀ d ∈ xs, d < 2 ^ w) → digN w xs.length (valN w xs) = xs
  | [], _ => rfl
  | d :: r, h => by
    have h1 := h d (.head _)
    show (d + 2 ^ w * valN w r) % 2 ^ w :: digN w r.length ((d + 2 ^ w * valN w r) / 2 ^ w) = _
    rw [Nat.add_mul_mod_self_left, Nat.mod_eq_of_lt h1, Nat.add_mul_div_left _ _ (Nat.two_pow_pos w), Nat.div_eq_of_lt h1, Nat.zero_add, digN_valN w r fun e he => h e (.tail _ he)]
theorem valN_digN (w : Nat) : ∀ k x, x < 2 ^ (w * k) → valN w (digN w k x) = x
  | 0, x, h => by
    have : x = 0 := by simpa using h
    subst this; rfl
  | k + 1, x, h => by
    show x % 2 ^ w + 2 ^ w * valN w (digN w k (x / 2 ^ w)) = x
    rw [valN_digN w k, Nat.mod_add_div]
    apply Nat.div_lt_of_lt_mul
    rw [← Nat.pow_add, show w + w * k = w * (k + 1) by rw [Nat.mul_succ, Nat.add_comm]]
    exact h
theorem digN_lt (w : Nat) : ∀ k x, ∀ d ∈ digN w k x, d < 2 ^ w
  | 0, _, d, h => by cases h
  | k + 1, x, d, h => by
    rcases List.mem_cons.mp h with rfl | h
    · exact Nat.mod_lt _ (Nat.two_pow_pos w)
    · exact digN_lt w k _ d h

/-! the part of a list between two places -/
noncomputable def segN (xs : List Nat) (L R : Nat) : List Nat := (xs.drop L).take (R - L)
theorem segN_length {xs : List Nat} {L R : Nat} (h : R ≤ xs.length) : (segN xs L R).length = R - L := by
  unfold segN; rw [List.length_take, List.length_drop]; omega
theorem segN_split {xs : List Nat} {L m R : Nat} (h1 : L ≤ m) (h2 : m ≤ R) : segN xs L R = segN xs L m ++ segN xs m R := by
  unfold segN
  rw [show R - L = (m - L) + (R - m) by omega, List.take_add, List.drop_drop, show L + (m - L) = m by omega]
theorem segN_one {xs : List Nat} {L d : Nat} (h : xs[L]? = some d) : segN xs L (L + 1) = [d] := by
  have hl := (List.getElem?_eq_some_iff.mp h).1
  unfold segN
  rw [show L + 1 - L = 1 by omega, List.drop_eq_getElem_cons hl, List.take_succ_cons, List.take_zero]
  rw [List.getElem?_eq_getElem hl] at h
  injection h with h; rw [h]
theorem segN_mem {xs : List Nat} {L R d : Nat} (h : d ∈ segN xs L R) : d ∈ xs := List.mem_of_mem_drop (List.mem_of_mem_take h)
theorem segN_all (xs : List Nat) : segN xs 0 xs.length = xs := by unfold segN; simp

/-! how many digits -/
noncomputable def bitN (a : Nat) : Nat := Builtin.Int.intBits (a : Int)
theorem bitN_zero : bitN 0 = 0 := by decide
theorem bitN_pos {a : Nat} (h : a ≠ 0) : bitN a = a.log2 + 1 := by
  unfold bitN Builtin.Int.intBits
  rw [Int.natAbs_natCast]
  have : ((a : Int) == 0) = false := by simpa using h
  rw [this]; rfl
theorem lt_bitN (a : Nat) : a < 2 ^ bitN a := by
  by_cases h : a = 0
  · subst h; decide
  · rw [bitN_pos h]; exact Nat.lt_log2_self
theorem bitN_le {a k : Nat} (h : a < 2 ^ k) : bitN a ≤ k := bits_le (by rw [Int.natAbs_natCast]; exact h)
theorem lt_bitN_of {a k : Nat} (h : 2 ^ k ≤ a) : k < bitN a := by
  have h0 : a ≠ 0 := by have := Nat.two_pow_pos k; omega
  rw [bitN_pos h0]
  exact Nat.lt_succ_of_le ((Nat.le_log2 h0).mpr h)
theorem bitN_ne {a : Nat} (h : a ≠ 0) : bitN a ≠ 0 := by rw [bitN_pos h]; omega
theorem pow_bitN_le {a : Nat} (h : a ≠ 0) : 2 ^ (bitN a - 1) ≤ a := by rw [bitN_pos h]; exact Nat.log2_self_le h

noncomputable def cntD (w a : Nat) : Nat := (bitN a + w - 1) / w
theorem lt_cntD {w : Nat} (hw : 0 < w) (a : Nat) : a < 2 ^ (w * cntD w a) := by
  refine Nat.lt_of_lt_of_le (lt_bitN a) (Nat.pow_le_pow_right (by decide) ?_)
  unfold cntD
  have h1 := Nat.div_add_mod (bitN a + w - 1) w
  have h2 := Nat.mod_lt (bitN a + w - 1) hw
  generalize w * ((bitN a + w - 1) / w) = t at *
  omega
theorem cntD_eq {w a m : Nat} (hw : 0 < w) (h1 : 2 ^ (w * m) ≤ a) (h2 : a < 2 ^ (w * (m + 1))) : cntD w a = m + 1 := by
  have b1 := lt_bitN_of h1
  have b2 := bitN_le h2
  unfold cntD
  rw [Nat.mul_succ] at b2
  refine Nat.div_eq_of_lt_le ?_ ?_
  · rw [Nat.mul_comm, Nat.mul_succ]; omega
  · rw [Nat.mul_comm]
    show _ < w * (m + 1 + 1)
    rw [Nat.mul_add, Nat.mul_add, Nat.mul_one]; omega
theorem cntD_le {w a k : Nat} (hw : 0 < w) (h : a < 2 ^ (w * k)) : cntD w a ≤ k := by
  have b2 := bitN_le h
  unfold cntD
  refine Nat.lt_succ_iff.mp ((Nat.div_lt_iff_lt_mul hw).mpr ?_)
  rw [Nat.mul_comm, Nat.succ_eq_add_one, Nat.mul_succ]; omega
theorem cntD_zero {w : Nat} (hw : 0 < w) : cntD w 0 = 0 := by
  unfold cntD; rw [bitN_zero]; exact Nat.div_eq_of_lt (by omega)

/-! division, digit by digit -/
noncomputable def divStep (n b : Nat) (st : Nat × List Nat) (d : Nat) : Nat × List Nat := ((st.1 * 2 ^ n + d) % b, st.2 ++ [(st.1 * 2 ^ n + d) / b])
noncomputable def divAt (n b : Nat) (ds : List Nat) (i : Nat) : Nat × List Nat := (ds.take i).foldl (divStep n b) (0, [])
theorem divAt_zero {n b : Nat} {ds : List Nat} : divAt n b ds 0 = (0, []) := rfl
theorem divAt_succ {n b : Nat} {ds : List Nat} {i d : Nat} (h : ds[i]? = some d) : divAt n b ds (i + 1) = divStep n b (divAt n b ds i) d := by
  unfold divAt
  rw [List.take_add_one, h, List.foldl_append]; rfl
theorem divAt_inv {n b : Nat} (hb : 0 < b) {ds : List Nat} (hd : ∀ d ∈ ds, d < 2 ^ n) : ∀ i, i ≤ ds.length →
    (divAt n b ds i).1 < b ∧ (divAt n b ds i).2.length = i ∧ (∀ q ∈ (divAt n b ds i).2, q < 2 ^ n) ∧ valN n (ds.take i).reverse = valN n (divAt n b ds i).2.reverse * b + (divAt n b ds i).1
  | 0, _ => ⟨hb, rfl, (fun q h => nomatch h), by simp [divAt, valN]⟩
  | i + 1, h => by
    obtain ⟨h1, h2, h3, h4⟩ := divAt_inv hb hd i (by omega)
    have hg : ds[i]? = some ds[i] := List.getElem?_eq_getElem (by omega)
    have hdi := hd ds[i] (List.getElem_mem _)
    rw [divAt_succ hg]
    generalize divAt n b ds i = st at *
    obtain ⟨r, qs⟩ := st
    dsimp only at h1 h2 h3 h4
    have hlt : r * 2 ^ n + ds[i] < 2 ^ n * b := by
      have : (r + 1) * 2 ^ n ≤ b * 2 ^ n := Nat.mul_le_mul h1 (Nat.le_refl _)
      rw [Nat.succ_mul] at this
      rw [Nat.mul_comm (2 ^ n) b]
      omega
    refine ⟨Nat.mod_lt _ hb, ?_, ?_, ?_⟩
    · show (qs ++ [_]).length = _
      rw [List.length_append, h2]; rfl
    · intro q hq
      rcases List.mem_append.mp hq with hq | hq
      · exact h3 q hq
      · have e : q = (r * 2 ^ n + ds[i]) / b := by simpa using hq
        rw [e]
        exact (Nat.div_lt_iff_lt_mul hb).mpr hlt
    · rw [List.take_add_one, hg, List.reverse_append]
      show ds[i] + 2 ^ n * valN n (ds.take i).reverse = valN n (qs ++ [_]).reverse * b + _
      rw [h4, List.reverse_append]
      show _ = ((r * 2 ^ n + ds[i]) / b + 2 ^ n * valN n qs.reverse) * b + (r * 2 ^ n + ds[i]) % b
      have := Nat.div_add_mod (r * 2 ^ n + ds[i]) b
      generalize (r * 2 ^ n + ds[i]) / b = q at *
      generalize (r * 2 ^ n + ds[i]) % b = r' at *
      generalize 2 ^ n = X at *
      generalize valN n qs.reverse = V at *
      rw [Nat.mul_add, Nat.add_mul, Nat.mul_comm b q] at *
      rw [Nat.mul_assoc X V b, Nat.mul_comm X r]
      omega
end

/-! # part F23 -/
section
section
variable {K : Cx} {n : Nat} {F : Fm} {P : Out → Prop}
set_option maxHeartbeats 1000000 in
theorem bisect_left_body {f : Addr} {N0 : Addr → Prop} {L : Addr} {qual : Str} {code : Value} {xs : List Str} {x : Str} (hz : xs.length ≤ sizeLine) (hlen : K.Gl "len" (.builtin "len")) :
    Blk K n (fFm (fEnv (scopeA 10) L [] qual f code) N0 no (bρ xs x 0 .none .un) ["ValueError", "len"]) (bodyA 10) (fun o => o = .ret (.int (bisL xs x 0 xs.length))) := by
  apply blk_if
  · trivial
  · nofun
  intro _
  apply blk_if
  · trivial
  rotate_left
  · nofun
  · intro _
    apply blk_assign
    · apply Ev.eq
      · apply ev_call_b
        · trivial
        · exact hlen
        · trivial
        · apply cd_len_list
          rw [List.length_map]; exact hz
      · rw [List.length_map]
    · trivial
    · apply blk_if
      · trivial
      · intro _
        apply blk_cons (P1 := fun o => ∃ lo m, lo = bisL xs x 0 xs.length ∧ o = .next (bρ xs x lo (.int lo) (bmid m)))
        · apply Stm.imp
          · apply stm_while (α := Nat × Nat × Option Nat) (fun a => bρ xs x a.1 (.int a.2.1) (bmid a.2.2)) (0, xs.length, none) (fun a => a.2.1 - a.1) (fun a => decide (a.1 < a.2.1))
              (fun a => if (xs.getD ((a.1 + a.2.1) / 2) ⟨#[]⟩).cps.toList < x.cps.toList then ((a.1 + a.2.1) / 2 + 1, a.2.1, some ((a.1 + a.2.1) / 2)) else (a.1, (a.1 + a.2.1) / 2, some ((a.1 + a.2.1) / 2)))
              (fun a => a.1 ≤ a.2.1 ∧ a.2.1 ≤ xs.length ∧ bisL xs x a.1 a.2.1 = bisL xs x 0 xs.length)
              (P := fun o => ∃ a : Nat × Nat × Option Nat, ¬ a.1 < a.2.1 ∧ a.1 ≤ a.2.1 ∧ bisL xs x a.1 a.2.1 = bisL xs x 0 xs.length ∧ o = .next (bρ xs x a.1 (.int a.2.1) (bmid a.2.2)))
            · rfl
            · exact ⟨Nat.zero_le _, Nat.le_refl _, rfl⟩
            · rintro ⟨lo, hi, m⟩ _
              apply Tr.eq
              · trivial
              · simp
            · rintro ⟨lo, hi, m⟩ ⟨h1, h2, h3⟩ hc
              have hlt : lo < hi := of_decide_eq_true hc
              dsimp only at h1 h2 h3
              rw [bisL_step hlt] at h3
              have hm : (lo + hi) / 2 < xs.length := by omega
              have hlen : xs.length < 2 ^ 63 := by rw [sizeLine_eq] at hz; omega
              dsimp only
              have hget : (xs.map D.str)[(lo + hi) / 2]? = some (.str (xs.getD ((lo + hi) / 2) ⟨#[]⟩)) := by
                rw [List.getElem?_map, List.getElem?_eq_getElem hm, List.getD_eq_getElem?_getD, List.getElem?_eq_getElem hm]; rfl
              refine ⟨?_, ?_, ?_⟩
              · split at h3
                · rename_i hlt2
                  rw [if_pos hlt2]
                  exact ⟨by dsimp only; omega, h2, h3⟩
                · rename_i hlt2
                  rw [if_neg hlt2]
                  exact ⟨by dsimp only; omega, by dsimp only; omega, h3⟩
              · split
                · dsimp only; omega
                · dsimp only; omega
              · apply blk_assign
                · trivial
                · trivial
                · rw [mid_int]
                  apply blk_if
                  · apply tr_cmp
                    · apply ev_item
                      · trivial
                      · trivial
                      · exact Int.natCast_nonneg _
                      · exact hget
                      · omega
                      · intro _ _; with_unfolding_all rfl
                    · trivial
                    · apply c_lt_str
                    · rfl
                  · intro hc
                    apply blk_assign
                    · trivial
                    · trivial
                    · apply blk_nil
                      rw [if_pos (of_decide_eq_true hc)]
                      rfl
                    · rfl
                  · intro hc
                    apply blk_assign
                    · trivial
                    · trivial
                    · apply blk_nil
                      rw [if_neg (of_decide_eq_false hc)]
                      rfl
                    · rfl
                · rfl
            · rintro ⟨lo, hi, m⟩ ⟨h1, h2, h3⟩ hc
              exact ⟨_, of_decide_eq_false hc, h1, h3, rfl⟩
          · rintro o ⟨⟨lo, hi, m⟩, h1, h2, h3, rfl⟩
            dsimp only at h1 h2 h3 ⊢
            have : hi = lo := by omega
            subst this
            rw [bisL_done h1] at h3
            exact ⟨hi, m, h3, rfl⟩
        · rintro ρ' ⟨lo, m, h1, h2⟩
          cases h2
          apply blk_ret
          · trivial
          · rw [h1]
        · rintro d ⟨lo, m, _, h⟩
          cases h
      · nofun
    · rfl

theorem bisect_left_spec {f : Addr} {xs : List Str} {x : Str} {t : Tok} (hz : xs.length ≤ sizeLine) (hlen : K.Gl "len" (.builtin "len")) (ho : FnObj K f (scopeA 10) (bodyA 10) ["a", "x", "lo", "hi", "key"] [.int 0 t, .none, .none]) :
    FnSpec K (n + 1) (.ref f) [.list (xs.map .str), .str x] (.int (bisL xs x 0 xs.length)) := by
  refine fn_spec (sh := ⟨["a", "x", "lo", "hi", "key", "mid"], [], []⟩) (gl := ["ValueError", "len"]) (dd := [.int 0, .none, .none]) (ρ0 := fun _ => bρ xs x 0 .none .un) ho (fun N h => .cons (.int _ _) (.cons .none (.cons .none .nil))) rfl rfl rfl (by decide +kernel) rfl (fun L => ?_) fun N0 L qual code => bisect_left_body hz hlen
  exact .cons (.here nofun) (.cons (.there (.here nofun)) (.cons (.there (.there (.here nofun))) (.cons (.there (.there (.there (.here nofun)))) (.cons (.there (.there (.there (.there (.here nofun))))) .nil))))
end
end

/-! # part F24 -/
section
section
variable {K : Cx} {n : Nat} {F : Fm} {P : Out → Prop}
set_option maxHeartbeats 1000000 in
theorem bisect_right_body {f : Addr} {N0 : Addr → Prop} {L : Addr} {qual : Str} {code : Value} {xs : List Str} {x : Str} (hz : xs.length ≤ sizeLine) (hlen : K.Gl "len" (.builtin "len")) :
    Blk K n (fFm (fEnv (scopeA 9) L [] qual f code) N0 no (bρ xs x 0 .none .un) ["ValueError", "len"]) (bodyA 9) (fun o => o = .ret (.int (bisR xs x 0 xs.length))) := by
  apply blk_if
  · trivial
  · nofun
  intro _
  apply blk_if
  · trivial
  rotate_left
  · nofun
  · intro _
    apply blk_assign
    · apply Ev.eq
      · apply ev_call_b
        · trivial
        · exact hlen
        · trivial
        · apply cd_len_list
          rw [List.length_map]; exact hz
      · rw [List.length_map]
    · trivial
    · apply blk_if
      · trivial
      · intro _
        apply blk_cons (P1 := fun o => ∃ lo m, lo = bisR xs x 0 xs.length ∧ o = .next (bρ xs x lo (.int lo) (bmid m)))
        · apply Stm.imp
          · apply stm_while (α := Nat × Nat × Option Nat) (fun a => bρ xs x a.1 (.int a.2.1) (bmid a.2.2)) (0, xs.length, none) (fun a => a.2.1 - a.1) (fun a => decide (a.1 < a.2.1))
              (fun a => if x.cps.toList < (xs.getD ((a.1 + a.2.1) / 2) ⟨#[]⟩).cps.toList then (a.1, (a.1 + a.2.1) / 2, some ((a.1 + a.2.1) / 2)) else ((a.1 + a.2.1) / 2 + 1, a.2.1, some ((a.1 + a.2.1) / 2)))
              (fun a => a.1 ≤ a.2.1 ∧ a.2.1 ≤ xs.length ∧ bisR xs x a.1 a.2.1 = bisR xs x 0 xs.length)
              (P := fun o => ∃ a : Nat × Nat × Option Nat, ¬ a.1 < a.2.1 ∧ a.1 ≤ a.2.1 ∧ bisR xs x a.1 a.2.1 = bisR xs x 0 xs.length ∧ o = .next (bρ xs x a.1 (.int a.2.1) (bmid a.2.2)))
            · rfl
            · exact ⟨Nat.zero_le _, Nat.le_refl _, rfl⟩
            · rintro ⟨lo, hi, m⟩ _
              apply Tr.eq
              · trivial
              · simp
            · rintro ⟨lo, hi, m⟩ ⟨h1, h2, h3⟩ hc
              have hlt : lo < hi := of_decide_eq_true hc
              dsimp only at h1 h2 h3
              rw [bisR_step hlt] at h3
              have hm : (lo + hi) / 2 < xs.length := by omega
              have hlen : xs.length < 2 ^ 63 := by rw [sizeLine_eq] at hz; omega
              dsimp only
              have hget : (xs.map D.str)[(lo + hi) / 2]? = some (.str (xs.getD ((lo + hi) / 2) ⟨#[]⟩)) := by
                rw [List.getElem?_map, List.getElem?_eq_getElem hm, List.getD_eq_getElem?_getD, List.getElem?_eq_getElem hm]; rfl
              refine ⟨?_, ?_, ?_⟩
              · split at h3
                · rename_i hlt2
                  rw [if_pos hlt2]
                  exact ⟨by dsimp only; omega, by dsimp only; omega, h3⟩
                · rename_i hlt2
                  rw [if_neg hlt2]
                  exact ⟨by dsimp only; omega, h2, h3⟩
              · split
                · dsimp only; omega
                · dsimp only; omega
              · apply blk_assign
                · trivial
                · trivial
                · rw [mid_int]
                  apply blk_if
                  · apply tr_cmp
                    · trivial
                    · apply ev_item
                      · trivial
                      · trivial
                      · exact Int.natCast_nonneg _
                      · exact hget
                      · omega
                      · intro _ _; with_unfolding_all rfl
                    · apply c_lt_str
                    · rfl
                  · intro hc
                    apply blk_assign
                    · trivial
                    · trivial
                    · apply blk_nil
                      rw [if_pos (of_decide_eq_true hc)]
                      rfl
                    · rfl
                  · intro hc
                    apply blk_assign
                    · trivial
                    · trivial
                    · apply blk_nil
                      rw [if_neg (of_decide_eq_false hc)]
                      rfl
                    · rfl
                · rfl
            · rintro ⟨lo, hi, m⟩ ⟨h1, h2, h3⟩ hc
              exact ⟨_, of_decide_eq_false hc, h1, h3, rfl⟩
          · rintro o ⟨⟨lo, hi, m⟩, h1, h2, h3, rfl⟩
            dsimp only at h1 h2 h3 ⊢
            have : hi = lo := by omega
            subst this
            rw [bisR_done h1] at h3
            exact ⟨hi, m, h3, rfl⟩
        · rintro ρ' ⟨lo, m, h1, h2⟩
          cases h2
          apply blk_ret
          · trivial
          · rw [h1]
        · rintro d ⟨lo, m, _, h⟩
          cases h
      · nofun
    · rfl

theorem bisect_right_spec {f : Addr} {xs : List Str} {x : Str} {t : Tok} (hz : xs.length ≤ sizeLine) (hlen : K.Gl "len" (.builtin "len")) (ho : FnObj K f (scopeA 9) (bodyA 9) ["a", "x", "lo", "hi", "key"] [.int 0 t, .none, .none]) :
    FnSpec K (n + 1) (.ref f) [.list (xs.map .str), .str x] (.int (bisR xs x 0 xs.length)) := by
  refine fn_spec (sh := ⟨["a", "x", "lo", "hi", "key", "mid"], [], []⟩) (gl := ["ValueError", "len"]) (dd := [.int 0, .none, .none]) (ρ0 := fun _ => bρ xs x 0 .none .un) ho (fun N h => .cons (.int _ _) (.cons .none (.cons .none .nil))) rfl rfl rfl (by decide +kernel) rfl (fun L => ?_) fun N0 L qual code => bisect_right_body hz hlen
  exact .cons (.here nofun) (.cons (.there (.here nofun)) (.cons (.there (.there (.here nofun))) (.cons (.there (.there (.there (.here nofun)))) (.cons (.there (.there (.there (.there (.here nofun))))) .nil))))
end
end

/-! # part F25 -/
section
open PySem.Sem (wp)
/-! ## the generator -/
noncomputable def gFor : Stmt := (bodyA 12).getD 2 (.Pass ⟨0, 0, 0, 0⟩)
noncomputable def gT : Expr := match gFor with | .For t _ _ _ _ => t | _ => .Constant .none 0 ⟨0, 0, 0, 0⟩
noncomputable def gB : List Stmt := match gFor with | .For _ _ b _ _ => b | _ => []
noncomputable def gAft : List Stmt := (bodyA 12).drop 3

noncomputable def pcs : List Nat → Nat → Bool → List (Nat × Str)
  | [], i, true => [(i - 1, ⟨#[92]⟩)]
  | [], _, false => []
  | c :: cs, i, true => (i, ⟨#[92, c]⟩) :: pcs cs (i + 1) false
  | c :: cs, i, false => if c = 92 then pcs cs (i + 1) true else (i, ⟨#[c]⟩) :: pcs cs (i + 1) false
noncomputable def pD (p : Nat × Str) : D := .tup [.int p.1, .str p.2]

noncomputable def gρ (x : Str) (pos : D) (esc : D) (che : En) : List Var := [⟨"addr", .loc, .val (.str x)⟩, ⟨"pos", .loc, .val pos⟩, ⟨"escape", .loc, .val esc⟩, ⟨"ch", .loc, che⟩]

noncomputable def CheOK : En → Prop
  | .un => True
  | .val _ => True
  | _ => False

theorem gρ_loc {x : Str} {pos esc : D} {che : En} : ∀ p ∈ gρ x pos esc che, p.loc = .loc := by
  intro p hp
  unfold gρ at hp
  simp only [List.mem_cons, List.not_mem_nil, or_false] at hp
  rcases hp with rfl | rfl | rfl | rfl <;> rfl
theorem gρ_own {x : Str} {pos esc : D} {che : En} (h : CheOK che) : ∀ p ∈ gρ x pos esc che, ∀ a ds, p.en ≠ .own a ds := by
  intro p hp a ds e
  unfold gρ at hp
  simp only [List.mem_cons, List.not_mem_nil, or_false] at hp
  rcases hp with rfl | rfl | rfl | rfl
  · cases e
  · cases e
  · cases e
  · dsimp only at e; subst e; exact h

noncomputable def gY (K : Cx) (Wf NN fp' : Addr → Prop) (psD : List D) : Protocol := fun m s₀ v s₁ kap =>
  Ext K fp' no s₀ s₁ ∧ (∀ b, fp' b → b < s₁.heap.objs.size) ∧ Rep NN s₁.heap (psD.getD (psD.length - 1 - m) .none) v ∧ ∀ s'', Ext K Wf no s₁ s'' → Inv K s'' → kap (.send .none) s''
noncomputable def gR (K : Cx) (fp' : Addr → Prop) : GenEnd := fun n s₀ r s₁ => r = .ok (.ret .none) ∧ (n = 0 ∧ Ext K fp' no s₀ s₁)

theorem slash : (Str.ofString "\\" : Str) = ⟨#[92]⟩ := by decide +kernel
theorem slash_eq {c : Nat} : ((⟨#[c]⟩ : Str) == Str.ofString "\\") = decide (c = 92) := by
  rw [slash]
  by_cases h : c = 92
  · subst h; decide
  · rw [decide_eq_false h]
    have : (⟨#[c]⟩ : Str) ≠ ⟨#[92]⟩ := fun e => h (by injection e with e; have := congrArg (fun a : Array Nat => a[0]?) e; simpa using this)
    simpa using this

section
variable {K : Cx} {n : Nat} {F : Fm} {P : Out → Prop}

theorem gFm_ext {Nf fpE X : Addr → Prop} {L f : Addr} {qual : Str} {code : Value} {x : Str} {pos esc : D} {che : En} {s s' : Shared} (h : FrOK K (((fFm (fEnv (scopeA 12) L [] qual f code) Nf no [] ["enumerate"]).more fpE).at (gρ x pos esc che)) s) (hc : CheOK che)
    (hX : ∀ a, X a → ((fFm (fEnv (scopeA 12) L [] qual f code) Nf no [] ["enumerate"]).more fpE).N a) (hL : ¬ X L) (hx : Ext K X no s s') :
    FrOK K (((fFm (fEnv (scopeA 12) L [] qual f code) Nf no [] ["enumerate"]).more fpE).at (gρ x pos esc che)) s' :=
  h.ext hx hX hL (fun p hp c hc => by rw [gρ_loc p hp] at hc; rcases hc with hc | hc <;> cases hc) (fun p hp a ds e => absurd e (gρ_own hc p hp a ds))

theorem gW {L a : Addr} (h : no a ∨ (L ≤ a ∧ a < L + 1 + cellCount (scopeA 12).names)) : a = L := by
  rcases h with h | h
  · exact h.elim
  · have e : cellCount (scopeA 12).names = 0 := by decide +kernel
    rw [e] at h
    exact Nat.le_antisymm (Nat.le_of_lt_succ h.2) h.1

set_option maxHeartbeats 2000000 in
theorem gen_loop {Wf Nf fpE : Addr → Prop} {L f : Addr} {qual : Str} {code e : Value} {x : Str} {psD : List D} {B : Around} {fr : Frame} {k : Result → Sem PySem.Fin} {hd : Option Value} {l : List Value} {c₁ : Code} {p₁ : Pos}
    (hfr : fr = .ret k hd false l c₁ p₁ []) (hR : Room (B.over (.forLoop gT e gB [] (fEnv (scopeA 12) L [] qual f code)) [fr]) n) (hWN : ∀ a, Wf a → Nf a) (hWL : ¬ Wf L) (hEL : ¬ fpE L)
    (haft : ∀ (i : Nat) (esc : Bool) (che : En) (s₀ s : Shared) (pre : List D), CheOK che → psD = pre ++ (pcs [] i esc).map pD → FrOK K (((fFm (fEnv (scopeA 12) L [] qual f code) Nf no [] ["enumerate"]).more fpE).at (gρ x (.int (i - 1 : Nat)) (.bool esc) che)) s →
      Ext K (fun a => fpE a ∨ a = L) no s₀ s → Seg K.M B (gR K fun a => fpE a ∨ a = L) (gY K Wf ((fFm (fEnv (scopeA 12) L [] qual f code) Nf no [] ["enumerate"]).more fpE).N (fun a => fpE a ∨ a = L) psD) (pcs [] i esc).length s₀ c₁ (k (.ok .next)) [] s) :
    ∀ (rest : List Nat) (i : Nat) (esc : Bool) (che : En) (s₀ s : Shared) (pre : List D), CheOK che → psD = pre ++ (pcs rest i esc).map pD →
      FrOK K (((fFm (fEnv (scopeA 12) L [] qual f code) Nf no [] ["enumerate"]).more fpE).at (gρ x (.int (i - 1 : Nat)) (.bool esc) che)) s →
      IterOK K n (fun a => Wf a ∨ a = L) ((fFm (fEnv (scopeA 12) L [] qual f code) Nf no [] ["enumerate"]).more fpE).N fpE no true e (((rest.map fun c => D.str ⟨#[c]⟩).zipIdx i).map fun p => .tup [.int p.2, p.1]) s →
      Ext K (fun a => fpE a ∨ a = L) no s₀ s →
      Seg K.M B (gR K fun a => fpE a ∨ a = L) (gY K Wf ((fFm (fEnv (scopeA 12) L [] qual f code) Nf no [] ["enumerate"]).more fpE).N (fun a => fpE a ∨ a = L) psD) (pcs rest i esc).length s₀
        (.forLoop gT e gB [] (fEnv (scopeA 12) L [] qual f code)) (K.M.den (.forLoop gT e gB [] (fEnv (scopeA 12) L [] qual f code))) [fr] s := by
  intro rest
  induction rest with
  | nil =>
    intro i esc che s₀ s pre hc hps hF hit hx
    refine seg_forLoop ?_
    refine hit _ _ _ s hR (Ext.refl _) hF.inv fun s2 x2 => ?_
    subst hfr
    refine seg_block_end ?_
    exact haft i esc che s₀ s2 pre hc hps (gFm_ext hF hc (fun a q => .inr q) hEL x2) (hx.trans (x2.mono (fun _ _ q => .inl q) fun _ _ q => q))
  | cons c rest ih =>
    intro i esc che s₀ s pre hc hps hF hit hx
    refine seg_forLoop ?_
    refine hit _ _ _ s hR (Ext.refl _) hF.inv fun v s2 x2 r2 go => ?_
    refine go gT _ _ _ True.intro fun s3 x3 r3 hit3 => ?_
    have hF3 := gFm_ext (gFm_ext hF hc (fun a q => .inr q) hEL x2) hc (fun a q => .inr q) hEL x3
    have hx3 := hx.trans ((x2.trans x3).mono (W' := fun a => fpE a ∨ a = L) (fun _ _ q => .inl q) fun _ _ q => q)
    have asg : Asg K (((fFm (fEnv (scopeA 12) L [] qual f code) Nf no [] ["enumerate"]).more fpE).at (gρ x (.int (i - 1 : Nat)) (.bool esc) che)) gT (.tup [.int i, .str ⟨#[c]⟩]) (gρ x (.int i) (.bool esc) (.val (.str ⟨#[c]⟩))) := by
      apply asg_tuple
      apply Asgs.cons
      · apply asg_name
        trivial
      · apply Asgs.cons
        · apply asg_name
          trivial
        · exact .nil
        · intro _; rfl
      · intro _; rfl
    refine asg hR.hh hF3 r3 fun s4 x4 hF4 => ?_
    have e1 : (i : Int) = ((i + 1 - 1 : Nat) : Int) := by simp
    rw [e1] at hF4
    have x4' : Ext K (fun a => Wf a ∨ a = L) no s3 s4 := x4.mono (fun a _ q => .inr (gW q)) fun _ _ q => q
    have hx4 : Ext K (fun a => fpE a ∨ a = L) no s₀ s4 := hx3.trans (x4.mono (fun a _ q => .inr (gW q)) fun _ _ q => q)
    -- a yield, and on
    have yld : ∀ (ye : Expr) (yp pos : Pos) (st : List Stmt) (piece : Str) (rs : List (Nat × Str)), pcs (c :: rest) i esc = (i, piece) :: rs → rs = pcs rest (i + 1) false →
        Ev K n (((fFm (fEnv (scopeA 12) L [] qual f code) Nf no [] ["enumerate"]).more fpE).at (gρ x (.int (i + 1 - 1 : Nat)) (.bool esc) (.val (.str ⟨#[c]⟩)))) ye (.tup [.int i, .str piece]) →
        (∀ s5, FrOK K (((fFm (fEnv (scopeA 12) L [] qual f code) Nf no [] ["enumerate"]).more fpE).at (gρ x (.int (i + 1 - 1 : Nat)) (.bool esc) (.val (.str ⟨#[c]⟩)))) s5 →
          wpAny K.M (B.over (.forLoop gT e gB [] (fEnv (scopeA 12) L [] qual f code)) [fr]) (execs st (fEnv (scopeA 12) L [] qual f code)) (fun f' s6 => f' = .next ∧ FrOK K (((fFm (fEnv (scopeA 12) L [] qual f code) Nf no [] ["enumerate"]).more fpE).at (gρ x (.int (i + 1 - 1 : Nat)) (.bool false) (.val (.str ⟨#[c]⟩)))) s6 ∧
            Ext K (· = L) no s5 s6) (fun _ _ => False) s5) → ∀ sy, FrOK K (((fFm (fEnv (scopeA 12) L [] qual f code) Nf no [] ["enumerate"]).more fpE).at (gρ x (.int (i + 1 - 1 : Nat)) (.bool esc) (.val (.str ⟨#[c]⟩)))) sy → E0 K s4 sy →
        Seg K.M B (gR K fun a => fpE a ∨ a = L) (gY K Wf ((fFm (fEnv (scopeA 12) L [] qual f code) Nf no [] ["enumerate"]).more fpE).N (fun a => fpE a ∨ a = L) psD) (pcs (c :: rest) i esc).length s₀
          (.forLoop gT e gB [] (fEnv (scopeA 12) L [] qual f code)) ((execs (.Expr (.Yield (some ye) yp) pos :: st) (fEnv (scopeA 12) L [] qual f code)).wrap (fun f' => match f' with
            | .next | .cont => .pure (.again (.forLoop gT e gB [] (fEnv (scopeA 12) L [] qual f code)))
            | .brk => .pure (.done .next)
            | .ret v => .pure (.done (.ret v))) (fun e' => (do noteFrame e' (fEnv (scopeA 12) L [] qual f code); theTreesLotGoes e' : Sem Unit).wrap (fun _ => .raise e') .raise id id) id id) [fr] sy := by
      intro ye yp pos st piece rs hrs hrs2 hev hst sy hFy xy
      rw [hrs, List.length_cons]
      refine seg_execs_cons (seg_Expr_Yield (by rw [hfr]; rfl) rfl (by rw [hfr]; rfl) (hev hR hFy fun v5 s5 x5 r5 kap hk => ?_))
      refine ⟨(hx4.trans xy.of0).trans x5.of0, fun b q => (hFy.ext0 x5).alloc b (q.elim .inr fun q => .inl (.inr (q ▸ ⟨Nat.le_refl _, Nat.lt_of_lt_of_le (Nat.lt_succ_self _) (Nat.le_add_right _ _)⟩))), ?_, fun s6 x6 inv6 => hk .none s6 ?_⟩
      · have : psD.getD (psD.length - 1 - rs.length) .none = .tup [.int i, .str piece] := by
          rw [hps, hrs]
          simp only [List.length_append, List.length_map, List.length_cons, List.map_cons]
          rw [show pre.length + (rs.length + 1) - 1 - rs.length = pre.length by omega, List.getD_eq_getElem?_getD, List.getElem?_append_right (Nat.le_refl _), Nat.sub_self]
          rfl
        rw [this]; exact r5
      · have hF6 := gFm_ext (hFy.ext0 x5) (by trivial) (fun a q => .inl (.inl (hWN a q))) hWL x6
        dsimp only
        refine seg_wrap (wpAny_mono (hst s6 hF6) (fun f' s7 h7 => ?_) fun _ _ h => h.elim)
        obtain ⟨rfl, hF7, x7⟩ := h7
        rw [hrs2]
        have h37 : Ext K (fun a => Wf a ∨ a = L) no s3 s7 := (((x4'.trans xy.of0).trans x5.of0).trans (x6.mono (fun _ _ q => .inl q) fun _ _ q => q)).trans (x7.mono (fun _ _ q => .inr q) fun _ _ q => q)
        refine seg_again rfl (ih (i + 1) false (.val (.str ⟨#[c]⟩)) s6 s7 (pre ++ [.tup [.int i, .str piece]]) True.intro ?_ hF7 (hit3.ext h37) (x7.mono (fun _ _ q => .inr q) fun _ _ q => q))
        rw [hps, hrs, List.map_cons, hrs2, List.append_assoc]; rfl
    have tr : ∀ p, Tr K n (((fFm (fEnv (scopeA 12) L [] qual f code) Nf no [] ["enumerate"]).more fpE).at (gρ x (.int (i + 1 - 1 : Nat)) (.bool esc) (.val (.str ⟨#[c]⟩)))) (.Name "escape" p) esc := by
      intro p
      apply tr_plain
      · trivial
      · exact .bool _
      · intro _; rfl
    refine seg_if (rest := []) (tr _ hR hF4 fun s5 x5 => ?_)
    have hF5 := hF4.ext0 x5
    have fin : ∀ {st : List Stmt} {esc' : Bool} {pos' : D}, Blk K n (((fFm (fEnv (scopeA 12) L [] qual f code) Nf no [] ["enumerate"]).more fpE).at (gρ x (.int (i + 1 - 1 : Nat)) (.bool esc) (.val (.str ⟨#[c]⟩)))) st (fun o => o = .next (gρ x (.int (i + 1 - 1 : Nat)) (.bool esc') (.val (.str ⟨#[c]⟩)))) →
        ∀ s5, FrOK K (((fFm (fEnv (scopeA 12) L [] qual f code) Nf no [] ["enumerate"]).more fpE).at (gρ x (.int (i + 1 - 1 : Nat)) (.bool esc) (.val (.str ⟨#[c]⟩)))) s5 →
          wpAny K.M (B.over (.forLoop gT e gB [] (fEnv (scopeA 12) L [] qual f code)) [fr]) (execs st (fEnv (scopeA 12) L [] qual f code)) (fun f' s6 => f' = .next ∧ FrOK K (((fFm (fEnv (scopeA 12) L [] qual f code) Nf no [] ["enumerate"]).more fpE).at (gρ x (.int (i + 1 - 1 : Nat)) (.bool esc') (.val (.str ⟨#[c]⟩)))) s6 ∧
            Ext K (· = L) no s5 s6) (fun _ _ => False) s5 := fun bl s5 h5 => bl hR h5 fun o f' s6 hp ho x6 => by
      subst hp
      exact ⟨ho.1, ho.2, x6.mono (fun a _ q => gW q) fun _ _ q => q⟩
    cases esc with
    | true =>
      refine yld _ _ _ _ ⟨#[92, c]⟩ (pcs rest (i + 1) false) rfl rfl ?_ (fin (pos' := .none) ?_) s5 hF5 x5
      · apply Ev.eq
        · apply ev_tup
          · apply evs_cons
            · trivial
            · apply evs_cons
              · apply ev_bin
                · trivial
                · trivial
                · apply b_cat
                  rw [slash]
                  show 1 + 1 ≤ sizeLine
                  decide
              · exact .nil
              · intro _; rfl
            · intro _; rfl
          · decide
        · rw [← e1, slash]; rfl
      · apply blk_assign
        · trivial
        · trivial
        · apply blk_nil
          rfl
        · rfl
    | false =>
      have trc : ∀ p1 p2 p3 k3, Tr K n (((fFm (fEnv (scopeA 12) L [] qual f code) Nf no [] ["enumerate"]).more fpE).at (gρ x (.int (i + 1 - 1 : Nat)) (.bool false) (.val (.str ⟨#[c]⟩)))) (.Compare (.Name "ch" p1) [.Eq] [.Constant (.str "\\") k3 p2] p3) (decide (c = 92)) := by
        intro p1 p2 p3 k3
        apply Tr.eq
        · apply tr_cmp
          · trivial
          · trivial
          · apply c_eq_str
          · rfl
        · exact slash_eq
      refine seg_if (rest := []) (trc _ _ _ _ hR hF5 fun s6 x6 => ?_)
      have hF6 := hF5.ext0 x6
      by_cases h92 : c = 92
      · rw [decide_eq_true h92]
        have hp : pcs (c :: rest) i false = pcs rest (i + 1) true := by
          show (if c = 92 then pcs rest (i + 1) true else _) = _
          rw [if_pos h92]
        rw [hp] at hps ⊢
        have bl : ∀ p1 p2 k p3, Blk K n (((fFm (fEnv (scopeA 12) L [] qual f code) Nf no [] ["enumerate"]).more fpE).at (gρ x (.int (i + 1 - 1 : Nat)) (.bool false) (.val (.str ⟨#[c]⟩)))) [.Assign [.Name "escape" p1] (.Constant (.bool true) k p2) p3] (fun o => o = .next (gρ x (.int (i + 1 - 1 : Nat)) (.bool true) (.val (.str ⟨#[c]⟩)))) := by
          intro p1 p2 k p3
          apply blk_assign
          · trivial
          · trivial
          · apply blk_nil
            rfl
          · rfl
        refine seg_wrap (wpAny_mono (fin (pos' := .none) (bl _ _ _ _) s6 hF6) (fun f' s7 h7 => ?_) fun _ _ h => h.elim)
        obtain ⟨rfl, hF7, x7⟩ := h7
        have h37 : Ext K (fun a => Wf a ∨ a = L) no s3 s7 := ((x4'.trans x5.of0).trans x6.of0).trans (x7.mono (fun _ _ q => .inr q) fun _ _ q => q)
        exact seg_again rfl (ih (i + 1) true (.val (.str ⟨#[c]⟩)) s₀ s7 pre True.intro hps hF7 (hit3.ext h37) (((hx4.trans x5.of0).trans x6.of0).trans (x7.mono (fun _ _ q => .inr q) fun _ _ q => q)))
      · rw [decide_eq_false h92]
        have hp : pcs (c :: rest) i false = (i, ⟨#[c]⟩) :: pcs rest (i + 1) false := by
          show (if c = 92 then pcs rest (i + 1) true else _) = _
          rw [if_neg h92]
        refine yld _ _ _ _ ⟨#[c]⟩ (pcs rest (i + 1) false) hp rfl ?_ (fin (pos' := .none) ?_) s6 hF6 (x5.trans x6)
        · apply Ev.eq
          · apply ev_tup
            · trivial
            · decide
          · rw [← e1]
        · apply blk_nil
          rfl
end
end

/-! # part F26 -/
section
open PySem.Sem (wp)
section
variable {K : Cx} {n : Nat} {F : Fm} {P : Out → Prop}

theorem room_func {B : Around} {b : List Stmt} {env : Env} (R : Room B (n + 1)) : Room (B.over (.func b env) []) n :=
  ⟨by show (marksOver [] (B.handled, B.handled)).1 = none; exact R.hh, by have := R.depth; show B.depth + 0 + 1 + n < _; omega, by have := R.units; show B.units + 0 + 3 + 20 * n + 100 < _; omega⟩

theorem room_loop {B : Around} {b body : List Stmt} {env : Env} {t : Expr} {e : Value} {k : Result → Sem PySem.Fin} {p : Pos} (R : Room B (n + 1)) : Room (B.over (.forLoop t e body [] env) [.ret k none false [] (.func b env) p []]) n :=
  ⟨by
    show (marksOver [_] (B.handled, B.handled)).1 = none
    rw [R.hh]; rfl, by have := R.depth; show B.depth + 1 + 0 + n < _; omega, by have := R.units; show B.units + 3 + 0 + 20 * n + 100 < _; omega⟩

noncomputable def gρ0 (x : Str) : List Var := [⟨"addr", .loc, .val (.str x)⟩, ⟨"pos", .loc, .un⟩, ⟨"escape", .loc, .un⟩, ⟨"ch", .loc, .un⟩]
noncomputable def gρ1 (x : Str) : List Var := [⟨"addr", .loc, .val (.str x)⟩, ⟨"pos", .loc, .val (.int 0)⟩, ⟨"escape", .loc, .un⟩, ⟨"ch", .loc, .un⟩]

theorem enum_addr {A : Around} {s : Shared} {Q : Value → Shared → Prop} {E : Value → Shared → Prop} {y a : Str} {p p' pos : Pos} {x : Str} {l : Loc} (hF : FrOK K F s) (hm : y ∈ F.gl) (hg : K.Gl y (.type "enumerate")) (hx : (⟨a, l, .val (.str x)⟩ : Var) ∈ F.ρ)
    (h : ∀ t h', IsEnum h' (s.heap.objs.size + 1) s.heap.objs.size 0 .none → h'.IsStrIter s.heap.objs.size (strIterType x) x t 0 → h'.objs.size = s.heap.objs.size + 2 →
      (∀ b o, s.heap.get? b = some o → h'.get? b = some o) → Q (.ref (s.heap.objs.size + 1)) { s with heap := h' })
    (hs : starEach [.Name a p'] F.env = [(false, eval (.Name a p') F.env)] := by rfl) : wpAny K.M A (eval (.Call (.Name y p) [.Name a p'] [] pos) F.env) Q E s :=
  Call_ (load_gl hF hm hg (by
    rw [hs]
    obtain ⟨v, r, k⟩ := var_val hF hx
    refine PySem.callWith_type rfl (Calls.evalArgs_plain (Calls.spliced_cons (wpAny_Name (k (Calls.spliced_nil ?_)) (hF.ok.tame _ hx).1)))
    cases r with
    | str _ t => exact call_enumerate_str fun h' h1 h2 h3 h4 => h t h' h1 h2 h3 h4))

/-- enumerate over a text, from its two objects -/
theorem iter_enum_str {W N fp : Addr → Prop} {e it : Addr} {y : Str} {t : Tok} {s : Shared} (hWN : ∀ a, W a → N a) (hTN : ∀ a, K.Tb a → N a) (hfN : ∀ a, fp a → N a) (hef : fp e) (hif : fp it) (hne : e ≠ it)
    (hge : K.g0.get? e = none) (heT : ¬ K.Tb e) (hgi : K.g0.get? it = none) (hiT : ¬ K.Tb it) (heW : ¬ W e) (hiW : ¬ W it) (hen : IsEnum s.heap e it 0 .none) (hit : s.heap.IsStrIter it (strIterType y) y t 0) (hal : ∀ a, N a → a < s.heap.objs.size) :
    IterOK K n W N fp no true (.ref e) ((y.cps.toList.map fun c => D.str ⟨#[c]⟩).zipIdx 0 |>.map fun p => .tup [.int p.2, p.1]) s := by
  refine iter_enum (T := strIterType y) (fun i s => s.heap.IsStrIter it (strIterType y) y t i) hWN hTN hfN hef hif hne hge heT hgi hiT heW (by unfold strIterType; split <;> decide) (y.cps.toList.map fun c => .str ⟨#[c]⟩) ?_ ?_ ?_ ?_ ?_ _ 0 s .none rfl (Nat.zero_le _) hit hen hal
  · rintro i s s' ⟨o, e, r⟩ x
    exact ⟨o, x.heap _ _ hiW hiT e, r⟩
  · rintro i s h₂ tk ⟨o, e, r⟩ k2
    exact ⟨o, k2 _ _ hne.symm e, r⟩
  · rintro i s ⟨o, e, r, _⟩
    exact ⟨o, e, r⟩
  · rintro i d hx A Q E s a hQ
    rw [List.getElem?_map, Option.map_eq_some_iff] at hx
    obtain ⟨c, hc, rfl⟩ := hx
    have hc' : y.cps[i]? = some c := by rw [← Array.getElem?_toList]; exact hc
    have fin : ∀ h', h'.IsStrIter it (strIterType y) y t (i + 1) → Heap.SameBut it s.heap h' → Q (.str ⟨#[c]⟩ s.toks) { s with heap := h', toks := s.toks + 1 } := fun h' b hs =>
      hQ _ h' _ hs b (.str _ _)
    unfold strIterType at a fin
    split at a
    · rename_i ha
      rw [if_pos ha] at fin
      exact wpAny_nextOf_ascii_item a hc' fin
    · rename_i ha
      rw [if_neg ha] at fin
      exact wpAny_nextOf_wide_item a hc' fin
  · rintro A Q E s hh a hE
    have hn : y.cps[(y.cps.toList.map fun c => D.str ⟨#[c]⟩).length]? = none := Array.getElem?_eq_none (by simp)
    unfold strIterType at a
    split at a
    · exact wpAny_nextOf_ascii_end hh a hn hE
    · exact wpAny_nextOf_wide_end hh a hn hE

set_option maxHeartbeats 2000000 in
theorem gen_seg {Wf Nf : Addr → Prop} {L f : Addr} {qual : Str} {code : Value} {x : Str} {B : Around} {s : Shared} (R : Room B (n + 1)) (hWN : ∀ a, Wf a → Nf a) (hWL : ¬ Wf L) (hg : K.Gl "enumerate" (.type "enumerate"))
    (hF : FrOK K (fFm (fEnv (scopeA 12) L [] qual f code) Nf no (gρ0 x) ["enumerate"]) s) :
    Seg K.M B (gR K fun a => (a = s.heap.objs.size + 1 ∨ a = s.heap.objs.size) ∨ a = L)
      (gY K Wf ((fFm (fEnv (scopeA 12) L [] qual f code) Nf no [] ["enumerate"]).more fun a => a = s.heap.objs.size + 1 ∨ a = s.heap.objs.size).N (fun a => (a = s.heap.objs.size + 1 ∨ a = s.heap.objs.size) ∨ a = L) ((pcs x.cps.toList 0 false).map pD))
      (pcs x.cps.toList 0 false).length s (.func (bodyA 12) (fEnv (scopeA 12) L [] qual f code)) (K.M.den (.func (bodyA 12) (fEnv (scopeA 12) L [] qual f code))) [] s := by
  have hLz : L < s.heap.objs.size := hF.low.loc
  generalize hz : s.heap.objs.size = z at *
  refine seg_func ?_
  have R0 : Room (B.over (.func (bodyA 12) (fEnv (scopeA 12) L [] qual f code)) []) n := room_func R
  refine seg_stm (wpAny_Assign_Name (wpAny_Constant_int (store_valZ (F := fFm (fEnv (scopeA 12) L [] qual f code) Nf no (gρ0 x) ["enumerate"]) (ρ' := gρ1 x) (hF.ext0 (E0.toks _)) (by trivial) (.int 0 _) fun s₁ x₁ z₁ hF₁ => ⟨rfl, ?_⟩)) rfl)
  refine seg_stm (wpAny_Assign_Name (wpAny_pure (store_valZ (F := fFm (fEnv (scopeA 12) L [] qual f code) Nf no (gρ1 x) ["enumerate"]) (ρ' := gρ x (.int 0) (.bool false) .un) hF₁ (by trivial) (.bool false) fun s₂ x₂ z₂ hF₂ => ⟨rfl, ?_⟩)) rfl)
  have hz2 : s₂.heap.objs.size = z := by rw [z₂, z₁]; exact hz
  have hz' : s.heap.objs.size = z := hz
  refine seg_For (enum_addr (F := fFm (fEnv (scopeA 12) L [] qual f code) Nf no (gρ x (.int 0) (.bool false) .un) ["enumerate"]) hF₂ (by trivial) hg (by trivial) fun t h' hen hit hz3 hk => wpAny_pyIter_enum (by rw [hz2] at hen; exact hz2 ▸ hen) fun p => ?_)
  rw [hz2] at hen hit hz3
  have x3 : E0 K s₂ { s₂ with heap := h' } := E0.grow (tk := s₂.toks) hk (by rw [hz3, hz2]; omega)
  have f1 := fresh_facts hF₂ (a := z + 1) (by rw [hz2]; exact Nat.le_succ z)
  have f0 := fresh_facts hF₂ (a := z) (by rw [hz2]; exact Nat.le_refl z)
  have hfp : ∀ a, (a = z + 1 ∨ a = z) → s₂.heap.objs.size ≤ a ∧ a < h'.objs.size := fun a q => by
    rw [hz2, hz3]
    rcases q with rfl | rfl
    · exact ⟨Nat.le_succ _, Nat.lt_succ_self _⟩
    · exact ⟨Nat.le_refl _, Nat.lt_of_lt_of_le (Nat.lt_succ_self _) (Nat.le_succ _)⟩
  have hF3 := hF₂.more x3 hfp
  have nW : ∀ a, z ≤ a → ¬ (Wf a ∨ a = L) := fun a ha q => q.elim (fun q => absurd (hF.alloc a (.inl (hWN a q))) (Nat.not_lt.mpr (hz'.symm ▸ ha))) fun q => absurd (q ▸ hLz) (Nat.not_lt.mpr ha)
  have hLE : ¬ (L = z + 1 ∨ L = z) := fun q => q.elim (fun q => absurd hLz (Nat.not_lt.mpr (q ▸ Nat.le_succ z))) fun q => absurd hLz (Nat.not_lt.mpr (Nat.le_of_eq q.symm))
  have xs3 : Ext K (fun a => (a = z + 1 ∨ a = z) ∨ a = L) no s { s₂ with heap := h' } := ((((E0.toks (K := K) (s := s) (s.toks + 1)).of0.trans (x₁.mono (fun a _ q => .inr (gW q)) fun _ _ q => q)).trans (x₂.mono (fun a _ q => .inr (gW q)) fun _ _ q => q))).trans x3.of0
  have hN : ∀ a, (Wf a ∨ a = L) → ((fFm (fEnv (scopeA 12) L [] qual f code) Nf no [] ["enumerate"]).more fun a => a = z + 1 ∨ a = z).N a := fun a q => .inl (q.elim (fun q => .inl (hWN a q)) fun q => .inr (q ▸ ⟨Nat.le_refl _, Nat.lt_of_lt_of_le (Nat.lt_succ_self _) (Nat.le_add_right _ _)⟩))
  have hit3 := iter_enum_str (K := K) (n := n) (W := fun a => Wf a ∨ a = L) (N := ((fFm (fEnv (scopeA 12) L [] qual f code) Nf no [] ["enumerate"]).more fun a => a = z + 1 ∨ a = z).N) (fp := fun a => a = z + 1 ∨ a = z) (s := { s₂ with heap := h' })
    hN (fun a q => hF3.ok.TN a q) (fun a q => .inr q) (.inl rfl) (.inr rfl) (Nat.succ_ne_self z) f1.2.2.1 f1.2.2.2 f0.2.2.1 f0.2.2.2 (nW _ (Nat.le_succ z)) (nW _ (Nat.le_refl z)) hen hit hF3.alloc
  rw [hz2]
  refine gen_loop (fpE := fun a => a = z + 1 ∨ a = z) (fr := _) rfl (room_loop R) hWN hWL hLE ?_ x.cps.toList 0 false .un s _ [] True.intro rfl hF3 hit3 xs3
  intro i esc che s₀ s5 pre hc hps hF5 hx5
  have tr : ∀ p, Tr K n (((fFm (fEnv (scopeA 12) L [] qual f code) Nf no [] ["enumerate"]).more fun a => a = z + 1 ∨ a = z).at (gρ x (.int (i - 1 : Nat)) (.bool esc) che)) (.Name "escape" p) esc := by
    intro p
    apply tr_plain
    · trivial
    · exact .bool _
    · intro _; rfl
  refine seg_if (rest := []) (tr _ R0 hF5 fun s6 x6 => ?_)
  cases esc with
  | true =>
    have ev : ∀ p1 p2 p3 k1 k2, Ev K n (((fFm (fEnv (scopeA 12) L [] qual f code) Nf no [] ["enumerate"]).more fun a => a = z + 1 ∨ a = z).at (gρ x (.int (i - 1 : Nat)) (.bool true) che)) (.Tuple [.Name "pos" p1, .Constant (.str "\\") k1 p2] k2 p3) (.tup [.int (i - 1 : Nat), .str ⟨#[92]⟩]) := by
      intro p1 p2 p3 k1 k2
      apply Ev.eq
      · apply ev_tup
        · trivial
        · exact (by decide : 2 ≤ 1000)
      · rw [slash]
    refine seg_execs_cons (seg_Expr_Yield rfl rfl rfl (ev _ _ _ _ _ R0 (hF5.ext0 x6) fun v s7 x7 r7 kap hk => ?_))
    refine ⟨(hx5.trans x6.of0).trans x7.of0, fun b q => ((hF5.ext0 x6).ext0 x7).alloc b (q.elim .inr fun q => .inl (.inr (q ▸ ⟨Nat.le_refl _, Nat.lt_of_lt_of_le (Nat.lt_succ_self _) (Nat.le_add_right _ _)⟩))), ?_, fun s8 x8 inv8 => hk .none s8 ?_⟩
    · have : ((pcs x.cps.toList 0 false).map pD).getD (((pcs x.cps.toList 0 false).map pD).length - 1 - 0) .none = .tup [.int (i - 1 : Nat), .str ⟨#[92]⟩] := by
        rw [hps]
        simp only [List.length_append, List.length_map, pcs, List.length_cons, List.length_nil, List.map_cons, List.map_nil]
        rw [show pre.length + (0 + 1) - 1 - 0 = pre.length by omega, List.getD_eq_getElem?_getD, List.getElem?_append_right (Nat.le_refl _), Nat.sub_self]
        rfl
      exact (show Rep _ _ (((pcs x.cps.toList 0 false).map pD).getD (((pcs x.cps.toList 0 false).map pD).length - 1 - 0) .none) v from this ▸ r7)
    · exact seg_end (.ok (.ret .none)) ⟨rfl, rfl, Ext.refl _⟩
  | false =>
    exact seg_end (.ok (.ret .none)) ⟨rfl, rfl, hx5.trans x6.of0⟩
end
end

/-! # part F27 -/
section
open PySem.Sem (wp)
section
variable {K : Cx} {n : Nat} {F : Fm} {P : Out → Prop}

/-- a pull of a generator whose body ends by falling off its end -/
theorem next_gen {A : Around} {s : Shared} {a : Addr} {g m : Nat} {gs : GenState} {P : Nat → Shared → Shared → Prop} {Y : Protocol} {Q : Option Value → Shared → Prop} {E : Value → Shared → Prop} (hh : A.handled = none) (hl : s.heap.NoLimit) (hroom : A.depth < recursionLimit)
    (hg : s.heap.IsGen a g) (hgs : s.gens[g]? = some gs)
    (hgo : gs.Goes K.M A.in1 (fun n s₀ r s₁ => r = .ok (.ret .none) ∧ P n s₀ s₁) Y m (.send .none) (s.setGen g .running))
    (hY : ∀ v s₁ gs', gs'.bare = true → Y (m - 1) (s.setGen g .running) v s₁ (fun r' s'' => match m with
        | 0 => False
        | m + 1 => gs'.Goes K.M A.in1 (fun n s₀ r s₁ => r = .ok (.ret .none) ∧ P n s₀ s₁) Y m r' s'') → Q (some v) (s₁.setGen g gs'))
    (hP : ∀ s₁, P m (s.setGen g .running) s₁ → ∀ h', (∀ b o, s₁.heap.get? b = some o → h'.get? b = some o) → s₁.heap.objs.size ≤ h'.objs.size → Q none { s₁.setGen g .finished with heap := h' }) :
    wpAny K.M A (pyNext (.ref a)) Q E s := by
  have stop : ∀ s₁ : Shared, P m (s.setGen g .running) s₁ → True := fun _ _ => trivial
  unfold pyNext
  refine wpAny_bind (wpAny_attempt (wpAny_callSpecial?_slot (name := Str.ofString "__next__") hg.typeIs slot_gen_next (wpAny_call_entry slot_gen_next hg.typeIs entry_gen_next ?_ (args_gen_next _))))
  show wpAny _ A.in1 (Builtin.Generator.genWake (.ref a) (.send .none)) _ _ s
  unfold Builtin.Generator.genWake
  refine wpAny_bind (wpAny_holding (wpAny_genNumber hg (wpAny_bind (wpAny_genState hgs ?_))))
  have go : gs ≠ .running ∧ gs ≠ .finished := ⟨fun e => by subst e; exact hgo, fun e => by subst e; exact hgo⟩
  cases gs with
  | running => exact (go.1 rfl).elim
  | finished => exact (go.2 rfl).elim
  | _ =>
    refine wpAny_bind (wpAny_roomToWake hl hroom ?_)
    show wpAny _ A.in1 (.resume g (.send .none) [] _) _ _ s
    refine wpAny_resumeQ hgs hgo (fun x s₁ hx => ?_) (fun v s₁ gs' hb hv => wpAny_pure ⟨v, rfl, wpAny_pure (hY v s₁ gs' hb hv)⟩)
    obtain ⟨rfl, hp⟩ := hx
    show wpAny _ A.in1 (newExc (.type "StopIteration") [] >>= _) _ _ _
    refine wpAny_bind ?_
    simp only [newExc, newTuple]
    refine wpAny_bind (wpAny_newObj_type ?_ (by size_fits))
    refine wpAny_bind (m := firstArgMember _ _) (wpAny_of_eq (a := Value.none) (by first | rfl | (simp only [firstArgMember]; rfl)) ?_)
    refine wpAny_newObj_type ?_ (by size_fits)
    simp only [raiseNew]
    refine wpAny_bind (wpAny_bind (wpAny_handled ?_))
    first | rw [show A.in1.handled = none from hh] | rw [hh]
    refine wpAny_throw ?_
    refine wpAny_bind (wpAny_isInstance (T := "StopIteration") (b := true) ⟨_, Heap.get?_push_size _ rfl, rfl⟩ isSubtype_stop ?_)
    exact wpAny_pure (hP s₁ hp _ (fun b o hb => Heap.get?_push_of_some _ (Heap.get?_push_of_some _ hb)) (by
      show s₁.heap.objs.size ≤ _
      rw [Heap.size_push]
      exact Nat.le_succ_of_le (by rw [Heap.size_push]; exact Nat.le_succ _)))

/-- a generator that will hand the data on; what it may change grows -/
noncomputable def GenOK (K : Cx) (A : Around) (W N0 : Addr → Prop) (g : Nat) (it : Value) : List D → (Addr → Prop) → Shared → Prop
  | [], fp, s => ∀ (Q : Option Value → Shared → Prop) (E : Value → Shared → Prop) (s' : Shared), Ext K W no s s' → Inv K s' → (∀ s'', Ext K fp (· = g) s' s'' → Q none s'') → wpAny K.M A (pyNext it) Q E s'
  | d :: ds, fp, s => ∀ (Q : Option Value → Shared → Prop) (E : Value → Shared → Prop) (s' : Shared), Ext K W no s s' → Inv K s' →
      (∀ v s'' fp', (∀ b, fp b → fp' b) → (∀ b, fp' b → fp b ∨ (s'.heap.objs.size ≤ b ∧ b < s''.heap.objs.size)) → Ext K fp' (· = g) s' s'' → Rep (fun b => N0 b ∨ fp' b) s''.heap d v → GenOK K A W N0 g it ds fp' s'' → Q (some v) s'') →
      wpAny K.M A (pyNext it) Q E s'

theorem setGen_get {s : Shared} {g : Nat} {x : GenState} (h : g < s.gens.size) : (s.setGen g x).gens[g]? = some x := by
  show (s.gens.setIfInBounds g x)[g]? = some x
  rw [Array.getElem?_setIfInBounds_self_of_lt h]
theorem setGen_ne {s : Shared} {g g' : Nat} {x : GenState} (h : g' ≠ g) : (s.setGen g x).gens[g']? = s.gens[g']? := by
  show (s.gens.setIfInBounds g x)[g']? = _
  rw [Array.getElem?_setIfInBounds_ne h.symm]
theorem setGen_size {s : Shared} {g : Nat} {x : GenState} : (s.setGen g x).gens.size = s.gens.size := Array.size_setIfInBounds
theorem setGen_bare {s : Shared} {g : Nat} {x : GenState} (h : AllBare s.gens) (hx : x.bare = true) : AllBare (s.setGen g x).gens := by
  intro y hy
  obtain ⟨i, hi⟩ := Array.mem_iff_getElem?.mp hy
  by_cases e : i = g
  · subst e
    have hl : i < s.gens.size := by
      have := (Array.getElem?_eq_some_iff.mp hi).1
      rwa [setGen_size] at this
    rw [setGen_get hl] at hi
    cases hi; exact hx
  · rw [setGen_ne e] at hi
    exact h y (Array.mem_of_getElem? hi)
theorem setGen_inv {s : Shared} {g : Nat} {x : GenState} (h : Inv K s) (hx : x.bare = true) : Inv K (s.setGen g x) := ⟨h.keep, h.low, setGen_bare h.bare hx, h.tab⟩
theorem setGen_ext {s : Shared} {g : Nat} {x : GenState} {W : Addr → Prop} (hx : x.bare = true) : Ext K W (· = g) s (s.setGen g x) :=
  ⟨fun _ _ _ _ e => e, fun i => setGen_inv i hx, Nat.le_refl _, Nat.le_of_eq setGen_size.symm, fun g' _ h => setGen_ne h, rfl⟩
end
end

/-! # part F28 -/
section
open PySem.Sem (wp)
section
variable {K : Cx} {n : Nat} {F : Fm} {P : Out → Prop}

theorem gY_last {A : Around} {Wf NN fp' : Addr → Prop} {psD : List D} {s₁ s₂ : Shared} {v : Value} {m : Nat} (h : gY K Wf NN fp' psD m s₁ v s₂ fun _ _ => False) (hi : Inv K s₁) : False :=
  h.2.2.2 s₂ (Ext.refl _) (h.1.inv hi)

theorem isGen_ext {W : Addr → Prop} {V : Nat → Prop} {s s' : Shared} {a : Addr} {g : Nat} (x : Ext K W V s s') (h : s.heap.IsGen a g) (hW : ¬ W a) (hT : ¬ K.Tb a) : s'.heap.IsGen a g :=
  let ⟨o, nm, qn, e, r⟩ := h; ⟨o, nm, qn, x.heap _ _ hW hT e, r⟩

theorem gen_susp {A : Around} {Wf N0 NN fp' : Addr → Prop} {a : Addr} {g : Nat} {psD : List D} (R : Room A n) (haf : ¬ fp' a) (haT : ¬ K.Tb a) (haW : ¬ Wf a) (hNN : ∀ b, N0 b ∨ fp' b → NN b) :
    ∀ (m : Nat), m ≤ psD.length → ∀ (gs : GenState) (s : Shared), s.heap.IsGen a g → s.gens[g]? = some gs →
      (∀ s'', Ext K Wf no s s'' → Inv K s'' → gs.Goes K.M A.in1 (gR K fp') (gY K Wf NN fp' psD) m (.send .none) (s''.setGen g .running)) → GenOK K A Wf N0 g (.ref a) (psD.drop (psD.length - m)) fp' s := by
  intro m
  induction m with
  | zero =>
    intro _ gs s hg hgs hgo
    rw [Nat.sub_zero, List.drop_length]
    intro Q E s' x inv hQ
    have hgl : g < s.gens.size := (Array.getElem?_eq_some_iff.mp hgs).1
    refine next_gen R.hh (K.nolim.at fun o e => inv.keep _ o e) (by have := R.depth; omega) (isGen_ext x hg haW haT) ((x.gens g hgl (fun q => q)).trans hgs) (hgo s' x inv) (fun v s₁ gs' hb hy => (gY_last (A := A) hy (setGen_inv inv rfl)).elim) fun s₁ hp h' hk hz => ?_
    obtain ⟨_, x1⟩ := hp
    refine hQ _ ?_
    exact (((setGen_ext (W := fp') rfl).trans (x1.mono (fun _ _ q => q) fun _ _ q => q.elim)).trans (setGen_ext rfl)).trans (E0.grow (s := s₁.setGen g .finished) (h' := h') (tk := s₁.toks) hk hz).of0
  | succ m ih =>
    intro hm gs s hg hgs hgo
    have hlt : psD.length - (m + 1) < psD.length := by omega
    rw [List.drop_eq_getElem_cons hlt]
    intro Q E s' x inv hQ
    have hgl : g < s.gens.size := (Array.getElem?_eq_some_iff.mp hgs).1
    have hgl' : g < s'.gens.size := Nat.lt_of_lt_of_le hgl x.gsize
    refine next_gen R.hh (K.nolim.at fun o e => inv.keep _ o e) (by have := R.depth; omega) (isGen_ext x hg haW haT) ((x.gens g hgl (fun q => q)).trans hgs) (hgo s' x inv) (fun v s₁ gs' hb hy => ?_) fun s₁ hp h' hk hz => (by exact absurd hp.1 (Nat.succ_ne_zero m))
    obtain ⟨x1, hlt1, r1, kap⟩ := hy
    have X : Ext K fp' (· = g) s' (s₁.setGen g gs') := ((setGen_ext (W := fp') rfl).trans (x1.mono (fun _ _ q => q) fun _ _ q => q.elim)).trans (setGen_ext hb)
    have hgl1 : g < s₁.gens.size := Nat.lt_of_lt_of_le (by rw [setGen_size]; exact hgl') x1.gsize
    have hrun : s₁.gens[g]? = some .running := (x1.gens g (by rw [setGen_size]; exact hgl') (fun q => q)).trans (setGen_get hgl')
    have hd : psD.getD (psD.length - 1 - m) .none = psD[psD.length - (m + 1)] := by
      have e : psD.length - 1 - m = psD.length - (m + 1) := by omega
      rw [e, List.getD_eq_getElem?_getD, List.getElem?_eq_getElem hlt]; rfl
    refine hQ v _ fp' (fun _ q => q) (fun _ q => .inl q) X (by rw [← hd]; exact r1.keep (fun b _ q => hNN b q) (fun _ _ _ e => e)) ?_
    have := ih (by omega) gs' (s₁.setGen g gs') (isGen_ext X (isGen_ext x hg haW haT) haf haT) (setGen_get hgl1) fun s'' x2 inv2 => ?_
    · rwa [show psD.length - m = psD.length - (m + 1) + 1 by omega] at this
    · refine kap _ ⟨fun b o h1 h2 e => x2.heap b o h1 h2 e, fun _ => setGen_inv inv2 rfl, x2.size, Nat.le_trans (Nat.le_trans (Nat.le_of_eq setGen_size.symm) x2.gsize) (Nat.le_of_eq setGen_size.symm), fun g' hg' _ => ?_, x2.os⟩ (setGen_inv inv2 rfl)
      by_cases e : g' = g
      · subst e
        rw [setGen_get (Nat.lt_of_lt_of_le (by rw [setGen_size]; exact hgl1) x2.gsize), hrun]
      · rw [setGen_ne e, x2.gens g' (by rw [setGen_size]; exact hg') (fun q => q), setGen_ne e]

theorem FrOK.setGen {s : Shared} {g : Nat} {x : GenState} (h : FrOK K F s) (hx : x.bare = true) : FrOK K F (s.setGen g x) := ⟨h.ok, setGen_inv h.inv hx, h.ns, h.alloc⟩

set_option maxHeartbeats 1000000 in
theorem gen_first {A : Around} {Wf Nf : Addr → Prop} {L f a : Addr} {qual : Str} {code : Value} {x : Str} {g : Nat} {s : Shared} (R : Room A (n + 2)) (haW : ¬ Wf a) (haL : a ≠ L) (hWN : ∀ b, Wf b → Nf b) (hWL : ¬ Wf L) (hg : K.Gl "enumerate" (.type "enumerate"))
    (hF : FrOK K (fFm (fEnv (scopeA 12) L [] qual f code) Nf no (gρ0 x) ["enumerate"]) s) (hgen : s.heap.IsGen a g) (haT : ¬ K.Tb a) (hgs : s.gens[g]? = some (.fresh (.func (bodyA 12) (fEnv (scopeA 12) L [] qual f code)))) :
    GenOK K A Wf Nf g (.ref a) ((pcs x.cps.toList 0 false).map pD) (· = L) s := by
  have hgl : g < s.gens.size := (Array.getElem?_eq_some_iff.mp hgs).1
  have haz : a < s.heap.objs.size := by obtain ⟨o, _, _, e, _⟩ := hgen; exact Heap.lt_size e
  have hLz : L < s.heap.objs.size := hF.low.loc
  have RB : Room A.in1 (n + 1) := ⟨R.hh, by have := R.depth; show A.depth + _ < _; omega, by have := R.units; show A.units + 1 + _ + _ < _; omega⟩
  have go : ∀ s', Ext K Wf no s s' → Inv K s' → GenState.Goes K.M A.in1 (gR K fun b => (b = s'.heap.objs.size + 1 ∨ b = s'.heap.objs.size) ∨ b = L)
      (gY K Wf ((fFm (fEnv (scopeA 12) L [] qual f code) Nf no [] ["enumerate"]).more fun b => b = s'.heap.objs.size + 1 ∨ b = s'.heap.objs.size).N (fun b => (b = s'.heap.objs.size + 1 ∨ b = s'.heap.objs.size) ∨ b = L) ((pcs x.cps.toList 0 false).map pD))
      (pcs x.cps.toList 0 false).length (.fresh (.func (bodyA 12) (fEnv (scopeA 12) L [] qual f code))) (.send .none) (s'.setGen g .running) := fun s' xs inv => by
    have hF' : FrOK K (fFm (fEnv (scopeA 12) L [] qual f code) Nf no (gρ0 x) ["enumerate"]) s' := hF.ext xs (fun b q => .inl (hWN b q)) hWL (fun p hp c hc => by
        unfold fFm gρ0 at hp
        simp only [List.mem_cons, List.not_mem_nil, or_false] at hp
        rcases hp with rfl | rfl | rfl | rfl <;> rcases hc with hc | hc <;> cases hc) (fun p hp b ds e => by
        unfold fFm gρ0 at hp
        simp only [List.mem_cons, List.not_mem_nil, or_false] at hp
        rcases hp with rfl | rfl | rfl | rfl <;> cases e)
    exact ⟨rfl, gen_seg RB hWN hWL hg (hF'.setGen rfl)⟩
  have nofp : ∀ s' : Shared, Ext K Wf no s s' → ¬ ((a = s'.heap.objs.size + 1 ∨ a = s'.heap.objs.size) ∨ a = L) := fun s' xs q => by
    have := Nat.lt_of_lt_of_le haz xs.size
    rcases q with (q | q) | q
    · exact absurd this (Nat.not_lt.mpr (q ▸ Nat.le_succ _))
    · exact absurd this (Nat.not_lt.mpr (Nat.le_of_eq q.symm))
    · exact haL q
  generalize hpd : (pcs x.cps.toList 0 false).map pD = psD at go ⊢
  have hlen : psD.length = (pcs x.cps.toList 0 false).length := by rw [← hpd, List.length_map]
  rw [← hlen] at go
  cases psD with
  | nil =>
    intro Q E s' xs inv hQ
    refine next_gen R.hh (K.nolim.at fun o e => inv.keep _ o e) (by have := R.depth; omega) (isGen_ext xs hgen haW haT) ((xs.gens g hgl (fun q => q)).trans hgs) (go s' xs inv) (fun v s₁ gs' hb hy => (gY_last (A := A) hy (setGen_inv inv rfl)).elim) fun s₁ hp h' hk hz => ?_
    obtain ⟨_, x1⟩ := hp
    refine hQ _ ?_
    refine ((((setGen_ext (W := fun b => (b = s'.heap.objs.size + 1 ∨ b = s'.heap.objs.size) ∨ b = L) rfl).trans (x1.mono (fun _ _ q => q) fun _ _ q => q.elim)).trans (setGen_ext rfl)).trans (E0.grow (s := s₁.setGen g .finished) (h' := h') (tk := s₁.toks) hk hz).of0).mono (fun b hb q => ?_) fun _ _ q => q
    obtain ⟨o, e⟩ := Option.isSome_iff_exists.mp hb
    have := Heap.lt_size e
    rcases q with (q | q) | q
    · exact absurd this (Nat.not_lt.mpr (q ▸ Nat.le_succ _))
    · exact absurd this (Nat.not_lt.mpr (Nat.le_of_eq q.symm))
    · exact q
  | cons d ds =>
    intro Q E s' xs inv hQ
    have hgl' : g < s'.gens.size := Nat.lt_of_lt_of_le hgl xs.gsize
    refine next_gen R.hh (K.nolim.at fun o e => inv.keep _ o e) (by have := R.depth; omega) (isGen_ext xs hgen haW haT) ((xs.gens g hgl (fun q => q)).trans hgs) (go s' xs inv) (fun v s₁ gs' hb hy => ?_) fun s₁ hp h' hk hz => (by exact absurd hp.1 (Nat.succ_ne_zero _))
    obtain ⟨x1, hlt1, r1, kap⟩ := hy
    have X : Ext K (fun b => (b = s'.heap.objs.size + 1 ∨ b = s'.heap.objs.size) ∨ b = L) (· = g) s' (s₁.setGen g gs') := ((setGen_ext rfl).trans (x1.mono (fun _ _ q => q) fun _ _ q => q.elim)).trans (setGen_ext hb)
    have hgl1 : g < s₁.gens.size := Nat.lt_of_lt_of_le (by rw [setGen_size]; exact hgl') x1.gsize
    have hrun : s₁.gens[g]? = some .running := (x1.gens g (by rw [setGen_size]; exact hgl') (fun q => q)).trans (setGen_get hgl')
    have hNN : ∀ b, (Nf b ∨ ((b = s'.heap.objs.size + 1 ∨ b = s'.heap.objs.size) ∨ b = L)) → ((fFm (fEnv (scopeA 12) L [] qual f code) Nf no [] ["enumerate"]).more fun b => b = s'.heap.objs.size + 1 ∨ b = s'.heap.objs.size).N b := fun b q =>
      q.elim (fun q => .inl (.inl q)) fun q => q.elim .inr fun q => .inl (.inr (q ▸ ⟨Nat.le_refl _, Nat.lt_of_lt_of_le (Nat.lt_succ_self _) (Nat.le_add_right _ _)⟩))
    have hd : (d :: ds).getD ((d :: ds).length - 1 - ds.length) .none = d := by simp
    refine hQ v _ (fun b => (b = s'.heap.objs.size + 1 ∨ b = s'.heap.objs.size) ∨ b = L) (fun _ q => .inr q) (fun b q => ?_) X (by rw [← hd]; exact r1.keep (fun b _ q => hNN b q) (fun _ _ _ e => e)) ?_
    · rcases q with q | q
      · refine .inr ⟨?_, hlt1 b (.inl q)⟩
        rcases q with q | q
        · exact q ▸ Nat.le_succ _
        · exact Nat.le_of_eq q.symm
      · exact .inl q
    · have := gen_susp (psD := d :: ds) (N0 := Nf) (NN := ((fFm (fEnv (scopeA 12) L [] qual f code) Nf no [] ["enumerate"]).more fun b => b = s'.heap.objs.size + 1 ∨ b = s'.heap.objs.size).N) (fp' := fun b => (b = s'.heap.objs.size + 1 ∨ b = s'.heap.objs.size) ∨ b = L) (Wf := Wf) R (nofp s' xs) haT haW hNN ds.length (Nat.le_succ _) gs' (s₁.setGen g gs') (isGen_ext X (isGen_ext xs hgen haW haT) (nofp s' xs) haT) (setGen_get hgl1) fun s'' x2 inv2 => ?_
      · rwa [show (d :: ds).length - ds.length = 1 by simp] at this
      · refine kap _ ⟨fun b o h1 h2 e => x2.heap b o h1 h2 e, fun _ => setGen_inv inv2 rfl, x2.size, Nat.le_trans (Nat.le_trans (Nat.le_of_eq setGen_size.symm) x2.gsize) (Nat.le_of_eq setGen_size.symm), fun g' hg' _ => ?_, x2.os⟩ (setGen_inv inv2 rfl)
        by_cases e : g' = g
        · subst e
          rw [setGen_get (Nat.lt_of_lt_of_le (by rw [setGen_size]; exact hgl1) x2.gsize), hrun]
        · rw [setGen_ne e, x2.gens g' (by rw [setGen_size]; exact hg') (fun q => q), setGen_ne e]
end
end

/-! # part F29 -/
section
open PySem.Sem (wp)
section
variable {K : Cx} {n : Nat} {F : Fm} {P : Out → Prop}

/-- a function's own environment, its parameters bound -/
theorem fn_env {f : Addr} {scope : Scope} {cl : List (Str × Addr)} {code : Value} {qual : Str} {sh : FSh} {fvn gl : List Str} {N0 W0 : Addr → Prop} {s : Shared} {A : Around} {names : List Str} {ws : List Value} {ds : List D} {ρ0 : Addr → List Var}
    {Q : Env → Shared → Prop} {E : Value → Shared → Prop} (hI : FnIn K N0 W0 s) (hk : compOk scope sh.lv sh.cv fvn gl = true) (hfv : sh.fv.map (·.1) = fvn) (hsh : FvOK K N0 W0 cl s sh.fv)
    (hes : Reps N0 s.heap ds ws) (hnl : names.length = ws.length) (htk : ∀ L, Takes (names.zip ds) (sh.vars L) (ρ0 L))
    (hQ : ∀ s₂, FrOK K (fFm (fEnv scope s.heap.objs.size cl qual f code) N0 W0 (ρ0 s.heap.objs.size) gl) s₂ → Ext K (fFm (fEnv scope s.heap.objs.size cl qual f code) N0 W0 (ρ0 s.heap.objs.size) gl).W no s s₂ → Q (fEnv scope s.heap.objs.size cl qual f code) s₂) :
    wpAny K.M A (newFunctionEnv scope mainGlobals cl (names.zip ws) qual (some f) code none builtinsNs) Q E s := by
  simp only [newFunctionEnv, Option.isSome_none, Bool.false_eq_true, if_false]
  refine wpAny_bind (wpAny_alloc ?_)
  refine wpAny_bind (wpAny_layCells _ (fun name kind cells => by cases hkc : kind == NameKind.cell <;> simp [hkc]) _ _ _ _ ?_)
  rw [show ({ s with heap := s.heap.push { cls := .type "frame", data := .dict #[] } } : Shared).heap.objs.size = s.heap.objs.size + 1 from Heap.size_push ..]
  obtain ⟨a1, a2⟩ := pushCells_facts scope.names (s.heap.push { cls := .type "frame", data := .dict #[] })
  rw [Heap.size_push] at a1 a2
  generalize hL : s.heap.objs.size = L at *
  have hkeep : ∀ b o, s.heap.get? b = some o → (pushCells (s.heap.push { cls := .type "frame", data := .dict #[] }) scope.names).get? b = some o := fun b o e => pushCells_keeps _ _ b o (Heap.get?_push_of_some _ e)
  have hns : (pushCells (s.heap.push { cls := .type "frame", data := .dict #[] }) scope.names).Ns L (fun _ => none) := hL ▸ (Heap.Ns.new s.heap (.type "frame")).keeps (pushCells_keeps _ _)
  generalize hH : pushCells (s.heap.push { cls := .type "frame", data := .dict #[] }) scope.names = H at *
  have x0 : E0 K s { s with heap := H } := E0.grow (tk := s.toks) hkeep (by rw [a1, hL]; omega)
  have hfr := fn_frame (self := f) (qual := qual) (code := code) hI x0 hk hfv hsh hL a1.symm hns a2
  generalize hF : fFm (fEnv scope L cl qual f code) N0 W0 (sh.vars L) gl = F at hfr
  have henv : F.env = fEnv scope L cl qual f code := by rw [← hF]; rfl
  have hNN : ∀ a, N0 a → F.N a := by rw [← hF]; exact fun a q => .inl q
  have hNb : ∀ a, (s.heap.get? a).isSome → F.N a → N0 a := fun a hs q => by
    rw [← hF] at q
    rcases q with q | q
    · exact q
    · obtain ⟨o, e⟩ := Option.isSome_iff_exists.mp hs
      exact absurd (Heap.lt_size e) (Nat.not_lt.mpr (by rw [hL]; exact q.1))
  have hTN : ∀ a, K.Tb a → F.N a := fun a q => hNN a (hI.TN a q)
  -- the parameters
  have loop : ∀ (names : List Str) (ws : List Value) (ds : List D) (ρ ρ' : List Var) (s₁ : Shared) (E' : Value → Shared → Prop) (Q' : PUnit → Shared → Prop), Reps F.N s₁.heap ds ws → names.length = ws.length → Takes (names.zip ds) ρ ρ' → FrOK K (F.at ρ) s₁ →
      Ext K F.W no s s₁ → (∀ s₂, FrOK K (F.at ρ') s₂ → Ext K F.W no s s₂ → Q' PUnit.unit s₂) →
      wpAny K.M A (forIn (names.zip ws) PUnit.unit fun x r => do storeName F.env x.1 x.2; pure (ForInStep.yield PUnit.unit)) Q' E' s₁ := by
    intro names
    induction names with
    | nil =>
      intro ws ds ρ ρ' s₁ E' Q' _ _ ht hF x hq
      rw [List.zip_nil_left] at ht
      cases ht
      rw [List.zip_nil_left, List.forIn_nil]
      exact wpAny_pure (hq _ hF x)
    | cons y ys ih =>
      intro ws ds ρ ρ' s₁ E' Q' he hl ht hF x hq
      cases he with
      | nil => cases hl
      | cons h1 h2 =>
        rw [List.zip_cons_cons] at ht ⊢
        cases ht with
        | cons u ht =>
          rw [List.forIn_cons]
          refine wpAny_bind (wpAny_bind (store_val (F := F.at ρ) hF u h1 fun s' X hF' => wpAny_pure ?_))
          exact ih _ _ _ ρ' s' E' Q' (Reps.ext X hF.ok.WN hF.ok.TN h2) (Nat.succ.inj hl) ht hF' (x.trans X) hq
  have hρ : F.ρ = sh.vars L := by rw [← hF]; rfl
  refine wpAny_bind (m := forIn (names.zip ws) PUnit.unit fun x r => do storeName (fEnv scope L cl qual f code) x.1 x.2; pure (ForInStep.yield PUnit.unit)) ?_
  rw [← henv]
  refine loop names ws ds (sh.vars L) (ρ0 L) _ _ _ (Reps.keep hNb (fun b o hb e => hkeep b o e) hes) hnl (htk L) (by rw [← hρ]; exact hfr) x0.of0 fun s₂ hF₂ x₂ => wpAny_pure ?_
  rw [← hF] at x₂ hF₂
  exact hQ s₂ hF₂ x₂

theorem GenOK.ext {A : Around} {W N0 fp : Addr → Prop} {g : Nat} {it : Value} {ds : List D} {s s1 : Shared} (h : GenOK K A W N0 g it ds fp s) (x : Ext K W no s s1) : GenOK K A W N0 g it ds fp s1 := by
  cases ds with
  | nil => intro Q E s' x' i hQ; exact h Q E s' (x.trans x') i hQ
  | cons d ds => intro Q E s' x' i hQ; exact h Q E s' (x.trans x') i hQ

/-- a pull that makes new objects leaves the frame as it is -/
theorem FrOK.grown {fp fp' : Addr → Prop} {V : Nat → Prop} {ρ : List Var} {s s' : Shared} {z : Nat} (h : FrOK K ((F.more fp).at ρ) s) (x : Ext K fp' V s s') (h1 : ∀ b, fp b → fp' b) (h2 : ∀ b, fp' b → fp b ∨ (s.heap.objs.size ≤ b ∧ b < s'.heap.objs.size))
    (hz : ∀ b, fp' b → z ≤ b) (hl : Low F ρ z) (hWN : ∀ a, F.W a → F.N a) : FrOK K ((F.more fp').at ρ) s' where
  ok := { h.ok with
    WN := fun a q => .inl (hWN a q)
    TN := fun a q => (h.ok.TN a q).imp id (h1 a)
    NoN := fun a q => (h.ok.NoN a q).imp id (h1 a)
    locs := h.ok.locs }
  inv := x.inv h.inv
  ns := by
    obtain ⟨m, hn, hv⟩ := h.ns
    have tl := (h.ok.base _ h.ok.modL).2
    have nz : ∀ b, b < z → ¬ fp' b := fun b hb q => absurd hb (Nat.not_lt.mpr (hz b q))
    refine ⟨m, hn.at' fun o e => x.heap _ _ (nz _ hl.loc) tl e, fun p hp => ?_⟩
    have key : ∀ w, EnOK (F.more fp).N s.heap p.en w → EnOK (F.more fp').N s'.heap p.en w := fun w hw => by
      have alive : ∀ a, (s.heap.get? a).isSome → fp' a → fp a := fun a hs q => (h2 a q).elim id fun q => by
        obtain ⟨o, e⟩ := Option.isSome_iff_exists.mp hs
        exact absurd (Heap.lt_size e) (Nat.not_lt.mpr q.1)
      have hN : ∀ a, (s.heap.get? a).isSome → (F.N a ∨ fp' a) → (F.N a ∨ fp a) := fun a hs q => q.imp id (alive a hs)
      have kk : ∀ b o, ¬ (F.N b ∨ fp b) → s.heap.get? b = some o → s'.heap.get? b = some o := fun b o hb e => x.heap b o (fun q => hb (.inr (alive b (by rw [e]; rfl) q))) (fun q => hb (h.ok.TN b q)) e
      have hown := h.ok.owns p hp
      cases hpe : p.en with
      | un => trivial
      | val d => rw [hpe] at hw; obtain ⟨y, e, r⟩ := hw; exact ⟨y, e, r.keep hN kk⟩
      | raw y => rw [hpe] at hw; exact hw
      | own a ds =>
        rw [hpe] at hw
        obtain ⟨e, hn, its, hl', hr⟩ := hw
        have hWa := (hown a ds hpe).1
        exact ⟨e, .inl (hWN a hWa), its, PlainList_keep hl' fun o e => x.heap _ _ (nz _ (hl.N _ (hWN a hWa))) (h.ok.base _ hWa).2 e, Reps.keep hN kk hr⟩
    have hx := hv p hp
    have hlp := h.ok.locs p hp
    have hc := hl.cell p hp
    unfold VarOK at hx ⊢
    cases hpl : p.loc with
    | loc => rw [hpl] at hx; exact key _ hx
    | cell c =>
      rw [hpl] at hx hlp
      obtain ⟨v, ⟨o, e1, e2⟩, e4⟩ := hx
      exact ⟨v, ⟨o, x.heap _ _ (nz _ (hc c (.inl hpl))) (h.ok.base _ hlp.2.2.1).2 e1, e2⟩, key _ e4⟩
    | free c =>
      rw [hpl] at hx hlp
      obtain ⟨v, ⟨o, e1, e2⟩, e4⟩ := hx
      exact ⟨v, ⟨o, x.heap _ _ (nz _ (hc c (.inr hpl))) hlp.2.2.1 e1, e2⟩, key _ e4⟩
  alloc := fun a q => q.elim (fun q => Nat.lt_of_lt_of_le (h.alloc a (.inl q)) x.size) fun q => (h2 a q).elim (fun q => Nat.lt_of_lt_of_le (h.alloc a (.inr q)) x.size) fun q => q.2

/-- a loop over a call of the generator -/
theorem stm_for_gen {target e : Expr} {body : List Stmt} {y : Str} {p p' pos : Pos} {f : Addr} {x : Str} (ρs ρt : Nat → List Var) (Rch : Nat → Prop) (hR0 : Rch 0) (hm : y ∈ F.gl) (hg : K.Gl y (.ref f)) (hen : K.Gl "enumerate" (.type "enumerate")) (ho : FnObj K f (scopeA 12) (bodyA 12) ["addr"] [])
    (he : Evs K (n + 2) F [e] [.str x]) (h0 : ρs 0 = F.ρ) (hsh : ∀ i, (ρs i).map Var.key = F.ρ.map Var.key) (hsh' : ∀ i, (ρt i).map Var.key = F.ρ.map Var.key)
    (hasg : ∀ i d fp, ((pcs x.cps.toList 0 false).map pD)[i]? = some d → Asg K ((F.more fp).at (ρs i)) target d (ρt i))
    (hbody : ∀ i d fp, ((pcs x.cps.toList 0 false).map pD)[i]? = some d → Rch i → Blk K (n + 2) ((F.more fp).at (ρt i)) body (fun o => (o = .next (ρs (i + 1)) ∧ Rch (i + 1)) ∨ ∃ r, o = .ret r ∧ P (.ret r)))
    (hend : Rch ((pcs x.cps.toList 0 false).map pD).length → P (.next (ρs ((pcs x.cps.toList 0 false).map pD).length))) (hs : ∀ v, foldedSetIterable (.Call (.Name y p) [e] [] p') F.env v = pure v) :
    Stm K (n + 2) F (.For target (.Call (.Name y p) [e] [] p') body [] pos) P := by
  intro A s Q E R hF hQ
  obtain ⟨o, fd, h1, h2, h3, h4, h5, h6, h7, h8, h9⟩ := ho.ex
  have hlow := hF.low
  have z1 : s.heap.objs.size = s.heap.objs.size := rfl
  refine wpAny_For (Call_ (load_gl hF hm hg (Calls.callWith_function (o := o) (fd := fd) (evalArgs_run he R hF fun vs s₁ x₁ r₁ => ⟨⟨(hF.ext0 x₁).inv.keep _ _ h1, h2⟩, ?_⟩)))) hs
  have hF1 := hF.ext0 x₁
  refine wpAny_call (codeAny_call_generator (by have := R.depth; omega) (hF1.inv.keep _ _ h1) h2 (by rw [h3]; rfl) (by rw [h3]; rfl) h7 (h8.keeps hF1.inv.keep) (h9 vs _ _ _ s₁ (by have := r₁.length; simp only [List.length_cons, List.length_nil] at this ⊢; omega) hF1.inv ?_))
  rw [List.append_nil, h3, h4, h5, h6]
  refine fn_env (sh := ⟨["addr", "pos", "escape", "ch"], [], []⟩) (fvn := []) (gl := ["enumerate"]) (ρ0 := fun _ => gρ0 x) hF1.fnIn (by decide +kernel) rfl FvOK.nil r₁ (by have := r₁.length; simp only [List.length_cons, List.length_nil] at this ⊢; omega) (fun L => .cons (.here nofun) .nil) fun s₂ hG x₂ => ⟨K.nolim.at fun o e => hG.inv.keep _ o e, ?_⟩
  have hsL : s.heap.objs.size ≤ s₁.heap.objs.size := x₁.size
  generalize hL : s₁.heap.objs.size = L at *
  have hLa : L < s₂.heap.objs.size := hG.low.loc
  generalize ha : s₂.heap.objs.size = a at *
  have hza : s.heap.objs.size ≤ a := Nat.le_trans hsL (Nat.le_of_lt hLa)
  have fa := fresh_facts hF hza
  have fL := fresh_facts hF hsL
  have hsg : s.gens.size ≤ s₂.gens.size := Nat.le_trans x₁.gsize x₂.gsize
  generalize hgn : s₂.gens.size = g at *
  generalize hs3 : ({ s₂ with gens := s₂.gens.push (.fresh (.func (bodyA 12) (fEnv (scopeA 12) L [] (fd.qualname ++ ".<locals>.") f fd.code))), toks := s₂.toks + 1 + 1, heap := s₂.heap.push { cls := .type "generator", data := .fields #[.int g 0, .str fd.name s₂.toks, .str fd.qualname (s₂.toks + 1)] } } : Shared) = s₃
  have hk3 : ∀ b o, s₂.heap.get? b = some o → s₃.heap.get? b = some o := fun b o e => by rw [← hs3]; exact Heap.get?_push_of_some _ e
  have hz3 : s₃.heap.objs.size = a + 1 := by rw [← hs3, ← ha]; exact Heap.size_push ..
  have hig : s₃.heap.IsGen a g := by rw [← hs3]; exact ⟨_, _, _, by rw [← ha]; exact Heap.get?_push_size _ rfl, rfl, rfl, rfl⟩
  have hgs : s₃.gens[g]? = some (.fresh (.func (bodyA 12) (fEnv (scopeA 12) L [] (fd.qualname ++ ".<locals>.") f fd.code))) := by rw [← hs3, ← hgn]; simp
  have X23 : E0 K s₂ s₃ := {
    heap := fun b o _ _ e => hk3 b o e
    inv := fun i => ⟨fun b o e => hk3 b o (i.keep b o e), Nat.le_trans i.low (by rw [hz3, ha]; exact Nat.le_succ _), by rw [← hs3]; exact i.bare.push rfl, K.tabKeep _ _ (fun b o e _ => hk3 b o e) i.tab⟩
    size := by rw [hz3, ha]; exact Nat.le_succ _
    gsize := by rw [← hs3]; simp
    gens := fun g' hg' _ => by rw [← hs3]; simp [Array.getElem?_push, Nat.ne_of_lt hg']
    os := by rw [← hs3] }
  have hG3 := hG.ext0 X23
  have X03 : E0 K s s₃ := (x₁.of0.trans (x₂.mono (W' := (· = L)) (fun b _ q => gW q) fun _ _ q => q)).trans X23.of0 |>.mono (fun b hb q => by obtain ⟨o, e⟩ := Option.isSome_iff_exists.mp hb; exact absurd (Heap.lt_size e) (Nat.not_lt.mpr (q ▸ hsL))) fun _ _ q => q
  have hgo := gen_first R fa.1 (Nat.ne_of_gt hLa) hF.ok.WN fL.1 hen hG3 hig fa.2.2.2 hgs
  have hFm : FrOK K ((F.more (· = L)).at (ρs 0)) s₃ := by rw [h0]; exact hF.more X03 fun b q => q ▸ ⟨hsL, Nat.lt_trans hLa (by rw [hz3]; exact Nat.lt_succ_self _)⟩
  generalize hps : (pcs x.cps.toList 0 false).map pD = psD at *
  show wpAny K.M A (pyIter (.ref a)) _ _ s₃
  refine wpAny_pyIter_gen hig ?_
  have fin : ∀ s', Ext K (fun b => F.W b ∨ s.heap.objs.size ≤ b) (fun g' => s.gens.size ≤ g') s s' → Ext K F.W no s s' := fun s' x => x.mono (fun b hs q => q.elim id fun q => by
    obtain ⟨o, e⟩ := Option.isSome_iff_exists.mp hs
    exact absurd (Heap.lt_size e) (Nat.not_lt.mpr q)) (fun g' hg' q => absurd hg' (Nat.not_lt.mpr q))
  refine codeAny_forLoop_any (fun k s' => ∃ i fp, k = psD.length + 1 - i ∧ i ≤ psD.length ∧ Rch i ∧ FrOK K ((F.more fp).at (ρs i)) s' ∧ (∀ b, fp b → s.heap.objs.size ≤ b) ∧ GenOK K A F.W F.N g (.ref a) (psD.drop i) fp s' ∧ s'.heap.IsGen a g ∧ ¬ fp a ∧
      Ext K (fun b => F.W b ∨ s.heap.objs.size ≤ b) (fun g' => s.gens.size ≤ g') s s') ?_ (psD.length + 1)
    ⟨0, (· = L), rfl, Nat.zero_le _, hR0, hFm, fun b q => q ▸ hsL, hgo, hig, Nat.ne_of_gt hLa, X03.of0⟩
  rintro k s' ⟨i, fp, rfl, hle, hri, hF', hfp, hgo', hig', hna, x'⟩
  by_cases hlt : i < psD.length
  · rw [List.drop_eq_getElem_cons hlt] at hgo'
    have hd : psD[i]? = some psD[i] := List.getElem?_eq_getElem hlt
    refine hgo' _ _ s' (Ext.refl _) hF'.inv fun v s₄ fp' hf1 hf2 x4 r4 hgo4 => ?_
    have hfp' : ∀ b, fp' b → s.heap.objs.size ≤ b := fun b q => (hf2 b q).elim (hfp b) fun q => Nat.le_trans x'.size q.1
    have hna' : ¬ fp' a := fun q => (hf2 a q).elim hna fun q => by
      obtain ⟨o, _, _, e, _⟩ := hig'
      exact absurd (Heap.lt_size e) (Nat.not_lt.mpr q.1)
    have hF4 : FrOK K ((F.more fp').at (ρs i)) s₄ := hF'.grown x4 hf1 hf2 hfp' (hlow.shape (hsh i)) hF.ok.WN
    have hig4 := isGen_ext x4 hig' hna' fa.2.2.2
    obtain ⟨ob, nm, qn, eo, ec, _⟩ := id hig4
    refine letGo_plain eo ec (by decide) ?_
    refine hasg i _ fp' hd R.hh hF4 r4 fun s₅ x5 hF5 => ?_
    refine hbody i _ fp' hd hri R hF5 fun oo fl s₆ hp ho6 x6 => ?_
    have x46 : Ext K F.W no s₄ s₆ := x5.trans x6
    have x06 : Ext K (fun b => F.W b ∨ s.heap.objs.size ≤ b) (fun g' => s.gens.size ≤ g') s s₆ := (x'.trans (x4.mono (fun b _ q => .inr (hfp' b q)) fun g' _ q => q ▸ hsg)).trans (x46.mono (fun b _ q => .inl q) fun _ _ q => q.elim)
    rcases hp with ⟨rfl, hri'⟩ | ⟨r, rfl, hp⟩
    · obtain ⟨rfl, hF6⟩ := ho6
      exact ⟨psD.length + 1 - (i + 1), by omega, i + 1, fp', rfl, hlt, hri', hF6, hfp', hgo4.ext x46, isGen_ext x46 hig4 fa.1 fa.2.2.2, hna', x06⟩
    · obtain ⟨v, rfl, hr⟩ := ho6
      exact hQ (.ret r) _ s₆ hp ⟨v, rfl, hr⟩ (fin _ x06)
  · have e : i = psD.length := by omega
    subst e
    rw [List.drop_length] at hgo'
    refine hgo' _ _ s' (Ext.refl _) hF'.inv fun s₄ x4 => ?_
    refine wpAny_execs_nil ?_
    have hF4 := hF'.pulled x4 hfp (hlow.shape (hsh _)) hF.ok.WN
    have hF5 : FrOK K (F.at (ρs psD.length)) s₄ := hF4.less hF.ok.WN hF.ok.TN hF.ok.NoN fun p hp b es e => hF.ok.WN _ (hF4.ok.owns p hp b es e).1
    exact hQ (.next (ρs psD.length)) _ s₄ (hend hri) ⟨rfl, hF5⟩ (fin _ (x'.trans (x4.mono (fun b _ q => .inr (hfp b q)) fun g' _ q => q ▸ hsg)))

end
end

/-! # part F30 -/
section
open PySem.Sem (wp)
/-! ## brackets -/
noncomputable def chk : List (Nat × Str) → Int → Bool
  | [], o => o == 0
  | p :: ps, o => if p.2 == Str.ofString "(" then chk ps (o + 1) else if p.2 == Str.ofString ")" then (if o - 1 < 0 then false else chk ps (o - 1)) else chk ps o
theorem chk_cons {p : Nat × Str} {ps : List (Nat × Str)} {o : Int} : chk (p :: ps) o = if p.2 == Str.ofString "(" then chk ps (o + 1) else if p.2 == Str.ofString ")" then (if o - 1 < 0 then false else chk ps (o - 1)) else chk ps o := rfl
noncomputable def opOf (p : Nat × Str) : Int := if p.2 == Str.ofString "(" then 1 else if p.2 == Str.ofString ")" then -1 else 0
noncomputable def opAt (ps : List (Nat × Str)) (i : Nat) : Int := ((ps.take i).map opOf).sum
noncomputable def pAt (ps : List (Nat × Str)) (i : Nat) : Nat × Str := ps.getD i (0, ⟨#[]⟩)
noncomputable def peA (ps : List (Nat × Str)) : Nat → En
  | 0 => .un
  | i + 1 => .val (.int (pAt ps i).1)
noncomputable def ceA (ps : List (Nat × Str)) : Nat → En
  | 0 => .un
  | i + 1 => .val (.str (pAt ps i).2)

theorem opAt_succ {ps : List (Nat × Str)} {i : Nat} (h : i < ps.length) : opAt ps (i + 1) = opAt ps i + opOf (pAt ps i) := by
  unfold opAt pAt
  rw [List.take_add_one, List.getElem?_eq_getElem h, List.map_append, List.sum_append, List.getD_eq_getElem?_getD, List.getElem?_eq_getElem h]
  simp
theorem pAt_get {ps : List (Nat × Str)} {i : Nat} {d : D} (h : (ps.map pD)[i]? = some d) : i < ps.length ∧ d = pD (pAt ps i) ∧ ps.drop i = pAt ps i :: ps.drop (i + 1) := by
  have hl : i < ps.length := by
    have := (List.getElem?_eq_some_iff.mp h).1
    rwa [List.length_map] at this
  have e : pAt ps i = ps[i] := by unfold pAt; rw [List.getD_eq_getElem?_getD, List.getElem?_eq_getElem hl]; rfl
  refine ⟨hl, ?_, by rw [e]; exact List.drop_eq_getElem_cons hl⟩
  rw [List.getElem?_map, List.getElem?_eq_getElem hl] at h
  rw [e]
  exact (Option.some.inj h).symm

noncomputable def ckρ (y : Str) (op : Int) (pe ce : En) : List Var := [⟨"addr", .loc, .val (.str y)⟩, ⟨"opens", .loc, .val (.int op)⟩, ⟨"pos", .loc, pe⟩, ⟨"ch", .loc, ce⟩]

section
variable {K : Cx} {n : Nat} {F : Fm} {P : Out → Prop}

theorem asg_pair {x y : Str} {p1 p2 p3 : Pos} {k : Nat} {q : Nat × Str} {ρ1 ρ2 : List Var} (u1 : Upd x (.val (.int q.1)) F.ρ ρ1) (u2 : Upd y (.val (.str q.2)) ρ1 ρ2)
    (h1 : ∀ env, assignEach [.Name x p1, .Name y p2] env = (false, assign (.Name x p1) env) :: assignEach [.Name y p2] env := by intro _; rfl) (h2 : ∀ env, assignEach [.Name y p2] env = (false, assign (.Name y p2) env) :: assignEach [] env := by intro _; rfl) :
    Asg K F (.Tuple [.Name x p1, .Name y p2] k p3) (pD q) ρ2 :=
  asg_tuple (.cons (asg_name u1) (.cons (asg_name (F := F.at ρ1) u2) .nil h2) h1)

set_option maxHeartbeats 2000000 in
theorem check_body {f fs fi : Addr} {N0 : Addr → Prop} {L : Addr} {qual : Str} {code : Value} {x y : Str} {m : Nat} (hm : m ≤ n + 2) (hs : FnSpec K m (.ref fs) [.str x] (.str y)) (hos : ∃ o fd, K.g0.get? fs = some o ∧ o.data = .func fd)
    (hgs : K.Gl "_strip_quoted_realnames" (.ref fs)) (hgi : K.Gl "_iter_escaped_chars" (.ref fi)) (hen : K.Gl "enumerate" (.type "enumerate")) (hoi : FnObj K fi (scopeA 12) (bodyA 12) ["addr"] []) :
    Blk K (n + 2) (fFm (fEnv (scopeA 14) L [] qual f code) N0 no [⟨"addr", .loc, .val (.str x)⟩, ⟨"opens", .loc, .un⟩, ⟨"pos", .loc, .un⟩, ⟨"ch", .loc, .un⟩] ["_strip_quoted_realnames", "_iter_escaped_chars"]) (bodyA 14)
      (fun o => o = .ret (.bool (chk (pcs y.cps.toList 0 false) 0))) := by
  apply blk_assign
  · apply ev_call_fn
    · trivial
    · exact hgs
    · exact hos
    · trivial
    · exact hs
    · exact hm
  · trivial
  · apply blk_assign
    · trivial
    · trivial
    · generalize hps : pcs y.cps.toList 0 false = ps
      apply blk_cons (P1 := fun o => (o = .next (ckρ y (opAt ps ps.length) (peA ps ps.length) (ceA ps ps.length)) ∧ chk ps 0 = (opAt ps ps.length == 0)) ∨ (o = .ret (.bool false) ∧ chk ps 0 = false))
      · apply stm_for_gen (fun i => ckρ y (opAt ps i) (peA ps i) (ceA ps i)) (fun i => ckρ y (opAt ps i) (peA ps (i + 1)) (ceA ps (i + 1))) (fun i => chk ps 0 = chk (ps.drop i) (opAt ps i))
        · rfl
        · trivial
        · exact hgi
        · exact hen
        · exact hoi
        · trivial
        · rfl
        · intro i; rfl
        · intro i; rfl
        · intro i d fp h
          rw [hps] at h
          obtain ⟨h1, rfl, h3⟩ := pAt_get h
          apply asg_pair
          · trivial
          · trivial
          · intro _; rfl
          · intro _; rfl
        · intro i d fp h hr
          rw [hps] at h
          obtain ⟨h1, rfl, h3⟩ := pAt_get h
          rw [h3, chk_cons] at hr
          generalize hp : pAt ps i = p at *
          have e1 : peA ps (i + 1) = .val (.int p.1) := by rw [← hp]; rfl
          have e2 : ceA ps (i + 1) = .val (.str p.2) := by rw [← hp]; rfl
          rw [e1, e2, opAt_succ h1, hp]
          apply blk_if
          · trivial
          · intro hc
            rw [if_pos hc] at hr
            have eo : opOf p = 1 := by unfold opOf; rw [if_pos hc]
            rw [eo]
            apply blk_aug
            · trivial
            · trivial
            · trivial
            · trivial
            · apply blk_nil
              exact .inl ⟨rfl, hr⟩
          · intro hc
            rw [if_neg (by rw [hc]; exact Bool.false_ne_true)] at hr
            apply blk_if
            · trivial
            · intro hc2
              rw [if_pos hc2] at hr
              have eo : opOf p = -1 := by unfold opOf; rw [if_neg (by rw [hc]; exact Bool.false_ne_true), if_pos hc2]
              rw [eo, show opAt ps i + -1 = opAt ps i - 1 from rfl]
              apply blk_aug
              · trivial
              · trivial
              · trivial
              · trivial
              · apply blk_if
                · trivial
                · intro hc3
                  rw [if_pos (of_decide_eq_true hc3)] at hr
                  apply blk_ret
                  · trivial
                  · exact .inr ⟨_, rfl, .inr ⟨rfl, hr⟩⟩
                · intro hc3
                  rw [if_neg (of_decide_eq_false hc3)] at hr
                  apply blk_nil
                  exact .inl ⟨rfl, hr⟩
            · intro hc2
              rw [if_neg (by rw [hc2]; exact Bool.false_ne_true)] at hr
              have eo : opOf p = 0 := by unfold opOf; rw [if_neg (by rw [hc]; exact Bool.false_ne_true), if_neg (by rw [hc2]; exact Bool.false_ne_true)]
              rw [eo, Int.add_zero]
              apply blk_nil
              exact .inl ⟨rfl, hr⟩
        · intro hr
          rw [hps, List.length_map] at hr ⊢
          rw [List.drop_length] at hr
          exact .inl ⟨rfl, hr⟩
        · intro _; rfl
      · rintro ρ' (⟨h1, h2⟩ | ⟨h1, h2⟩)
        · cases h1
          rw [h2]
          apply blk_ret
          · trivial
          · rfl
        · cases h1
      · rintro d (⟨h1, h2⟩ | ⟨h1, h2⟩)
        · cases h1
        · rw [h1, h2]
    · rfl
  · rfl

theorem check_spec {f fs fi : Addr} {x y : Str} {m : Nat} (hm : m ≤ n + 2) (hs : FnSpec K m (.ref fs) [.str x] (.str y)) (hos : ∃ o fd, K.g0.get? fs = some o ∧ o.data = .func fd)
    (hgs : K.Gl "_strip_quoted_realnames" (.ref fs)) (hgi : K.Gl "_iter_escaped_chars" (.ref fi)) (hen : K.Gl "enumerate" (.type "enumerate")) (hoi : FnObj K fi (scopeA 12) (bodyA 12) ["addr"] []) (ho : FnObj K f (scopeA 14) (bodyA 14) ["addr"] []) :
    FnSpec K (n + 3) (.ref f) [.str x] (.bool (chk (pcs y.cps.toList 0 false) 0)) := by
  refine fn_spec (n := n + 2) (sh := ⟨["addr", "opens", "pos", "ch"], [], []⟩) (gl := ["_strip_quoted_realnames", "_iter_escaped_chars"]) (dd := []) (ρ0 := fun _ => [⟨"addr", .loc, .val (.str x)⟩, ⟨"opens", .loc, .un⟩, ⟨"pos", .loc, .un⟩, ⟨"ch", .loc, .un⟩]) ho (fun N h => .nil) rfl rfl rfl (by decide +kernel) rfl (fun L => ?_) fun N0 L qual code => check_body hm hs hos hgs hgi hen hoi
  exact .cons (.here nofun) .nil
end
end

/-! # part F31 -/
section
open PySem.Sem (wp)
/-! ## what stands between marks is struck out -/
noncomputable def stStep (x : Str) (st : Nat × Option Nat × List Str) (p : Nat × Str) : Nat × Option Nat × List Str :=
  if p.2 == Str.ofString "\"" then
    match st.2.1 with
    | none => (st.1, some p.1, st.2.2)
    | some o => (p.1 + 1, none, if st.1 = o then st.2.2 else st.2.2 ++ [Txt.slice x (some st.1) (some o)])
  else st
noncomputable def stAt (x : Str) (ps : List (Nat × Str)) (i : Nat) : Nat × Option Nat × List Str := (ps.take i).foldl (stStep x) (0, none, [])
noncomputable def stripParts (x : Str) : List Str :=
  (stAt x (pcs x.cps.toList 0 false) (pcs x.cps.toList 0 false).length).2.2 ++ (if (stAt x (pcs x.cps.toList 0 false) (pcs x.cps.toList 0 false).length).1 < x.length then [Txt.slice x (some (stAt x (pcs x.cps.toList 0 false) (pcs x.cps.toList 0 false).length).1) none] else [])
noncomputable def strip (x : Str) : Str := if Txt.contains x (Str.ofString "\"") then Txt.join (Str.ofString "") (stripParts x) else x

theorem stAt_succ {x : Str} {ps : List (Nat × Str)} {i : Nat} (h : i < ps.length) : stAt x ps (i + 1) = stStep x (stAt x ps i) (pAt ps i) := by
  unfold stAt pAt
  rw [List.take_add_one, List.getElem?_eq_getElem h, List.foldl_append, List.getD_eq_getElem?_getD, List.getElem?_eq_getElem h]
  rfl
theorem stAt_len {x : Str} {ps : List (Nat × Str)} : ∀ i, (stAt x ps i).2.2.length ≤ i
  | 0 => Nat.le_refl _
  | i + 1 => by
    by_cases h : i < ps.length
    · rw [stAt_succ h]
      have ih := stAt_len (x := x) (ps := ps) i
      unfold stStep
      split
      · split
        · exact Nat.le_succ_of_le ih
        · split
          · exact Nat.le_succ_of_le ih
          · rw [List.length_append]; exact Nat.succ_le_succ ih
      · exact Nat.le_succ_of_le ih
    · have e : stAt x ps (i + 1) = stAt x ps i := by
        unfold stAt
        rw [List.take_of_length_le (by omega), List.take_of_length_le (by omega)]
      rw [e]; exact Nat.le_succ_of_le (stAt_len i)

noncomputable def oD : Option Nat → D
  | none => .none
  | some k => .int k
noncomputable def sρ (x : Str) (a : Addr) (st : Nat × Option Nat × List Str) (pe ce : En) : List Var :=
  [⟨"addr", .loc, .val (.str x)⟩, ⟨"start", .loc, .val (.int st.1)⟩, ⟨"open_pos", .loc, .val (oD st.2.1)⟩, ⟨"result", .loc, .own a (st.2.2.map .str)⟩, ⟨"pos", .loc, pe⟩, ⟨"ch", .loc, ce⟩]

section
variable {K : Cx} {n : Nat} {F : Fm} {P : Out → Prop}

theorem blk_ownE {x : Str} {p pos : Pos} {value : Expr} {ds : List D} {rest : List Stmt} (ρ₁ ρ' : Addr → List Var) (hv : EvN K n F value ds) (u₁ : ∀ a, Upd x (.raw (.ref a)) F.ρ (ρ₁ a)) (u₂ : ∀ a, UpdA x (.own a ds) (ρ₁ a) (ρ' a)) (hP : RetOnly P)
    (hr : ∀ a, ¬ F.N a → Blk K n ((F.grab a).at (ρ' a)) rest P) (hs : swapsWith value (some (.Name x p)) pos.line F.env = pure false) : Blk K n F (.Assign [.Name x p] value pos :: rest) P := blk_own hv u₁ u₂ hP hr hs

theorem ev_join_ownE {o : Expr} {y : Str} {p apos pos : Pos} {l : Loc} {a : Addr} {x : Str} {ds : List D} (xs : List Str) (ho : Ev K n F o (.str x)) (hy : (⟨y, l, .own a ds⟩ : Var) ∈ F.ρ) (hds : ds = xs.map .str) (hok : JoinOk x xs = true)
    (hbase : attributeBase o "join" F.env (eval o F.env) = eval o F.env)
    (hs : starEach [.Name y p] F.env = [(false, eval (.Name y p) F.env)]) (hline : (apos.endLine == pos.line) = true) : Ev K n F (.Call (.Attribute o "join" apos) [.Name y p] [] pos) (.str (Txt.join x xs)) :=
  ev_join_own ho (hds ▸ hy) hok hbase hs hline

theorem c_is_noneO {o : Option Nat} : CmpD K F .Is (oD o) .none o.isNone := c_is_none (by cases o <;> rfl)

set_option maxHeartbeats 4000000 in
theorem strip_body {f fi : Addr} {N0 : Addr → Prop} {L : Addr} {qual : Str} {code : Value} {x : Str} (hz : x.length ≤ sizeLine) (hz2 : (pcs x.cps.toList 0 false).length < sizeLine) (hj : JoinOk (Str.ofString "") (stripParts x) = true)
    (hlen : K.Gl "len" (.builtin "len")) (hgi : K.Gl "_iter_escaped_chars" (.ref fi)) (hen : K.Gl "enumerate" (.type "enumerate")) (hoi : FnObj K fi (scopeA 12) (bodyA 12) ["addr"] []) :
    Blk K (n + 2) (fFm (fEnv (scopeA 13) L [] qual f code) N0 no [⟨"addr", .loc, .val (.str x)⟩, ⟨"start", .loc, .un⟩, ⟨"open_pos", .loc, .un⟩, ⟨"result", .loc, .un⟩, ⟨"pos", .loc, .un⟩, ⟨"ch", .loc, .un⟩] ["_iter_escaped_chars", "len"]) (bodyA 13)
      (fun o => o = .ret (.str (strip x))) := by
  apply blk_if
  · apply tr_cmp
    · trivial
    · trivial
    · apply c_nin_str
    · rfl
  · intro hc
    apply blk_ret
    · trivial
    · unfold strip
      rw [if_neg (by simpa using hc)]
  intro hc
  have hstrip : strip x = Txt.join (Str.ofString "") (stripParts x) := by
    unfold strip
    rw [if_pos (by simpa using hc)]
  rw [hstrip]
  unfold stripParts at hj ⊢
  generalize hps : pcs x.cps.toList 0 false = ps at *
  apply blk_assign
  · trivial
  · trivial
  · apply blk_assign
    · trivial
    · trivial
    · apply blk_ownE (fun a => [⟨"addr", .loc, .val (.str x)⟩, ⟨"start", .loc, .val (.int 0)⟩, ⟨"open_pos", .loc, .val .none⟩, ⟨"result", .loc, .raw (.ref a)⟩, ⟨"pos", .loc, .un⟩, ⟨"ch", .loc, .un⟩]) (fun a => sρ x a (0, none, []) .un .un)
      · apply evn_list
        · exact .nil
        · exact (by decide : 0 ≤ 1000)
      · intro a; trivial
      · intro a; trivial
      · exact retOnly
      · intro a ha
        apply blk_cons (P1 := fun o => o = .next (sρ x a (stAt x ps ps.length) (peA ps ps.length) (ceA ps ps.length)))
        · apply stm_for_gen (fun i => sρ x a (stAt x ps i) (peA ps i) (ceA ps i)) (fun i => sρ x a (stAt x ps i) (peA ps (i + 1)) (ceA ps (i + 1))) (fun i => True)
          · exact True.intro
          · trivial
          · exact hgi
          · exact hen
          · exact hoi
          · trivial
          · rfl
          · intro i; rfl
          · intro i; rfl
          · intro i d fp h
            rw [hps] at h
            obtain ⟨h1, rfl, h3⟩ := pAt_get h
            apply asg_pair
            · trivial
            · trivial
            · intro _; rfl
            · intro _; rfl
          · intro i d fp h hr
            rw [hps] at h
            obtain ⟨h1, rfl, h3⟩ := pAt_get h
            have hl := stAt_len (x := x) (ps := ps) i
            rw [stAt_succ h1]
            generalize hp : pAt ps i = p at *
            have e1 : peA ps (i + 1) = .val (.int p.1) := by rw [← hp]; rfl
            have e2 : ceA ps (i + 1) = .val (.str p.2) := by rw [← hp]; rfl
            rw [e1, e2]
            generalize stAt x ps i = st at *
            obtain ⟨st1, st2, st3⟩ := st
            unfold stStep
            apply blk_if
            · trivial
            · intro hc1
              rw [if_pos hc1]
              apply blk_if
              · apply tr_cmp
                · trivial
                · trivial
                · apply c_is_noneO
                · rfl
              · intro hc2
                cases st2 with
                | some o => cases hc2
                | none =>
                  apply blk_assign
                  · trivial
                  · trivial
                  · apply blk_nil
                    exact .inl ⟨rfl, True.intro⟩
                  · rfl
              · intro hc2
                cases st2 with
                | none => cases hc2
                | some o =>
                  apply blk_if
                  · trivial
                  · intro hc3
                    have hne : ¬ st1 = o := fun e => by subst e; simp at hc3
                    dsimp only
                    rw [if_neg hne]
                    apply blk_append
                    · trivial
                    · apply ev_cut
                      · trivial
                      · apply PartD.int
                        trivial
                      · apply PartD.int
                        trivial
                      · exact hz
                    · trivial
                    · rw [List.length_map]; dsimp only at hl ⊢; omega
                    · apply blk_assign
                      · trivial
                      · trivial
                      · apply blk_assign
                        · trivial
                        · trivial
                        · apply blk_nil
                          refine .inl ⟨?_, True.intro⟩
                          unfold sρ
                          rw [List.map_append]
                          rfl
                        · rfl
                      · rfl
                    · rfl
                    · rfl
                    · rfl
                    · rfl
                    · rfl
                  · intro hc3
                    have he : st1 = o := by
                      have : ¬ ((st1 : Int) ≠ (o : Int)) := by simpa using hc3
                      omega
                    dsimp only
                    rw [if_pos he]
                    apply blk_assign
                    · trivial
                    · trivial
                    · apply blk_assign
                      · trivial
                      · trivial
                      · apply blk_nil
                        exact .inl ⟨rfl, True.intro⟩
                      · rfl
                    · rfl
            · intro hc1
              rw [if_neg (by rw [hc1]; exact Bool.false_ne_true)]
              apply blk_nil
              exact .inl ⟨rfl, True.intro⟩
          · intro _
            rw [hps, List.length_map]
          · intro _; rfl
        · intro ρ' h
          cases h
          have hl := stAt_len (x := x) (ps := ps) ps.length
          generalize stAt x ps ps.length = st at *
          obtain ⟨st1, st2, st3⟩ := st
          dsimp only at hj hl ⊢
          apply blk_if
          · apply tr_cmp
            · trivial
            · apply ev_call_b
              · trivial
              · exact hlen
              · trivial
              · apply cd_len_str
                exact hz
            · trivial
            · rfl
          · intro hc4
            have hlt : st1 < x.length := by
              have := of_decide_eq_true hc4
              omega
            rw [if_pos hlt] at hj ⊢
            apply blk_append
            · trivial
            · apply ev_cut
              · trivial
              · apply PartD.int
                trivial
              · exact PartD.none
              · exact hz
            · trivial
            · show (st3.map D.str).length ≤ sizeLine
              rw [List.length_map]; omega
            · apply blk_ret
              · apply ev_join_ownE (st3 ++ [Txt.slice x (some st1) none])
                · trivial
                · trivial
                · rw [List.map_append]; rfl
                · exact hj
                · rfl
                · rfl
                · rfl
              · rfl
            · rfl
            · rfl
            · rfl
            · rfl
            · rfl
          · intro hc4
            have hlt : ¬ st1 < x.length := by
              have := of_decide_eq_false hc4
              omega
            rw [if_neg hlt, List.append_nil] at hj ⊢
            apply blk_ret
            · apply ev_join_ownE st3
              · trivial
              · trivial
              · rfl
              · exact hj
              · rfl
              · rfl
              · rfl
            · rfl
        · intro d h; cases h
      · rfl
    · rfl
  · rfl
end
end

/-! # part F32 -/
section
open PySem.Sem (wp)
/-! ## the rows -/
noncomputable def rowCond (p : Nat) (r : Str) (c : Nat) : Bool := decide ((Txt.count r ⟨#[c]⟩ : Int) < if ((⟨#[c]⟩ : Str) == Str.ofString "(") then (p : Int) else Txt.count r (Str.ofString "("))
noncomputable def rowStep (p : Nat) (rows : List Str) : List Str := rows.flatMap fun r => (([40, 41] : List Nat).filter (rowCond p r)).map fun c => r ++ ⟨#[c]⟩
noncomputable def rowsAt (p : Nat) : Nat → List Str
  | 0 => [Str.ofString ""]
  | i + 1 => rowStep p (rowsAt p i)
noncomputable def rowsOk (rows : List Str) : Bool := rows.all (fun r => decide (r.length ≤ 1000)) && decide (rows.length ≤ 100000)

noncomputable def rρ (L : Addr) (p : Nat) (rows step : En) : List Var := [⟨"rows", .loc, rows⟩, ⟨"step", .loc, step⟩, ⟨"pairs", .cell (L + 1 + 0), .val (.int p)⟩]

section
variable {K : Cx} {n : Nat} {F : Fm} {P : Out → Prop}

theorem loop2E {α β : Type} {elt t1 i1 t2 i2 : Expr} {ifs : List Expr} {scope : Scope} {pos : Pos} {sh : Sh} {gl : List Str} {tup tup2 : Bool} (xs : List α) (f : α → D) (ρ1 : Addr → α → List Var)
    (ys : List β) (f2 : β → D) (ρ2 : Addr → α → β → List Var) (b : α → β → Bool) (g : α → β → D) (ht : TgtOK tup t1) (ht2 : TgtOK tup2 t2)
    (hasg : ∀ C acc fp, ∀ x ∈ xs, Asg K (cFm F scope C acc fp sh gl) t1 (f x) (ρ1 C x)) (hfg : ∀ C, ∀ x ∈ xs, Forget (ρ1 C x) (sh.vars C))
    (hi2 : ∀ C acc fp W, ∀ x ∈ xs, Itr K n { ((cFm F scope C acc fp sh gl).at (ρ1 C x)) with W := W } i2 tup2 (ys.map f2))
    (hasg2 : ∀ C acc fp fp2, ∀ x ∈ xs, ∀ y ∈ ys, Asg K (((cFm F scope C acc fp sh gl).at (ρ1 C x)).more fp2) t2 (f2 y) (ρ2 C x y)) (hfg2 : ∀ C, ∀ x ∈ xs, ∀ y ∈ ys, Forget (ρ2 C x y) (ρ1 C x))
    (htests : ∀ C acc fp fp2, ∀ x ∈ xs, ∀ y ∈ ys, Tests K n ((((cFm F scope C acc fp sh gl).at (ρ1 C x)).more fp2).at (ρ2 C x y)) ifs (b x y))
    (helt : ∀ C acc fp fp2, ∀ x ∈ xs, ∀ y ∈ ys, b x y = true → Ev K n ((((cFm F scope C acc fp sh gl).at (ρ1 C x)).more fp2).at (ρ2 C x y)) elt (g x y))
    (hz : (xs.flatMap fun x => (ys.filter (b x)).map (g x)).length ≤ sizeLine) (hs2 : ∀ env x, foldedSetIterable i2 env x = pure x) :
    LoopOK K n F (.ListComp elt [⟨t1, i1, [], 0⟩, ⟨t2, i2, ifs, 0⟩] scope pos) scope sh gl tup (xs.map f) (xs.flatMap fun x => (ys.filter (b x)).map (g x)) :=
  loop2 ht ht2 hasg hfg hi2 hasg2 hfg2 htests helt hz hs2

theorem loop1E {α : Type} {elt target iter : Expr} {ifs : List Expr} {scope : Scope} {pos : Pos} {sh : Sh} {gl : List Str} {tup : Bool} (xs : List α) (f : α → D) (ρt : Addr → α → List Var) (b : α → Bool) (g : α → D) (ht : TgtOK tup target)
    (hasg : ∀ C acc fp, ∀ x ∈ xs, Asg K (cFm F scope C acc fp sh gl) target (f x) (ρt C x)) (hfg : ∀ C, ∀ x ∈ xs, Forget (ρt C x) (sh.vars C))
    (htests : ∀ C acc fp, ∀ x ∈ xs, Tests K n ((cFm F scope C acc fp sh gl).at (ρt C x)) ifs (b x))
    (helt : ∀ C acc fp, ∀ x ∈ xs, b x = true → Ev K n ((cFm F scope C acc fp sh gl).at (ρt C x)) elt (g x)) (hz : xs.length ≤ sizeLine) :
    LoopOK K n F (.ListComp elt [⟨target, iter, ifs, 0⟩] scope pos) scope sh gl tup (xs.map f) ((xs.filter b).map g) :=
  loop1 ht hasg hfg htests helt hz

theorem blk_assign_compE {x : Str} {p spos : Pos} {ρ' : List Var} {rest' : List Stmt} {elt target iter : Expr} {ifs : List Expr} {rest : List Comprehension} {scope : Scope} {pos : Pos} (sh : Sh) (fvn gl : List Str) (tup : Bool) (ds out : List D)
    (hL : LoopOK K n F (.ListComp elt (⟨target, iter, ifs, 0⟩ :: rest) scope pos) scope sh gl tup ds out) (hi : Itr K n F iter tup ds)
    (hk : compOk scope sh.lv sh.cv fvn gl = true) (hfv : sh.fv.map (·.1) = fvn) (hsh : Fvs F.ρ sh.fv) (u : Upd x (.val (.list out)) F.ρ ρ') (hr : Blk K n (F.at ρ') rest' P)
    (hsw : swapsWith (.ListComp elt (⟨target, iter, ifs, 0⟩ :: rest) scope pos) (some (.Name x p)) spos.line F.env = pure true)
    (hs : ∀ x, foldedSetIterable iter F.env x = pure x) : Blk K n F (.Assign [.Name x p] (.ListComp elt (⟨target, iter, ifs, 0⟩ :: rest) scope pos) spos :: rest') P :=
  blk_assign_comp hL hi hk hfv hsh u hr hsw hs

theorem ev_compE {α : Type} {elt target iter : Expr} {ifs : List Expr} {scope : Scope} {pos : Pos} (sh : Sh) (fvn gl : List Str) (tup : Bool) (xs : List α) (f : α → D) (ρt : Addr → α → List Var) (b : α → Bool) (g : α → D)
    (hi : Itr K n F iter tup (xs.map f)) (ht : TgtOK tup target) (hk : compOk scope sh.lv sh.cv fvn gl = true) (hfv : sh.fv.map (·.1) = fvn) (hsh : Fvs F.ρ sh.fv)
    (hasg : ∀ C acc fp, ∀ x ∈ xs, Asg K (cFm F scope C acc fp sh gl) target (f x) (ρt C x)) (hfg : ∀ C, ∀ x ∈ xs, Forget (ρt C x) (sh.vars C))
    (htests : ∀ C acc fp, ∀ x ∈ xs, Tests K n ((cFm F scope C acc fp sh gl).at (ρt C x)) ifs (b x))
    (helt : ∀ C acc fp, ∀ x ∈ xs, b x = true → Ev K n ((cFm F scope C acc fp sh gl).at (ρt C x)) elt (g x)) (hz : xs.length ≤ sizeLine)
    (hs : ∀ x, foldedSetIterable iter F.env x = pure x) : Ev K n F (.ListComp elt [⟨target, iter, ifs, 0⟩] scope pos) (.list ((xs.filter b).map g)) :=
  ev_comp sh fvn gl xs f ρt b g hi ht hk hfv hsh hasg hfg htests helt hz hs

/-- a for loop; what holds when a turn is reached -/
theorem stm_forR {target iter : Expr} {body : List Stmt} {pos : Pos} {tup : Bool} {ds : List D} (ρs ρt : Nat → List Var) (Rch : Nat → Prop) (hR0 : Rch 0) (hi : Itr K n F iter tup ds) (ht : TgtOK tup target) (h0 : ρs 0 = F.ρ)
    (hsh : ∀ i, (ρs i).map Var.key = F.ρ.map Var.key) (hsh' : ∀ i, (ρt i).map Var.key = F.ρ.map Var.key)
    (hasg : ∀ i d fp, ds[i]? = some d → Asg K ((F.more fp).at (ρs i)) target d (ρt i))
    (hbody : ∀ i d fp, ds[i]? = some d → Rch i → Blk K n ((F.more fp).at (ρt i)) body (fun o => (o = .next (ρs (i + 1)) ∧ Rch (i + 1)) ∨ ∃ r, o = .ret r ∧ P (.ret r)))
    (hend : Rch ds.length → P (.next (ρs ds.length))) (hs : ∀ x, foldedSetIterable iter F.env x = pure x) : Stm K n F (.For target iter body [] pos) P := by
  intro A s Q E R hF hQ
  refine wpAny_For (hi R hF fun it fp V s₁ x₁ hfp hV hit _ => ?_) hs
  have hlow := hF.low
  have hz : ∀ a, fp a → s.heap.objs.size ≤ a := fun a q => (hfp a q).1
  have hFm : FrOK K ((F.more fp).at (ρs 0)) s₁ := by rw [h0]; exact hF.more x₁ hfp
  have fin : ∀ s', Ext K (fun a => F.W a ∨ fp a) V s s' → Ext K F.W no s s' := fun s' x => x.mono (fun a hs q => q.elim id fun q => by
    obtain ⟨o, e⟩ := Option.isSome_iff_exists.mp hs
    exact absurd (Heap.lt_size e) (Nat.not_lt.mpr (hz a q))) (fun g hg q => absurd hg (Nat.not_lt.mpr (hV g q)))
  refine codeAny_forLoop_any (fun k s' => ∃ i, k = ds.length + 1 - i ∧ i ≤ ds.length ∧ Rch i ∧ FrOK K ((F.more fp).at (ρs i)) s' ∧ IterOK K n F.W (fun a => F.N a ∨ fp a) fp V tup it (ds.drop i) s' ∧ Ext K (fun a => F.W a ∨ fp a) V s s')
    ?_ (ds.length + 1) ⟨0, rfl, Nat.zero_le _, hR0, hFm, hit F.W _ s₁ (Ext.refl _) (fun a q => .inl q) (fun a q => .inl (hF.ok.WN a q)) (fun a q => .inl q) (fun a q => .inr q) (fun a q => q.imp id .inl) hFm.alloc, x₁.of0⟩
  rintro k s' ⟨i, rfl, hle, hri, hF', hit', x'⟩
  by_cases hlt : i < ds.length
  · rw [List.drop_eq_getElem_cons hlt] at hit'
    have hd : ds[i]? = some ds[i] := List.getElem?_eq_getElem hlt
    refine hit' A _ _ s' R (Ext.refl _) hF'.inv fun v s₂ x₂ r₂ go => ?_
    refine go target _ _ _ ht fun s₃ x₃ r₃ hit₃ => ?_
    have hF₃ : FrOK K ((F.more fp).at (ρs i)) s₃ := (hF'.pulled x₂ hz (hlow.shape (hsh i)) hF.ok.WN).pulled x₃ hz (hlow.shape (hsh i)) hF.ok.WN
    refine hasg i _ fp hd R.hh hF₃ r₃ fun s₄ x₄ hF₄ => ?_
    refine hbody i _ fp hd hri R hF₄ fun o f s₅ hp ho x₅ => ?_
    have x13 : Ext K (fun a => F.W a ∨ fp a) V s s₃ := (x'.trans (x₂.mono (fun _ _ q => .inr q) fun _ _ q => q)).trans (x₃.mono (fun _ _ q => .inr q) fun _ _ q => q)
    have x35 : Ext K F.W no s₃ s₅ := x₄.trans x₅
    have x15 : Ext K (fun a => F.W a ∨ fp a) V s s₅ := x13.trans (x35.mono (fun _ _ q => .inl q) fun _ _ q => q.elim)
    rcases hp with ⟨rfl, hri'⟩ | ⟨r, rfl, hp⟩
    · obtain ⟨rfl, hF₅⟩ := ho
      exact ⟨ds.length + 1 - (i + 1), by omega, i + 1, rfl, hlt, hri', hF₅, hit₃.ext x35, x15⟩
    · obtain ⟨v, rfl, hr⟩ := ho
      exact hQ (.ret r) _ s₅ hp ⟨v, rfl, hr⟩ (fin _ x15)
  · have e : i = ds.length := by omega
    subst e
    rw [List.drop_length] at hit'
    refine hit' A _ _ s' R (Ext.refl _) hF'.inv fun s₂ x₂ => ?_
    refine wpAny_execs_nil ?_
    have hF₂ := hF'.pulled x₂ hz (hlow.shape (hsh _)) hF.ok.WN
    have hF₃ : FrOK K (F.at (ρs ds.length)) s₂ := by
      have h1 := hF₂.less (F := F) (ρ := ρs ds.length) hF.ok.WN hF.ok.TN hF.ok.NoN fun p hp a es e => hF.ok.WN _ (hF₂.ok.owns p hp a es e).1
      exact h1
    exact hQ (.next (ρs ds.length)) _ s₂ (hend hri) ⟨rfl, hF₃⟩ (fin _ (x'.trans (x₂.mono (fun _ _ q => .inr q) fun _ _ q => q)))

theorem strip_spec {f fi : Addr} {x : Str} (hz : x.length ≤ sizeLine) (hz2 : (pcs x.cps.toList 0 false).length < sizeLine) (hj : JoinOk (Str.ofString "") (stripParts x) = true)
    (hlen : K.Gl "len" (.builtin "len")) (hgi : K.Gl "_iter_escaped_chars" (.ref fi)) (hen : K.Gl "enumerate" (.type "enumerate")) (hoi : FnObj K fi (scopeA 12) (bodyA 12) ["addr"] []) (ho : FnObj K f (scopeA 13) (bodyA 13) ["addr"] []) :
    FnSpec K (n + 3) (.ref f) [.str x] (.str (strip x)) := by
  refine fn_spec (n := n + 2) (sh := ⟨["addr", "start", "open_pos", "result", "pos", "ch"], [], []⟩) (gl := ["_iter_escaped_chars", "len"]) (dd := []) (ρ0 := fun _ => [⟨"addr", .loc, .val (.str x)⟩, ⟨"start", .loc, .un⟩, ⟨"open_pos", .loc, .un⟩, ⟨"result", .loc, .un⟩, ⟨"pos", .loc, .un⟩, ⟨"ch", .loc, .un⟩]) ho (fun N h => .nil) rfl rfl rfl (by decide +kernel) rfl (fun L => ?_) fun N0 L qual code => strip_body hz hz2 hj hlen hgi hen hoi
  exact .cons (.here nofun) .nil

/-- the verdict on a text -/
noncomputable def verdict (x : Str) : Bool := chk (pcs (strip x).cps.toList 0 false) 0

theorem verdict_spec {f fs fi : Addr} {x : Str} (hz : x.length ≤ sizeLine) (hz2 : (pcs x.cps.toList 0 false).length < sizeLine) (hj : JoinOk (Str.ofString "") (stripParts x) = true)
    (hlen : K.Gl "len" (.builtin "len")) (hgs : K.Gl "_strip_quoted_realnames" (.ref fs)) (hgi : K.Gl "_iter_escaped_chars" (.ref fi)) (hen : K.Gl "enumerate" (.type "enumerate")) (hoi : FnObj K fi (scopeA 12) (bodyA 12) ["addr"] [])
    (hos : FnObj K fs (scopeA 13) (bodyA 13) ["addr"] []) (ho : FnObj K f (scopeA 14) (bodyA 14) ["addr"] []) : FnSpec K (n + 4) (.ref f) [.str x] (.bool (verdict x)) :=
  check_spec (n := n + 1) (m := n + 3) (Nat.le_refl _) (strip_spec hz hz2 hj hlen hgi hen hoi hos) (let ⟨o, fd, h1, h2, _⟩ := hos.ex; ⟨o, fd, h1, h2⟩) hgs hgi hen hoi ho

theorem rowsOk_len {rows : List Str} (h : rowsOk rows = true) : rows.length ≤ sizeLine := by
  unfold rowsOk at h
  simp only [Bool.and_eq_true, decide_eq_true_eq] at h
  rw [sizeLine_eq]; omega
theorem rowsOk_row {rows : List Str} (h : rowsOk rows = true) {r : Str} (hr : r ∈ rows) : r.length ≤ 1000 := by
  unfold rowsOk at h
  simp only [Bool.and_eq_true, decide_eq_true_eq, List.all_eq_true] at h
  exact h.1 r hr

set_option maxHeartbeats 4000000 in
theorem rows_body {f : Addr} {N0 : Addr → Prop} {L : Addr} {qual : Str} {code : Value} {p : Nat} (hp : p ≤ 100) (hok : ∀ i, i ≤ 2 * p → rowsOk (rowsAt p i) = true) (hg : K.Gl "range" (.type "range")) :
    Blk K n (fFm (fEnv (scopeA 16) L [] qual f code) N0 no (rρ L p .un .un) ["range"]) (bodyA 16) (fun o => o = .ret (.list ((rowsAt p (2 * p)).map .str))) := by
  have hds : ∀ k : Nat, ((List.range k).map fun (i : Nat) => D.int (0 + i)).length = k := fun k => by rw [List.length_map, List.length_range]
  have e2 : ((2 : Int) * (p : Int)).toNat = 2 * p := by omega
  apply blk_assign
  · trivial
  · trivial
  · apply blk_cons (P1 := fun o => ∃ se, o = .next (rρ L p (.val (.list ((rowsAt p (2 * p)).map .str))) se))
    · apply stm_forR (tup := false) (ds := (List.range (2 * p)).map fun (i : Nat) => .int (0 + i)) (fun i => rρ L p (.val (.list ((rowsAt p i).map .str))) (match i with | 0 => .un | i + 1 => .val (.int (0 + i)))) (fun i => rρ L p (.val (.list ((rowsAt p i).map .str))) (.val (.int (0 + i)))) (fun _ => True)
      · exact True.intro
      · rw [← e2]
        apply itr_range1
        · trivial
        · exact hg
        · apply evs_cons
          · apply ev_bin
            · trivial
            · trivial
            · apply b_mul
              exact .of_left (by decide +kernel)
          · trivial
          · intro _; rfl
        · omega
        · omega
      · rfl
      · rfl
      · intro i; rfl
      · intro i; rfl
      · intro i d fp h
        have hd : d = .int (0 + i) := by
          have hl := (List.getElem?_eq_some_iff.mp h).1
          rw [hds] at hl
          rw [List.getElem?_map, List.getElem?_range hl] at h
          exact (Option.some.inj h).symm
        subst hd
        apply asg_name
        cases i <;> trivial
      · intro i d fp h _
        have hl := (List.getElem?_eq_some_iff.mp h).1
        rw [hds] at hl
        have hok1 := hok i (by omega)
        have hok2 := hok (i + 1) (by omega)
        have hflat : ((rowsAt p i).flatMap fun r => (([40, 41] : List Nat).filter (rowCond p r)).map fun c => D.str (r ++ ⟨#[c]⟩)) = (rowsAt p (i + 1)).map .str := by
          show _ = (rowStep p (rowsAt p i)).map D.str
          unfold rowStep
          rw [List.map_flatMap]
          congr 1
          funext r
          rw [List.map_map]
          rfl
        apply blk_assign_compE ⟨["row", "sign"], [], [("pairs", L + 1 + 0, .int p)]⟩ ["pairs"] [] false ((rowsAt p i).map .str) ((rowsAt p (i + 1)).map .str)
        · rw [← hflat]
          apply loop2E (tup2 := false) (rowsAt p i) D.str (fun C r => [⟨"row", .loc, .val (.str r)⟩, ⟨"sign", .loc, .un⟩, ⟨"pairs", .free (L + 1 + 0), .val (.int p)⟩]) ([40, 41] : List Nat) (fun c => D.str ⟨#[c]⟩)
            (fun C r c => [⟨"row", .loc, .val (.str r)⟩, ⟨"sign", .loc, .val (.str ⟨#[c]⟩)⟩, ⟨"pairs", .free (L + 1 + 0), .val (.int p)⟩]) (rowCond p) (fun r c => D.str (r ++ ⟨#[c]⟩))
          · rfl
          · rfl
          · intro C acc fp r hr
            apply asg_name
            trivial
          · intro C r hr
            exact .un (.same (.same .nil))
          · intro C acc fp W r hr
            have e : ([40, 41] : List Nat).map (fun c => D.str ⟨#[c]⟩) = ((Str.ofString "()").cps.toList.map fun c => D.str ⟨#[c]⟩) := by
              have : (Str.ofString "()").cps.toList = [40, 41] := by decide +kernel
              rw [this]
            rw [e]
            apply itr_str
            trivial
          · intro C acc fp fp2 r hr c hc
            apply asg_name
            trivial
          · intro C r hr c hc
            exact .same (.un (.same .nil))
          · intro C acc fp fp2 r hr c hc
            apply tests_one
            apply Tr.eq
            · apply tr_cmp
              · apply ev_count
                · trivial
                · trivial
                · rfl
                · rfl
                · rfl
              · apply ev_ite (d := .int (if ((⟨#[c]⟩ : Str) == Str.ofString "(") then (p : Int) else Txt.count r (Str.ofString "(")))
                · trivial
                · intro h1
                  rw [if_pos h1]
                  trivial
                · intro h1
                  rw [if_neg (by rw [h1]; exact Bool.false_ne_true)]
                  apply ev_count
                  · trivial
                  · trivial
                  · rfl
                  · rfl
                  · rfl
              · trivial
              · rfl
            · rfl
          · intro C acc fp fp2 r hr c hc hb
            apply ev_bin
            · trivial
            · trivial
            · apply b_cat
              have := rowsOk_row hok1 hr
              show r.length + 1 ≤ sizeLine
              rw [sizeLine_eq]; omega
          · rw [hflat, List.length_map]
            exact rowsOk_len hok2
          · intro _ _; rfl
        · apply itr_list
          trivial
        · show compOk _ ["row", "sign"] [] ["pairs"] [] = true
          decide +kernel
        · rfl
        · apply Fvs.cell
          · trivial
          · exact .nil
        · trivial
        · apply blk_nil
          exact .inl ⟨rfl, True.intro⟩
        · rfl
        · intro _; rfl
      · intro _
        rw [hds]
        exact ⟨_, rfl⟩
      · intro _; rfl
    · rintro ρ' ⟨se, h⟩
      cases h
      apply blk_ret
      · trivial
      · rfl
    · rintro d ⟨se, h⟩; cases h
  · rfl
end
end

/-! # part F33 -/
section
open PySem.Sem (wp)
section
variable {K : Cx} {n : Nat} {F : Fm} {P : Out → Prop}
section
variable {W N fp : Addr → Prop} {V : Nat → Prop} {tup : Bool}
theorem iter_tuple {l it : Addr} {its : Array Value} {ds : List D} {s : Shared} (hWN : ∀ a, W a → N a) (hTN : ∀ a, K.Tb a → N a) (hfN : ∀ a, fp a → N a) (hit : fp it) (hiW : ¬ W it) (hg : K.g0.get? it = none) (hiT : ¬ K.Tb it) (hlW : ¬ W l) (hlT : ¬ K.Tb l) (hlf : ¬ fp l)
    (hi : s.heap.IsTupleIter it l 0) (hl : s.heap.IsTuple l its) (hr : Reps N s.heap ds its.toList) : IterOK K n W N fp V tup (.ref it) ds s := by
  refine iter_seq (T := "tuple_iterator") (fun i s => s.heap.IsTupleIter it l i ∧ s.heap.IsTuple l its ∧ Reps N s.heap ds its.toList) hWN hTN hfN hit hg hiT (by decide) (by decide) ds ?_ ?_ ?_ ?_ ds 0 s rfl (Nat.zero_le _) ⟨hi, hl, hr⟩
  · rintro i s s' ⟨⟨o, e, r⟩, b, c⟩ x
    exact ⟨⟨o, x.heap _ _ hiW hiT e, r⟩, IsTuple_keep b fun o e => x.heap _ _ hlW hlT e, c.ext x hWN hTN⟩
  · rintro i s ⟨⟨o, e, r, _⟩, _, _⟩
    exact ⟨o, e, r⟩
  · rintro i d hx A Q E s hh ⟨a, b, c⟩ hQ
    obtain ⟨v, hv, rv⟩ := c.get hx
    refine wpAny_pyNext_tuple_item a b (by rw [← Array.getElem?_toList]; exact hv) fun h' a' hs => ?_
    refine hQ v h' s.toks hs ⟨a', IsTuple_keep b fun o e => hs.extBut _ o (fun q => hlf (q ▸ hit)) e, Reps.keep (fun _ _ q => q) (fun b o hb e => hs.extBut b o (fun q => hb (hfN _ (q ▸ hit))) e) c⟩ (fun N' h1 h2 r => r.keep (fun _ _ q => q) fun b o hb e => hs.extBut b o (fun q => hb (h1 _ (q ▸ hit))) e) rv
  · rintro A Q E s hh ⟨a, b, c⟩ hQ
    exact wpAny_pyNext_tuple_end hh a b (Array.getElem?_eq_none (by rw [← Array.length_toList, ← c.length]; exact Nat.le_refl _)) fun h' hx => hQ h' hx

end
theorem itr_tup {e : Expr} {tup : Bool} {ds : List D} (h : Ev K n F e (.tup ds)) : Itr K n F e tup ds := fun R hF hQ =>
  h R hF fun v s₁ x₁ r₁ => by
    have hF1 := hF.ext0 x₁
    cases r₁ with
    | tup n1 l1 r1 =>
      rename_i l its
      refine wpAny_pyIter_tuple l1 ?_
      obtain ⟨f1, f2, f3, f4⟩ := fresh_facts hF1 (Nat.le_refl s₁.heap.objs.size)
      have k1 : ∀ b o, s₁.heap.get? b = some o → (s₁.heap.push { cls := .type "tuple_iterator", data := .fields #[.ref l, .int 0 0] }).get? b = some o := fun b o e => Heap.get?_push_of_some _ e
      have X : E0 K s₁ { s₁ with heap := s₁.heap.push { cls := .type "tuple_iterator", data := .fields #[.ref l, .int 0 0] } } := E0.grow (tk := s₁.toks) k1 (by rw [Heap.size_push]; omega)
      have hit : (s₁.heap.push { cls := .type "tuple_iterator", data := .fields #[.ref l, .int 0 0] }).IsTupleIter s₁.heap.objs.size l 0 := ⟨_, Heap.get?_push_size _ rfl, rfl, rfl⟩
      have hl : l < s₁.heap.objs.size := by obtain ⟨o, e, _⟩ := l1; exact Heap.lt_size e
      refine hQ _ (· = s₁.heap.objs.size) no _ (x₁.trans X) (fun a q => by subst q; exact ⟨x₁.size, by show _ < (s₁.heap.push _).objs.size; rw [Heap.size_push]; omega⟩) (fun _ q => q.elim) ?_ ?_
      · intro W N s'' X2 w1 w2 w3 w4 w5 w6
        have hz : (s₁.heap.push { cls := .type "tuple_iterator", data := .fields #[.ref l, .int 0 0] }).objs.size = s₁.heap.objs.size + 1 := Heap.size_push ..
        have k2 := fun (b : Addr) (o : Obj) (hb : ¬ K.Tb b) e => X2.heap b o (fun q => q) hb (k1 b o e)
        obtain ⟨oi, ei, ri⟩ := hit
        exact iter_tuple w2 (fun a q => w3 a (hF.ok.TN a q)) w4 rfl (notW w1 f1 (by show _ < (s₁.heap.push _).objs.size; rw [hz]; exact Nat.lt_succ_self _)) f3 f4
          (notW w1 (fun q => n1 (hF.ok.WN _ q)) (by show _ < (s₁.heap.push _).objs.size; rw [hz]; exact Nat.lt_succ_of_lt hl)) (fun q => n1 (hF.ok.TN _ q)) (Nat.ne_of_lt hl) ⟨oi, X2.heap _ _ (fun q => q) f4 ei, ri⟩
          (by obtain ⟨o, e, r⟩ := l1; exact ⟨o, k2 _ _ (fun q => n1 (hF.ok.TN _ q)) e, r⟩)
          (Reps.keep (fun _ _ q => q) (fun b o hb e => k2 b o (fun q => hb (w3 _ (hF.ok.TN _ q))) e) (repsN r1 w5 (fun a q => Nat.le_of_eq q.symm) (by show _ ≤ (s₁.heap.push _).objs.size; rw [hz]; exact Nat.le_succ _)))
      · intro A Q E s' X' hq
        obtain ⟨o, e, r⟩ := hit
        exact wpAny_pyIter_tupleiter (t := l) (i := 0) ⟨o, X'.heap _ _ (fun q => q) f4 e, r⟩ hq

theorem rows_spec {f : Addr} {p : Nat} (hp : p ≤ 100) (hok : ∀ i, i ≤ 2 * p → rowsOk (rowsAt p i) = true) (hg : K.Gl "range" (.type "range")) (ho : FnObj K f (scopeA 16) (bodyA 16) ["pairs"] []) : FnSpec K (n + 1) (.ref f) [.int p] (.list ((rowsAt p (2 * p)).map .str)) := by
  refine fn_spec (sh := ⟨["rows", "step"], [("pairs", 0)], []⟩) (gl := ["range"]) (dd := []) (ρ0 := fun L => rρ L p .un .un) ho (fun N h => .nil) rfl rfl rfl (by decide +kernel) rfl (fun L => ?_) fun N0 L qual code => rows_body hp hok hg
  exact .cons (.there (.there (.here nofun))) .nil

/-! ## slices of lists -/
noncomputable def pickL {α : Type} (xs : List α) (lo hi st : Option Int) : List α :=
  (sliceRange (sliceBounds lo hi st xs.length).1 (sliceBounds lo hi st xs.length).2.1 (sliceBounds lo hi st xs.length).2.2).filterMap (xs[·]?)
theorem pick_map {α : Type} (xs : List α) (f : α → D) (lo hi st : Option Int) : pickD (xs.map f) lo hi st = (pickL xs lo hi st).map f := by
  unfold pickD pickL
  rw [List.length_map, List.map_filterMap]
  congr 1
  funext i
  rw [List.getElem?_map]
theorem range_pick {α : Type} (xs : List α) (a : Nat) : ∀ k : Nat, a + k ≤ xs.length → ((List.range k).map fun i => a + i).filterMap (xs[·]?) = (xs.drop a).take k
  | 0, _ => by simp
  | k + 1, h => by
    rw [List.range_succ, List.map_append, List.filterMap_append, range_pick xs a k (by omega), List.take_add_one]
    congr 1
    rw [List.getElem?_drop]
    simp only [List.map_cons, List.map_nil, List.filterMap_cons, List.filterMap_nil]
    cases h : xs[a + k]? <;> rfl
end
end

/-! # part F34 -/
section
open PySem.Sem (wp)
theorem sliceRange_one {a b : Nat} (h : a ≤ b) : sliceRange (a : Int) (b : Int) 1 = (List.range (b - a)).map fun i => a + i := by
  unfold sliceRange
  have e : (if (1 : Int) > 0 then (if (a : Int) < b then ((b : Int) - a + 1 - 1) / 1 else 0) else (if (a : Int) > b then ((a : Int) - b - 1 - 1) / (-1) else 0)).toNat = b - a := by
    rw [if_pos (by decide)]
    split
    · rw [Int.ediv_one]; omega
    · omega
  simp only [e]
  apply List.map_congr_left
  intro k _
  omega
theorem pickL_mid {α : Type} {xs : List α} {a b : Nat} (h : a ≤ b) (hb : b ≤ xs.length) : pickL xs (some a) (some b) none = (xs.drop a).take (b - a) := by
  unfold pickL sliceBounds
  have h1 : max 0 (min (a : Int) xs.length) = (a : Int) := by omega
  have h2 : max 0 (min (b : Int) xs.length) = (b : Int) := by omega
  have n1 : ¬ ((a : Int) < 0) := by omega
  have n2 : ¬ ((b : Int) < 0) := by omega
  simp only [Option.getD_none, n1, n2, if_false, h1, h2, show ((1 : Int) > 0) = True from by simp, if_true]
  rw [sliceRange_one h, range_pick xs a (b - a) (by omega)]
theorem pickL_to {α : Type} {xs : List α} {b : Nat} (hb : b ≤ xs.length) : pickL xs none (some b) none = xs.take b := by
  unfold pickL sliceBounds
  have h2 : max 0 (min (b : Int) xs.length) = (b : Int) := by omega
  have n2 : ¬ ((b : Int) < 0) := by omega
  simp only [Option.getD_none, n2, if_false, h2, show ((1 : Int) > 0) = True from by simp, if_true]
  have := sliceRange_one (Nat.zero_le b)
  rw [show ((0 : Nat) : Int) = 0 from rfl] at this
  rw [this, range_pick xs 0 (b - 0) (by omega)]
  simp
theorem pickL_from {α : Type} {xs : List α} {a : Nat} (ha : a ≤ xs.length) : pickL xs (some a) none none = xs.drop a := by
  unfold pickL sliceBounds
  have h1 : max 0 (min (a : Int) xs.length) = (a : Int) := by omega
  have n1 : ¬ ((a : Int) < 0) := by omega
  simp only [Option.getD_none, n1, if_false, h1, show ((1 : Int) > 0) = True from by simp, if_true]
  rw [sliceRange_one ha, range_pick xs a (xs.length - a) (by omega)]
  rw [List.take_of_length_le (by rw [List.length_drop]; exact Nat.le_refl _)]

/-! ## a row's cells -/
noncomputable def cellsOf (row : Str) (pieces : List Str) : List Str := (List.range row.length).map fun k => (⟨#[row.cps.getD k 0]⟩ : Str) ++ pieces.getD k ⟨#[]⟩

section
variable {K : Cx} {n : Nat} {F : Fm} {P : Out → Prop}

theorem ev_not {e : Expr} {pos : Pos} {b : Bool} (h : Ev K n F e (.bool b)) : Ev K n F (.UnaryOp .Not e pos) (.bool (!b)) := fun R hF hQ =>
  wpAny_UnaryOp (h R hF fun v s₁ x r => by
    cases r
    exact not_value (show wpAny _ _ (truthy (.bool b)) _ _ _ from wpAny_pure (hQ _ _ x (.bool _))))

theorem ev_sliceE {v : Expr} {lo hi : Option Expr} {p pos : Pos} {α : Type} (xs : List α) (f : α → D) (l h : Option Int) (ys : List α) (hv : Ev K n F v (.list (xs.map f))) (hl : PartD K n F lo l) (hh : PartD K n F hi h) (hz : xs.length ≤ sizeLine) (hy : pickL xs l h none = ys) :
    Ev K n F (.Subscript v (.Slice lo hi none p) pos) (.list (ys.map f)) := by
  apply Ev.eq
  · apply ev_slice
    · exact hv
    · exact hl
    · exact hh
    · exact PartD.none
    · nofun
    · rw [List.length_map]; exact hz
  · rw [pick_map, hy]

set_option maxHeartbeats 2000000 in
/-- the list of a row's cells, made by a comprehension -/
theorem cells_loop {row : Str} {pieces : List Str} {cR cP : Addr} {scope : Scope} {iter : Expr} {pos : Pos} {elt target : Expr} {gl : List Str} (hlen : row.length ≤ pieces.length) (hz : row.length ≤ 1000) (hzp : ∀ p ∈ pieces, p.length ≤ 1000)
    {p1 p2 p3 p4 p5 p6 p7 p8 : Pos} (helt : elt = .BinOp (.Subscript (.Name "row" p1) (.Name "k" p2) p3) .Add (.Subscript (.Name "pieces" p4) (.Name "k" p5) p6) p7) (ht : target = .Name "k" p8)
    :
    LoopOK K n F (.ListComp elt [⟨target, iter, [], 0⟩] scope pos) scope ⟨["k"], [], [("pieces", cP, .list (pieces.map .str)), ("row", cR, .str row)]⟩ gl false ((List.range row.length).map fun (i : Nat) => .int (0 + i)) ((cellsOf row pieces).map .str) := by
  subst helt ht
  have e : (cellsOf row pieces).map D.str = (((List.range row.length).filter fun _ => true).map fun k => D.str ((⟨#[row.cps.getD k 0]⟩ : Str) ++ pieces.getD k ⟨#[]⟩)) := by
    unfold cellsOf
    rw [List.map_map, List.filter_eq_self.mpr (fun _ _ => rfl)]
    rfl
  rw [e]
  apply loop1E (List.range row.length) (fun (i : Nat) => D.int (0 + i)) (fun C k => [⟨"k", .loc, .val (.int (0 + k))⟩, ⟨"pieces", .free cP, .val (.list (pieces.map .str))⟩, ⟨"row", .free cR, .val (.str row)⟩]) (fun _ => true)
    (fun k => D.str ((⟨#[row.cps.getD k 0]⟩ : Str) ++ pieces.getD k ⟨#[]⟩))
  · rfl
  · intro C acc fp k hk
    apply asg_name
    trivial
  · intro C k hk
    exact .un (.same (.same .nil))
  · intro C acc fp k hk
    exact tests_nil
  · intro C acc fp k hk _
    have hk' : k < row.length := List.mem_range.mp hk
    have hk2 : k < pieces.length := Nat.lt_of_lt_of_le hk' hlen
    have e0 : ((0 : Int) + (k : Int)).toNat = k := by omega
    have hk3 : k < row.cps.size := hk'
    have hx1 : row.cps[((0 : Int) + (k : Int)).toNat]? = some (row.cps.getD k 0) := by
      rw [e0, Array.getElem?_eq_getElem hk3]
      simp [Array.getD, hk3]
    have hx2 : (pieces.map D.str)[((0 : Int) + (k : Int)).toNat]? = some (.str (pieces.getD k ⟨#[]⟩)) := by
      rw [e0, List.getElem?_map, List.getElem?_eq_getElem hk2, List.getD_eq_getElem?_getD, List.getElem?_eq_getElem hk2]; rfl
    apply ev_bin
    · apply ev_char
      · trivial
      · trivial
      · omega
      · exact hx1
      · omega
      · intro _ _; with_unfolding_all rfl
    · apply ev_item
      · trivial
      · trivial
      · omega
      · exact hx2
      · omega
      · intro _ _; with_unfolding_all rfl
    · apply b_cat
      have : (pieces.getD k ⟨#[]⟩).length ≤ 1000 := by
        rw [List.getD_eq_getElem?_getD, List.getElem?_eq_getElem hk2]
        exact hzp _ (List.getElem_mem hk2)
      show 1 + _ ≤ sizeLine
      rw [sizeLine_eq]; omega
  · rw [List.length_range, sizeLine_eq]; omega
end
end

/-! # part F35 -/
section
open PySem.Sem (wp)
/-! ## a row turned -/
noncomputable def goodAt (row : Str) (j : Nat) : Bool := Txt.count (Txt.slice row none (some ((j : Int) + 1))) (Str.ofString "(") == Txt.count (Txt.slice row none (some ((j : Int) + 1))) (Str.ofString ")")
noncomputable def turnOut (row : Str) (j : Nat) : Str := ((Txt.slice row (some 1) (some (j : Int)) ++ Str.ofString "(") ++ Txt.slice row (some ((j : Int) + 1)) none) ++ Str.ofString ")"
noncomputable def turnedAt (row : Str) : List Nat → Str
  | [] => Str.ofString ""
  | j :: js => if goodAt row j then turnOut row j else turnedAt row js
noncomputable def turnJs (row : Str) : List Nat := (List.range (row.length - 1)).map (1 + ·)
noncomputable def turnedP (row : Str) : Str := turnedAt row (turnJs row)
noncomputable def turnText (row : Str) (pieces : List Str) (j : Nat) : Str := Txt.join (Str.ofString "") ((cellsOf row pieces).take (j + 1))
noncomputable def turnSz (row : Str) (j : Nat) : Bool := decide ((Txt.slice row (some 1) (some (j : Int))).length ≤ 1000) && decide ((Txt.slice row (some ((j : Int) + 1)) none).length ≤ 1000)

theorem str_app_len (a b : Str) : (a ++ b).length = a.length + b.length := Array.size_append
noncomputable def tρ (L : Addr) (row : Str) (pieces : List Str) (cells j ans good : En) : List Var :=
  [⟨"cells", .loc, cells⟩, ⟨"j", .loc, j⟩, ⟨"answer", .loc, ans⟩, ⟨"good", .loc, good⟩, ⟨"row", .cell (L + 1 + 0), .val (.str row)⟩, ⟨"pieces", .cell (L + 1 + 1), .val (.list (pieces.map .str))⟩]
noncomputable def tj : Nat → En
  | 0 => .un
  | i + 1 => .val (.int ((1 + i : Nat) : Int))
noncomputable def tg (row : Str) : Nat → En
  | 0 => .un
  | i + 1 => .val (.bool (goodAt row (1 + i)))

section
variable {K : Cx} {n : Nat} {F : Fm} {P : Out → Prop}

set_option maxHeartbeats 4000000 in
theorem turned_body {f fc : Addr} {N0 : Addr → Prop} {L : Addr} {qual : Str} {code : Value} {row : Str} {pieces : List Str} {m : Nat} (hm : m ≤ n) (h1 : 1 ≤ row.length) (hz : row.length ≤ 1000) (hpl : row.length ≤ pieces.length) (hzp : ∀ p ∈ pieces, p.length ≤ 1000)
    (hlen : K.Gl "len" (.builtin "len")) (hg : K.Gl "range" (.type "range")) (hgc : K.Gl "_check_parenthesis" (.ref fc)) (hoc : ∃ o fd, K.g0.get? fc = some o ∧ o.data = .func fd)
    (hck : ∀ j, 1 ≤ j → j < row.length → FnSpec K m (.ref fc) [.str (turnText row pieces j)] (.bool (goodAt row j))) (hjo : ∀ j, 1 ≤ j → j < row.length → JoinOk (Str.ofString "") ((cellsOf row pieces).take (j + 1)) = true)
    (hsz : ∀ j, 1 ≤ j → j < row.length → turnSz row j = true) :
    Blk K n (fFm (fEnv (scopeA 17) L [] qual f code) N0 no (tρ L row pieces .un .un .un .un) ["range", "len", "_check_parenthesis"]) (bodyA 17) (fun o => o = .ret (.str (turnedP row))) := by
  have hzl : row.length ≤ sizeLine := by rw [sizeLine_eq]; omega
  have hcl : (cellsOf row pieces).length = row.length := by unfold cellsOf; rw [List.length_map, List.length_range]
  have eN : ((row.length : Int)).toNat = row.length := Int.toNat_natCast _
  have eM : ((row.length : Int) - 1).toNat = row.length - 1 := by omega
  apply blk_assign_compE ⟨["k"], [], [("pieces", L + 1 + 1, .list (pieces.map .str)), ("row", L + 1 + 0, .str row)]⟩ ["pieces", "row"] [] false ((List.range row.length).map fun (i : Nat) => .int (0 + i)) ((cellsOf row pieces).map .str)
  · apply cells_loop hpl hz hzp
    · rfl
    · rfl
  · have e : (List.range row.length).map (fun (i : Nat) => D.int (0 + i)) = (List.range ((row.length : Int)).toNat).map fun (i : Nat) => D.int (0 + i) := by rw [eN]
    rw [e]
    apply itr_range1
    · trivial
    · exact hg
    · apply evs_cons
      · apply ev_call_b
        · trivial
        · exact hlen
        · trivial
        · apply cd_len_str
          exact hzl
      · trivial
      · intro _; rfl
    · omega
    · omega
  · show compOk _ ["k"] [] ["pieces", "row"] [] = true
    decide +kernel
  · rfl
  · apply Fvs.cell
    · trivial
    · apply Fvs.cell
      · trivial
      · exact .nil
  · trivial
  · apply blk_cons (P1 := fun o => (∃ ρ, o = .next ρ ∧ turnedP row = Str.ofString "") ∨ o = .ret (.str (turnedP row)))
    · apply stm_forR (tup := false) (ds := (List.range (row.length - 1)).map fun (i : Nat) => .int (1 + i)) (fun i => tρ L row pieces (.val (.list ((cellsOf row pieces).map .str))) (tj i) (tg row i) (tg row i)) (fun i => tρ L row pieces (.val (.list ((cellsOf row pieces).map .str))) (tj (i + 1)) (tg row i) (tg row i))
        (fun i => turnedP row = turnedAt row ((turnJs row).drop i))
      · rfl
      · rw [← eM]
        apply itr_range2
        · trivial
        · exact hg
        · apply evs_cons
          · trivial
          · apply evs_cons
            · apply ev_call_b
              · trivial
              · exact hlen
              · trivial
              · apply cd_len_str
                exact hzl
            · trivial
            · intro _; rfl
          · intro _; rfl
        · omega
        · omega
        · omega
      · rfl
      · rfl
      · intro i; rfl
      · intro i; rfl
      · intro i d fp h
        have hl := (List.getElem?_eq_some_iff.mp h).1
        rw [List.length_map, List.length_range] at hl
        rw [List.getElem?_map, List.getElem?_range hl] at h
        have hd : d = .int ((1 + i : Nat) : Int) := by
          have := (Option.some.inj h).symm
          rw [this]
          show D.int (1 + (i : Int)) = _
          congr 1
        subst hd
        apply asg_name
        trivial
      · intro i d fp h hr
        have hl := (List.getElem?_eq_some_iff.mp h).1
        rw [List.length_map, List.length_range] at hl
        have hdrop : (turnJs row).drop i = (1 + i) :: (turnJs row).drop (i + 1) := by
          have hget : (turnJs row)[i]? = some (1 + i) := by
            unfold turnJs
            rw [List.getElem?_map, List.getElem?_range hl]; rfl
          obtain ⟨hlt, e⟩ := List.getElem?_eq_some_iff.mp hget
          rw [List.drop_eq_getElem_cons hlt, e]
        rw [hdrop] at hr
        unfold turnedAt at hr
        show Blk _ _ (Fm.at _ (tρ L row pieces (.val (.list ((cellsOf row pieces).map .str))) (.val (.int ((1 + i : Nat) : Int))) (tg row i) (tg row i))) _ _
        show Blk _ _ _ _ (fun o => (o = .next (tρ L row pieces (.val (.list ((cellsOf row pieces).map .str))) (.val (.int ((1 + i : Nat) : Int))) (.val (.bool (goodAt row (1 + i)))) (.val (.bool (goodAt row (1 + i))))) ∧ _) ∨ _)
        have hj1 : 1 ≤ 1 + i := by omega
        have hj2 : 1 + i < row.length := by omega
        generalize 1 + i = j at *
        have hck' : FnSpec K m (.ref fc) [.str (turnText row pieces j)] (.bool (goodAt row j)) := hck j hj1 hj2
        have hsz' := hsz j hj1 hj2
        unfold turnSz at hsz'
        simp only [Bool.and_eq_true, decide_eq_true_eq] at hsz'
        have hcut : pickL (cellsOf row pieces) none (some ((j : Int) + 1)) none = (cellsOf row pieces).take (j + 1) := by
          have := pickL_to (xs := cellsOf row pieces) (b := j + 1) (by rw [hcl]; omega)
          rw [← this]
          rfl
        generalize hgj : goodAt row j = g at *
        apply blk_assign
        · apply ev_call_fn
          · trivial
          · exact hgc
          · exact hoc
          · apply evs_cons
            · apply ev_join
              · trivial
              · apply ev_sliceE (cellsOf row pieces) D.str
                · trivial
                · exact PartD.none
                · apply PartD.int
                  trivial
                · rw [hcl]; exact hzl
                · exact hcut
              · exact hjo j hj1 hj2
              · rfl
              · rfl
              · rfl
            · trivial
            · intro _; rfl
          · exact hck'
          · exact hm
        · trivial
        · apply blk_assign
          · apply Ev.eq
            · apply ev_cmp
              · apply ev_count
                · apply ev_cut
                  · trivial
                  · exact PartD.none
                  · apply PartD.int
                    trivial
                  · exact hzl
                · trivial
                · rfl
                · rfl
                · rfl
              · apply ev_count
                · apply ev_cut
                  · trivial
                  · exact PartD.none
                  · apply PartD.int
                    trivial
                  · exact hzl
                · trivial
                · rfl
                · rfl
                · rfl
              · trivial
              · rfl
            · show D.bool (goodAt row j) = .bool g
              rw [hgj]
          · trivial
          · apply blk_if (c := false)
            · apply Tr.eq
              · apply tr_cmp
                · trivial
                · apply ev_list
                  · apply evs_cons
                    · trivial
                    · apply evs_cons
                      · apply ev_not
                        trivial
                      · trivial
                      · intro _; rfl
                    · intro _; rfl
                  · exact (by decide : 2 ≤ 1000)
                · apply c_ne_any
                  · rfl
                  · rfl
                  · exact (by decide : 1 ≤ 50)
                · rfl
              · cases g <;> decide
            · nofun
            · intro _
              apply blk_if
              · apply tr_plain
                · trivial
                · exact .bool _
                · intro _; rfl
              · intro hgt
                rw [if_pos hgt] at hr
                apply blk_ret
                · apply ev_bin
                  · apply ev_bin
                    · apply ev_bin
                      · apply ev_cut
                        · trivial
                        · apply PartD.int
                          trivial
                        · apply PartD.int
                          trivial
                        · exact hzl
                      · trivial
                      · apply b_cat
                        show _ + 1 ≤ sizeLine
                        rw [sizeLine_eq]
                        exact Nat.le_trans (Nat.add_le_add_right hsz'.1 1) (by decide)
                    · apply ev_cut
                      · trivial
                      · apply PartD.int
                        trivial
                      · exact PartD.none
                      · exact hzl
                    · apply b_cat
                      rw [str_app_len, sizeLine_eq]
                      have e1 : (Str.ofString "(").length = 1 := by decide +kernel
                      rw [e1]
                      have := hsz'.1
                      have := hsz'.2
                      omega
                  · trivial
                  · apply b_cat
                    rw [str_app_len, str_app_len, sizeLine_eq]
                    have e1 : (Str.ofString "(").length = 1 := by decide +kernel
                    have e2 : (Str.ofString ")").length = 1 := by decide +kernel
                    rw [e1, e2]
                    have := hsz'.1
                    have := hsz'.2
                    omega
                · exact .inr ⟨_, rfl, .inr (by rw [hr]; rfl)⟩
              · intro hgt
                rw [if_neg (by rw [hgt]; exact Bool.false_ne_true)] at hr
                apply blk_nil
                exact .inl ⟨rfl, hr⟩
          · rfl
        · rfl
      · intro hr
        rw [List.length_map, List.length_range, List.drop_of_length_le (by unfold turnJs; rw [List.length_map, List.length_range]; exact Nat.le_refl _)] at hr
        exact .inl ⟨_, rfl, hr⟩
      · intro _; rfl
    · rintro ρ' (⟨ρ, h, hr⟩ | h)
      · rw [hr]
        apply blk_ret
        · trivial
        · rfl
      · cases h
    · rintro d (⟨ρ, h, hr⟩ | h)
      · cases h
      · exact h
  · rfl
  · intro _; rfl
end
end

/-! # part F36 -/
section
open PySem.Sem (wp)
noncomputable def aρ (L : Addr) (row : Str) (pieces : List Str) (cells text answers : En) : List Var :=
  [⟨"cells", .loc, cells⟩, ⟨"text", .loc, text⟩, ⟨"answers", .loc, answers⟩, ⟨"row", .cell (L + 1 + 0), .val (.str row)⟩, ⟨"pieces", .cell (L + 1 + 1), .val (.list (pieces.map .str))⟩]
noncomputable def rowText (row : Str) (pieces : List Str) : Str := Txt.join (Str.ofString "") (cellsOf row pieces)
noncomputable def backText (row : Str) (pieces : List Str) : Str := Txt.join (Str.ofString "") ((cellsOf row pieces).drop 1 ++ (cellsOf row pieces).take 1)

section
variable {K : Cx} {n : Nat} {F : Fm} {P : Out → Prop}

theorem turned_spec {f fc : Addr} {row : Str} {pieces : List Str} {m : Nat} (hm : m ≤ n) (h1 : 1 ≤ row.length) (hz : row.length ≤ 1000) (hpl : row.length ≤ pieces.length) (hzp : ∀ p ∈ pieces, p.length ≤ 1000)
    (hlen : K.Gl "len" (.builtin "len")) (hg : K.Gl "range" (.type "range")) (hgc : K.Gl "_check_parenthesis" (.ref fc)) (hoc : ∃ o fd, K.g0.get? fc = some o ∧ o.data = .func fd)
    (hck : ∀ j, 1 ≤ j → j < row.length → FnSpec K m (.ref fc) [.str (turnText row pieces j)] (.bool (goodAt row j))) (hjo : ∀ j, 1 ≤ j → j < row.length → JoinOk (Str.ofString "") ((cellsOf row pieces).take (j + 1)) = true)
    (hsz : ∀ j, 1 ≤ j → j < row.length → turnSz row j = true) (ho : FnObj K f (scopeA 17) (bodyA 17) ["row", "pieces"] []) : FnSpec K (n + 1) (.ref f) [.str row, .list (pieces.map .str)] (.str (turnedP row)) := by
  refine fn_spec (sh := ⟨["cells", "j", "answer", "good"], [("row", 0), ("pieces", 1)], []⟩) (gl := ["range", "len", "_check_parenthesis"]) (dd := []) (ρ0 := fun L => tρ L row pieces .un .un .un .un) ho (fun N h => .nil) rfl rfl rfl (by decide +kernel) rfl (fun L => ?_) fun N0 L qual code => turned_body hm h1 hz hpl hzp hlen hg hgc hoc hck hjo hsz
  exact .cons (.there (.there (.there (.there (.here nofun))))) (.cons (.there (.there (.there (.there (.there (.here nofun)))))) .nil)

set_option maxHeartbeats 4000000 in
theorem answers_body {f fc : Addr} {N0 : Addr → Prop} {L : Addr} {qual : Str} {code : Value} {row : Str} {pieces : List Str} {m : Nat} {b0 b1 b2 b3 : Bool} (hm : m ≤ n) (h1 : 1 ≤ row.length) (hz : row.length ≤ 1000) (hpl : row.length ≤ pieces.length) (hzp : ∀ p ∈ pieces, p.length ≤ 1000)
    (hlen : K.Gl "len" (.builtin "len")) (hg : K.Gl "range" (.type "range")) (hgc : K.Gl "_check_parenthesis" (.ref fc)) (hoc : ∃ o fd, K.g0.get? fc = some o ∧ o.data = .func fd)
    (hk0 : FnSpec K m (.ref fc) [.str (rowText row pieces)] (.bool b0)) (hk1 : FnSpec K m (.ref fc) [.str (Str.ofString "(" ++ rowText row pieces)] (.bool b1)) (hk2 : FnSpec K m (.ref fc) [.str (Str.ofString ")" ++ rowText row pieces)] (.bool b2))
    (hk3 : FnSpec K m (.ref fc) [.str (backText row pieces)] (.bool b3)) (hj0 : JoinOk (Str.ofString "") (cellsOf row pieces) = true) (hj1 : JoinOk (Str.ofString "") ((cellsOf row pieces).drop 1 ++ (cellsOf row pieces).take 1) = true) (ht : (rowText row pieces).length ≤ 1000000) :
    Blk K n (fFm (fEnv (scopeA 18) L [] qual f code) N0 no (aρ L row pieces .un .un .un) ["range", "len"]) (bodyA 18) (fun o => o = .ret (.list [.bool b0, .bool b1, .bool b2, .bool b3, .bool (!b0), .bool (!b1), .bool (!b2), .bool (!b3)])) := by
  have hzl : row.length ≤ sizeLine := by rw [sizeLine_eq]; omega
  have hcl : (cellsOf row pieces).length = row.length := by unfold cellsOf; rw [List.length_map, List.length_range]
  have eN : ((row.length : Int)).toNat = row.length := Int.toNat_natCast _
  apply blk_assign_compE ⟨["k"], [], [("pieces", L + 1 + 1, .list (pieces.map .str)), ("row", L + 1 + 0, .str row)]⟩ ["pieces", "row"] [] false ((List.range row.length).map fun (i : Nat) => .int (0 + i)) ((cellsOf row pieces).map .str)
  · apply cells_loop hpl hz hzp
    · rfl
    · rfl
  · have e : (List.range row.length).map (fun (i : Nat) => D.int (0 + i)) = (List.range ((row.length : Int)).toNat).map fun (i : Nat) => D.int (0 + i) := by rw [eN]
    rw [e]
    apply itr_range1
    · trivial
    · exact hg
    · apply evs_cons
      · apply ev_call_b
        · trivial
        · exact hlen
        · trivial
        · apply cd_len_str
          exact hzl
      · trivial
      · intro _; rfl
    · omega
    · omega
  · show compOk _ ["k"] [] ["pieces", "row"] [] = true
    decide +kernel
  · rfl
  · apply Fvs.cell
    · trivial
    · apply Fvs.cell
      · trivial
      · exact .nil
  · trivial
  · apply blk_assign
    · apply ev_join
      · trivial
      · trivial
      · exact hj0
      · rfl
      · rfl
      · rfl
    · trivial
    · apply blk_assign_compE ⟨["one"], [], []⟩ [] ["_check_parenthesis"] false [.str (rowText row pieces), .str (Str.ofString "(" ++ rowText row pieces), .str (Str.ofString ")" ++ rowText row pieces), .str (backText row pieces)] [.bool b0, .bool b1, .bool b2, .bool b3]
      · show LoopOK K n _ _ _ _ _ _ (([(rowText row pieces, b0), (Str.ofString "(" ++ rowText row pieces, b1), (Str.ofString ")" ++ rowText row pieces, b2), (backText row pieces, b3)] : List (Str × Bool)).map fun q => D.str q.1)
          ((([(rowText row pieces, b0), (Str.ofString "(" ++ rowText row pieces, b1), (Str.ofString ")" ++ rowText row pieces, b2), (backText row pieces, b3)] : List (Str × Bool)).filter fun _ => true).map fun q => D.bool q.2)
        apply loop1E ([(rowText row pieces, b0), (Str.ofString "(" ++ rowText row pieces, b1), (Str.ofString ")" ++ rowText row pieces, b2), (backText row pieces, b3)] : List (Str × Bool)) (fun q => D.str q.1) (fun C q => [⟨"one", .loc, .val (.str q.1)⟩]) (fun _ => true) (fun q => D.bool q.2)
        · rfl
        · intro C acc fp q hq
          apply asg_name
          trivial
        · intro C q hq
          exact .un .nil
        · intro C acc fp q hq
          exact tests_nil
        · intro C acc fp q hq _
          apply ev_call_fn
          · trivial
          · exact hgc
          · exact hoc
          · trivial
          · show FnSpec K m (.ref fc) [.str q.1] (.bool q.2)
            simp only [List.mem_cons, List.not_mem_nil, or_false] at hq
            rcases hq with rfl | rfl | rfl | rfl
            · exact hk0
            · exact hk1
            · exact hk2
            · exact hk3
          · exact hm
        · exact (by decide : 4 ≤ sizeLine)
      · apply itr_tup
        apply ev_tup
        · apply evs_cons
          · trivial
          · apply evs_cons
            · apply ev_bin
              · trivial
              · trivial
              · apply b_cat
                have e1 : (Str.ofString "(").length = 1 := by decide +kernel
                show _ + (rowText row pieces).length ≤ _
                rw [e1, sizeLine_eq]; omega
            · apply evs_cons
              · apply ev_bin
                · trivial
                · trivial
                · apply b_cat
                  have e1 : (Str.ofString ")").length = 1 := by decide +kernel
                  show _ + (rowText row pieces).length ≤ _
                  rw [e1, sizeLine_eq]; omega
              · apply evs_cons
                · apply ev_join
                  · trivial
                  · apply Ev.eq
                    · apply ev_bin
                      · apply ev_sliceE (cellsOf row pieces) D.str (some 1) none ((cellsOf row pieces).drop 1)
                        · trivial
                        · apply PartD.int
                          trivial
                        · exact PartD.none
                        · rw [hcl]; exact hzl
                        · exact pickL_from (a := 1) (by rw [hcl]; exact h1)
                      · apply ev_sliceE (cellsOf row pieces) D.str none (some 1) ((cellsOf row pieces).take 1)
                        · trivial
                        · exact PartD.none
                        · apply PartD.int
                          trivial
                        · rw [hcl]; exact hzl
                        · exact pickL_to (b := 1) (by rw [hcl]; exact h1)
                      · apply b_lists
                        rw [List.length_map, List.length_map, List.length_drop, List.length_take, hcl, sizeLine_eq]
                        omega
                    · rw [← List.map_append]
                  · exact hj1
                  · rfl
                  · rfl
                  · rfl
                · exact .nil
                · intro _; rfl
              · intro _; rfl
            · intro _; rfl
          · intro _; rfl
        · exact (by decide : 4 ≤ 1000)
      · decide +kernel
      · rfl
      · exact .nil
      · trivial
      · apply blk_ret
        apply ev_bin
        · apply ev_compE ⟨["answer"], [], []⟩ [] [] false [b0, b1, b2, b3] D.bool (fun C b => [⟨"answer", .loc, .val (.bool b)⟩]) (fun _ => true) (fun b => D.bool (b == true))
          · apply itr_list
            trivial
          · rfl
          · decide +kernel
          · rfl
          · exact .nil
          · intro C acc fp b hb
            apply asg_name
            trivial
          · intro C b hb
            exact .un .nil
          · intro C acc fp b hb
            exact tests_nil
          · intro C acc fp b hb _
            trivial
          · exact (by decide : 4 ≤ sizeLine)
          · intro _; rfl
        · apply ev_compE ⟨["answer"], [], []⟩ [] [] false [b0, b1, b2, b3] D.bool (fun C b => [⟨"answer", .loc, .val (.bool b)⟩]) (fun _ => true) (fun b => D.bool (b == false))
          · apply itr_list
            trivial
          · rfl
          · decide +kernel
          · rfl
          · exact .nil
          · intro C acc fp b hb
            apply asg_name
            trivial
          · intro C b hb
            exact .un .nil
          · intro C acc fp b hb
            exact tests_nil
          · intro C acc fp b hb _
            trivial
          · exact (by decide : 4 ≤ sizeLine)
          · intro _; rfl
        · apply b_lists
          exact (by decide : 4 + 4 ≤ sizeLine)
        · cases b0 <;> cases b1 <;> cases b2 <;> cases b3 <;> rfl
      · rfl
      · intro _; rfl
    · rfl
  · rfl
  · intro _; rfl
end
end

/-! # part F37 -/
section
open PySem.Sem (wp)
section
variable {K : Cx} {n : Nat} {F : Fm} {P : Out → Prop}

theorem answers_spec {f fc : Addr} {row : Str} {pieces : List Str} {m : Nat} {b0 b1 b2 b3 : Bool} (hm : m ≤ n) (h1 : 1 ≤ row.length) (hz : row.length ≤ 1000) (hpl : row.length ≤ pieces.length) (hzp : ∀ p ∈ pieces, p.length ≤ 1000)
    (hlen : K.Gl "len" (.builtin "len")) (hg : K.Gl "range" (.type "range")) (hgc : K.Gl "_check_parenthesis" (.ref fc)) (hoc : ∃ o fd, K.g0.get? fc = some o ∧ o.data = .func fd)
    (hk0 : FnSpec K m (.ref fc) [.str (rowText row pieces)] (.bool b0)) (hk1 : FnSpec K m (.ref fc) [.str (Str.ofString "(" ++ rowText row pieces)] (.bool b1)) (hk2 : FnSpec K m (.ref fc) [.str (Str.ofString ")" ++ rowText row pieces)] (.bool b2))
    (hk3 : FnSpec K m (.ref fc) [.str (backText row pieces)] (.bool b3)) (hj0 : JoinOk (Str.ofString "") (cellsOf row pieces) = true) (hj1 : JoinOk (Str.ofString "") ((cellsOf row pieces).drop 1 ++ (cellsOf row pieces).take 1) = true) (ht : (rowText row pieces).length ≤ 1000000)
    (ho : FnObj K f (scopeA 18) (bodyA 18) ["row", "pieces"] []) : FnSpec K (n + 1) (.ref f) [.str row, .list (pieces.map .str)] (.list [.bool b0, .bool b1, .bool b2, .bool b3, .bool (!b0), .bool (!b1), .bool (!b2), .bool (!b3)]) := by
  refine fn_spec (sh := ⟨["cells", "text", "answers"], [("row", 0), ("pieces", 1)], []⟩) (gl := ["range", "len"]) (dd := []) (ρ0 := fun L => aρ L row pieces .un .un .un) ho (fun N h => .nil) rfl rfl rfl (by decide +kernel) rfl (fun L => ?_) fun N0 L qual code => answers_body hm h1 hz hpl hzp hlen hg hgc hoc hk0 hk1 hk2 hk3 hj0 hj1 ht
  exact .cons (.there (.there (.there (.here nofun)))) (.cons (.there (.there (.there (.there (.here nofun))))) .nil)

theorem ev_gl {x : Str} {p : Pos} {v : Value} {d : D} (hm : x ∈ F.gl) (hg : K.Gl x v) (hr : ∀ N h, Rep N h d v) : Ev K n F (.Name x p) d := fun R hF hQ => load_gl hF hm hg (hQ _ _ (Ext.refl _) (hr _ _))

noncomputable def dρ (a b k : Int) : List Var := [⟨"a", .loc, .val (.int a)⟩, ⟨"b", .loc, .val (.int b)⟩, ⟨"n", .loc, .val (.int k)⟩]

set_option maxHeartbeats 1000000 in
theorem div2_body {f : Addr} {N0 : Addr → Prop} {L : Addr} {qual : Str} {code : Value} {a b k : Int} {t : Tok} (hb : b ≠ 0) (hp : Builtin.divisionGoesByPylong a b = false) (hc : (Builtin.Int.intBits a : Int) - k ≤ 4000)
    (hgl : K.Gl "_DIV_LIMIT" (.int 4000 t)) (hgd : K.Gl "divmod" (.builtin "divmod")) :
    Blk K n (fFm (fEnv (scopeA 2) L [] qual f code) N0 no (dρ a b k) ["_DIV_LIMIT", "divmod", "_div3n2n"]) (bodyA 2) (fun o => o = .ret (.tup [.int (a.fdiv b), .int (a.fmod b)])) := by
  apply blk_if
  · apply tr_cmp
    · apply ev_bin
      · apply ev_bits
        · trivial
        · rfl
        · rfl
      · trivial
      · trivial
    · apply ev_gl
      · trivial
      · exact hgl
      · exact fun N h => .int _ _
    · apply c_le_int
    · rfl
  · intro _
    apply blk_ret
    · apply ev_call_b
      · trivial
      · exact hgd
      · trivial
      · apply cd_divmod
        · exact hb
        · exact hp
    · rfl
  · intro h
    exact absurd hc (of_decide_eq_false h)

theorem div2_spec {f : Addr} {a b k : Int} {t : Tok} (hb : b ≠ 0) (hp : Builtin.divisionGoesByPylong a b = false) (hc : (Builtin.Int.intBits a : Int) - k ≤ 4000)
    (hgl : K.Gl "_DIV_LIMIT" (.int 4000 t)) (hgd : K.Gl "divmod" (.builtin "divmod")) (ho : FnObj K f (scopeA 2) (bodyA 2) ["a", "b", "n"] []) : FnSpec K (n + 1) (.ref f) [.int a, .int b, .int k] (.tup [.int (a.fdiv b), .int (a.fmod b)]) := by
  refine fn_spec (sh := ⟨["a", "b", "n"], [], []⟩) (gl := ["_DIV_LIMIT", "divmod", "_div3n2n"]) (dd := []) (ρ0 := fun L => dρ a b k) ho (fun N h => .nil) rfl rfl rfl (by decide +kernel) rfl (fun L => ?_) fun N0 L qual code => div2_body hb hp hc hgl hgd
  exact .cons (.here nofun) (.cons (.there (.here nofun)) (.cons (.there (.there (.here nofun))) .nil))
end
end

/-! # part F38 -/
section
open PySem.Sem (wp)
/-- the ground with one more function that is known to stay -/
noncomputable def Cx.fn (K : Cx) (f : Addr) (o : Obj) (c' : Addr) (qual : Str) (ho : o.cls = .type "function" ∧ ∃ fd, o.data = .func fd) : Cx :=
  { K with
    tab := fun h => K.tab h ∧ h.get? f = some o ∧ ∃ oc vs t, h.get? c' = some oc ∧ oc.cls = .type "code" ∧ oc.data = .fields vs ∧ vs[1]? = some (.str qual t)
    tabKeep := fun h h' k ⟨t1, t2, oc, vs, t, t3, t4, t5, t6⟩ => ⟨K.tabKeep h h' k t1, k f o t2 (.inr (.inr ho)), oc, vs, t, k c' oc t3 (.inr (.inl ⟨t4, vs, t5⟩)), t4, t5, t6⟩ }

section
variable {M : Model} {A : Around} {E : Value → Shared → Prop} {s : Shared} {name qual : Str} {params : Arguments} {body : List Stmt} {scope : Scope} {env : Env} {c P : Addr} {ps : Array Value} {pos : Pos} {firstLine : Nat} {mg : Str → Option Value} {clos : List (Str × Addr)} {Q : Value → Shared → Prop}

/-- a function of one's own, made the first time: its code is new -/
theorem mk_miss {q : Str × Addr} {r : List (Str × Addr)} (hcl : closureFor scope env = pure (q :: r)) (hge0 : env.globals = mainGlobals) (hg : s.heap.Ns mainGlobals mg) (hcode : env.code = .ref c) (C : CodeHd s.heap c P) (hP : s.heap.get? P = some (tabObj ps)) (ht : TriplesOk ps.toList)
    (hnf : codeAmong pos ps.toList = none) (hgP : mainGlobals ≠ P) (hb : s.heap.BuiltinsAt mg P)
    (h : ∀ c' ctv doc h' tk, Heap.ExtBut P s.heap h' → s.heap.objs.size ≤ c' → c' < h'.objs.size → (∃ oc vs t, h'.get? c' = some oc ∧ oc.cls = .type "code" ∧ oc.data = .fields vs ∧ vs[1]? = some (.str qual t)) → h'.get? P = some (tabObj (ps ++ #[rawInt pos.line, rawInt pos.col, .ref c'])) →
      Q (.ref h'.objs.size) { s with heap := h'.push (fnMade name qual params body scope (q :: r) doc ((mg "__name__").getD .none) c' ctv), toks := tk }) :
    wpAny M A (makeFunction name qual params (.stmts body) scope env [] [] [] pos firstLine) Q E s := by
  obtain ⟨bm, ob, hbm, hne0, _, hneP, hbo, hcls, hdict, hdata⟩ := hb
  rw [makeFunction_eq]
  simp only [List.zip_nil_right, List.filterMap_nil, List.isEmpty_nil, if_true, pure_bind]
  unfold makeTail
  rw [hcl, hge0]
  refine wpAny_bind (wpAny_pure ?_)
  simp only [List.isEmpty_cons, Bool.false_eq_true, if_false]
  refine wpAny_bind (wpAny_newTextTuple ?_)
  refine wpAny_bind (wpAny_functionCodeX hcode ((C.keeps fun b o e => Heap.get?_push_of_some _ e).code (Heap.get?_push_of_some _ hP) ht) ((C.keeps fun b o e => Heap.get?_push_of_some _ e).tab (Heap.get?_push_of_some _ hP)) hnf fun c' h' tk hx hge hlt _ hrec htb hown => ?_)
  have hg' := (hg.push _).extBut hx hgP
  have hx' : Heap.ExtBut P s.heap h' := fun b o hb' e => hx b o hb' (Heap.get?_push_of_some _ e)
  have hge' : s.heap.objs.size ≤ c' := Nat.le_trans (by rw [Heap.size_push]; omega) hge
  have hown' : ∃ oc vs t, h'.get? c' = some oc ∧ oc.cls = .type "code" ∧ oc.data = .fields vs ∧ vs[1]? = some (.str qual t) := by
    obtain ⟨P', _, _, ⟨⟨o, vs, e1, e2, e3, _⟩, _⟩⟩ := hown
    obtain ⟨c₂, o₂, vs₂, t, e4, e5, e6, e7⟩ := hrec
    cases e4
    rw [e1] at e5; cases e5
    exact ⟨o, vs₂, t, e1, e2, e6, e7⟩
  refine wpAny_bind (wpAny_builtinsFor hg' hbm hne0 (hx' _ _ hneP hbo) hcls hdict hdata ?_)
  refine wpAny_bind (wpAny_nsGet hg' ?_)
  cases hdoc : docOf body with
  | none => exact wpAny_bind (wpAny_pure (wpAny_newObj_type (h c' _ .none h' tk hx' hge' hlt hown' htb.2) (by size_fits)))
  | some t => exact wpAny_bind (wpAny_mkText (wpAny_newObj_type (h c' _ _ h' _ hx' hge' hlt hown' htb.2) (by size_fits)))

theorem closureFor_eq (hc : ∀ x, (x, NameKind.free) ∈ scope.names → (env.cells.lookup x).isSome = true) : closureFor scope env = pure (closL env.cells scope.names []) := by
  unfold closureFor
  have key : ∀ (names : List (Str × NameKind)) (acc : List (Str × Addr)) (f : Str × NameKind → List (Str × Addr) → Sem (ForInStep (List (Str × Addr)))), (∀ x, (x, NameKind.free) ∈ names → (env.cells.lookup x).isSome = true) →
      (∀ n k cs, f (n, k) cs = if k == .free then (do let a ← cellOf env n; pure (.yield ((n, a) :: cs))) else pure (.yield cs)) → forIn names acc f = pure (closL env.cells names acc) := by
    intro names
    induction names with
    | nil => intro acc f _ _; rfl
    | cons p r ih =>
      intro acc f hc hf
      obtain ⟨x, k⟩ := p
      rw [List.forIn_cons, hf]
      unfold closL
      by_cases hk : (k == NameKind.free) = true
      · simp only [hk, if_true]
        have hk' : k = .free := beq_iff_eq.mp hk
        obtain ⟨c, hc'⟩ := Option.isSome_iff_exists.mp (hc x (hk' ▸ List.mem_cons_self))
        rw [hc']
        have e : cellOf env x = pure c := by unfold cellOf; rw [hc']
        rw [e]
        simp only [pure_bind]
        exact ih _ f (fun y hy => hc y (List.mem_cons_of_mem _ hy)) hf
      · simp only [hk, if_false, pure_bind]
        exact ih _ f (fun y hy => hc y (List.mem_cons_of_mem _ hy)) hf
  refine Eq.trans (congrArg (fun m => m >>= fun x => pure x) (key scope.names [] _ hc fun n k cs => ?_)) rfl
  cases hk : k == NameKind.free <;> simp [hk]
end

noncomputable def CRec (h : Heap) (c' : Addr) (qual : Str) : Prop := ∃ oc vs t, h.get? c' = some oc ∧ oc.cls = .type "code" ∧ oc.data = .fields vs ∧ vs[1]? = some (.str qual t)

section
variable {K : Cx} {n : Nat} {F : Fm} {P : Out → Prop}

theorem FrOK.toFn {f c' : Addr} {o : Obj} {qual : Str} {ho : o.cls = .type "function" ∧ ∃ fd, o.data = .func fd} {s : Shared} (h : FrOK K F s) (h1 : s.heap.get? f = some o) (h2 : CRec s.heap c' qual) : FrOK (K.fn f o c' qual ho) F s :=
  ⟨⟨h.ok.kind, h.ok.glob, h.ok.blt, h.ok.names, h.ok.locs, h.ok.gls, h.ok.tame, h.ok.apart, h.ok.modL, h.ok.WN, h.ok.TN, h.ok.NoN, h.ok.base, h.ok.owns⟩, ⟨h.inv.keep, h.inv.low, h.inv.bare, h.inv.tab, h1, h2⟩, h.ns, h.alloc⟩
theorem FrOK.ofFn {f c' : Addr} {o : Obj} {qual : Str} {ho : o.cls = .type "function" ∧ ∃ fd, o.data = .func fd} {s : Shared} (h : FrOK (K.fn f o c' qual ho) F s) : FrOK K F s :=
  ⟨⟨h.ok.kind, h.ok.glob, h.ok.blt, h.ok.names, h.ok.locs, h.ok.gls, h.ok.tame, h.ok.apart, h.ok.modL, h.ok.WN, h.ok.TN, h.ok.NoN, h.ok.base, h.ok.owns⟩, ⟨h.inv.keep, h.inv.low, h.inv.bare, h.inv.tab.1⟩, h.ns, h.alloc⟩
theorem Ext.ofFn {f c' : Addr} {o : Obj} {qual : Str} {ho : o.cls = .type "function" ∧ ∃ fd, o.data = .func fd} {W : Addr → Prop} {V : Nat → Prop} {s s' : Shared} (x : Ext (K.fn f o c' qual ho) W V s s') (hi : Inv (K.fn f o c' qual ho) s) : Ext K W V s s' :=
  ⟨x.heap, fun _ => let i := x.inv hi; ⟨i.keep, i.low, i.bare, i.tab.1⟩, x.size, x.gsize, x.gens, x.os⟩

/-- a function is made, and known from there on -/
theorem blk_def {name : Str} {params : Arguments} {body : List Stmt} {scope : Scope} {pos : Pos} {rest : List Stmt} {c T : Addr} {q : Str × Addr} {r : List (Str × Addr)} {qual : Str} (ρ' : Addr → List Var)
    (hdef : defaultsOf params F.env = ([], [])) (hann : annTrees params none F.env = []) (hq : qualnameIn F.env name name = qual) (hfree : ∀ x, (x, NameKind.free) ∈ scope.names → (F.env.cells.lookup x).isSome = true) (hcl : closL F.env.cells scope.names [] = q :: r)
    (hcode : F.env.code = .ref c) (hC : CodeHd K.g0 c T) (hB : K.g0.BuiltinsAt K.mg T) (hT : K.Tb T) (hgT : mainGlobals ≠ T)
    (htab : ∀ h, K.tab h → ∃ ps, h.get? T = some (tabObj ps) ∧ TriplesOk ps.toList ∧ (codeAmong pos ps.toList = none ∨ ∃ c', codeAmong pos ps.toList = some (.ref c') ∧ CRec h c' qual))
    (hstep : ∀ h h' ps c', K.tab h → Heap.ExtBut T h h' → h.get? T = some (tabObj ps) → codeAmong pos ps.toList = none → h'.get? T = some (tabObj (ps ++ #[rawInt pos.line, rawInt pos.col, .ref c'])) → CRec h' c' qual → K.tab h')
    (u : ∀ f, Upd name (.raw (.ref f)) F.ρ (ρ' f))
    (hr : ∀ f c' doc pm ctv ho, Blk (K.fn f { cls := .type "function", data := .func (fnX name qual params body scope (q :: r) .none .none doc pm none (.ref c') ctv) } c' qual ho) n (F.at (ρ' f)) rest P) :
    Blk K n F (.FunctionDef name params body [] none [] scope none name pos :: rest) P := fun R hF hQ => by
  rename_i A s Q E
  refine wpAny_execs_cons ?_
  rw [exec_def, hdef, hann, hq]
  refine wpAny_bind (wpAny_standAt (wpAny_bind (wpAny_holding ?_)))
  refine wpAny_bind (wpAny_pure (wpAny_bind (wpAny_holding (wpAny_pure (wpAny_holding (wpAny_bind (wpAny_pure ?_)))))))
  have hclE : closureFor scope F.env = pure (q :: r) := by rw [closureFor_eq hfree, hcl]
  have hg : s.heap.Ns mainGlobals K.mg := K.hg.keeps hF.inv.keep
  have hCs : CodeHd s.heap c T := hC.keeps hF.inv.keep
  have hBs : s.heap.BuiltinsAt K.mg T := by
    obtain ⟨bm, o, b1, b2, b3, b4, b5, b6⟩ := hB
    exact ⟨bm, o, b1, b2, b3, b4, hF.inv.keep _ _ b5, b6⟩
  obtain ⟨ps, t1, t2, t3⟩ := htab _ hF.inv.tab
  have go : ∀ (h' : Heap) (tk : Tok) (c' : Addr) (doc ctv : Value), Heap.ExtBut T s.heap h' → s.heap.objs.size ≤ h'.objs.size → K.tab h' → CRec h' c' qual →
      wpAny K.M A (do standAt pos; bindName F.env name (.ref h'.objs.size); pure Flow.next) (fun fl s' => match fl with | .next => wpAny K.M A (execs rest F.env) Q E s' | f => Q f s') E
        { s with heap := h'.push { cls := .type "function", data := .func (fnX name qual params body scope (q :: r) .none .none doc ((K.mg "__name__").getD .none) none (.ref c') ctv) }, toks := tk } := by
    intro h' tk c' doc ctv hx hz ht hcr
    generalize ho : ({ cls := .type "function", data := .func (fnX name qual params body scope (q :: r) .none .none doc ((K.mg "__name__").getD .none) none (.ref c') ctv) } : Obj) = o
    have hoo : o.cls = .type "function" ∧ ∃ fd, o.data = .func fd := by rw [← ho]; exact ⟨rfl, _, rfl⟩
    have hof : o.isFreed = false := by rw [← ho]; rfl
    have X : E0 K s { s with heap := h'.push o, toks := tk } := {
      heap := fun b o' _ hb e => Heap.get?_push_of_some _ (hx b o' (fun e' => hb (e' ▸ hT)) e)
      inv := fun i => ⟨fun b o' e => Heap.get?_push_of_some _ (hx b o' (fun e' => by rw [e', K.tbOut T hT] at e; cases e) (i.keep b o' e)), Nat.le_trans i.low (by show _ ≤ (h'.push o).objs.size; rw [Heap.size_push]; exact Nat.le_succ_of_le hz), i.bare, K.tabKeep _ _ (fun b o' e _ => Heap.get?_push_of_some _ e) ht⟩
      size := by show _ ≤ (h'.push o).objs.size; rw [Heap.size_push]; exact Nat.le_succ_of_le hz
      gsize := Nat.le_refl _
      gens := fun _ _ _ => rfl
      os := rfl }
    have hF1 := hF.ext0 X
    have hF2 : FrOK (K.fn h'.objs.size o c' qual hoo) F { s with heap := h'.push o, toks := tk } := hF1.toFn (Heap.get?_push_size _ hof) (by
      obtain ⟨oc, vs, t, e1, e2, e3, e4⟩ := hcr
      exact ⟨oc, vs, t, Heap.get?_push_of_some _ e1, e2, e3, e4⟩)
    refine wpAny_bind (wpAny_standAt (wpAny_bind (wpAny_bindName (store_var (K := K.fn h'.objs.size o c' qual hoo) hF2 (u h'.objs.size) (fun _ _ => nofun) (fun _ _ => rfl) fun s₂ x₂ hF₃ => wpAny_pure ?_))))
    subst ho
    refine hr h'.objs.size c' doc _ ctv hoo R hF₃ fun oo fl s₃ hp ho3 x₃ => hQ oo fl s₃ hp ?_ ((X.of0.trans (x₂.ofFn hF2.inv)).trans (x₃.ofFn hF₃.inv))
    cases oo with
    | next ρ => exact ⟨ho3.1, ho3.2.ofFn⟩
    | ret d => exact ho3
  rcases t3 with hnf | ⟨c', hf, hcr⟩
  · exact mk_miss hclE hF.ok.glob hg hcode hCs t1 t2 hnf hgT hBs fun c' ctv doc h' tk hx hge hlt hrec htb => go h' tk c' doc ctv hx (Nat.le_trans hge (Nat.le_of_lt hlt)) (hstep _ _ ps c' hF.inv.tab hx t1 hnf htb hrec) hrec
  · exact makeFunction_hit hclE hF.ok.glob hg hcode hCs t1 t2 hf hBs fun ctv doc h' tk hk hz => go h' tk c' doc ctv (fun b o _ e => hk b o e) hz (K.tabKeep _ _ (fun b o e _ => hk b o e) hF.inv.tab) (by
      obtain ⟨oc, vs, t, e1, e2, e3, e4⟩ := hcr
      exact ⟨oc, vs, t, hk _ _ e1, e2, e3, e4⟩)
end
end

/-! # part F39 -/
section
open PySem.Sem (wp)
theorem mapSeq_plain (f : Array Value → Array Value) (its : Array Value) (n : Nat) : ∃ m, Obj.mapSeq f { cls := .type "list", data := .seq its n } = { cls := .type "list", data := .seq (f its) m } := ⟨_, rfl⟩

theorem Reps.set {N : Addr → Prop} {h : Heap} {d : D} {v : Value} (r : Rep N h d v) : ∀ {ds : List D} {vs : List Value} (_ : Reps N h ds vs) (k : Nat), Reps N h (ds.set k d) (vs.set k v)
  | _, _, .nil, k => by simp; exact .nil
  | _, _, .cons a b, 0 => by simp only [List.set_cons_zero]; exact .cons r b
  | _, _, .cons a b, k + 1 => by simp only [List.set_cons_succ]; exact .cons a (Reps.set r b k)

theorem setItem_plain {prog : Program} {w : World} {A : Around} {E : Value → Shared → Prop} {s : Shared} {l : Addr} {items : Array Value} {k : Int} {t : Tok} {v : Value} {Q : Unit → Shared → Prop} (hl : s.heap.PlainList l items)
    (h0 : 0 ≤ k) (hfit : k < 2 ^ 63) (hn : k < items.size)
    (hQ : ∀ h', h'.PlainList l (items.setIfInBounds k.toNat v) → Heap.SameBut l s.heap h' → Q () { s with heap := h' }) :
    wpAny (model prog w) A (setItem (.ref l) (.int k t) v) Q E s := by
  obtain ⟨n0, ho⟩ := id hl
  have hl' := hl.isList
  unfold setItem
  try with_reducible refine wpAny_holding ?_
  first | refine wpAny_bind (wpAny_pure ?_) | skip
  refine wpAny_bind (wpAny_sequenceKey hl'.typeIs (by decide) ?_)
  refine wpAny_bind (wpAny_callSpecial?_slot (name := Str.ofString "__setitem__") hl'.typeIs slot_list_setitem
    (wpAny_call_entry slot_list_setitem hl'.typeIs entry_list_setitem ?_ (args_list_setitem _ _ _)))
  show wpAny _ _ (Builtin.List.listSubscript? (.int k t) >>= _) _ _ s
  refine wpAny_bind (wpAny_listSubscript_int (fitsIndex_of h0 hfit) ?_)
  clear hfit
  obtain ⟨j, rfl⟩ := Int.eq_ofNat_of_zero_le h0
  have hj : j < items.size := by omega
  have hx' : items[j]? = some items[j] := Array.getElem?_eq_getElem hj
  show wpAny _ _ ((seqItemAt l j >>= fun r => pure (r.map (j, ·))) >>= _) _ _ s
  refine wpAny_bind (wpAny_bind (wpAny_seqItemAt ho rfl (wpAny_pure ?_)))
  rw [hx']
  show wpAny _ _ (setSeqItemAt l j v >>= _) _ _ s
  obtain ⟨m, hm⟩ := mapSeq_plain (·.setIfInBounds j v) items n0
  have hfin : (s.heap.update l (Obj.mapSeq (·.setIfInBounds j v))).PlainList l (items.setIfInBounds j v) :=
    ⟨m, by rw [Heap.get?_update_self _ ho (by rw [hm]; rfl), hm]⟩
  refine wpAny_bind (wpAny_setSeqItemAt ho rfl ?_)
  first
    | exact wpAny_bind (wpAny_pure (wpAny_pure ⟨.none, rfl, wpAny_pure (hQ _ hfin (Heap.SameBut.update ..))⟩))
    | exact wpAny_pure ⟨.none, rfl, wpAny_pure (hQ _ hfin (Heap.SameBut.update ..))⟩

section
variable {K : Cx} {n : Nat} {F : Fm} {P : Out → Prop} {R2 : Flow → Shared → Prop}

theorem blkS_of {sts : List Stmt} (h : Blk K n F sts P) (hr : ∀ o f s, P o → OutOK K F o f s → R2 f s) : BlkS K n F sts R2 := fun R hF hQ => h R hF fun o f s' hp ho x => hQ f s' (hr o f s' hp ho) x
theorem blkS_if {t : Expr} {c : Bool} {b o rest : List Stmt} {pos : Pos} (ht : Tr K n F t c) (hb : c = true → BlkS K n F (b ++ rest) R2) (ho : c = false → BlkS K n F (o ++ rest) R2) :
    BlkS K n F (.If t b o pos :: rest) R2 := fun R hF hQ => by
  rw [execs_if]
  refine wpAny_bind (wpAny_standAt (wpAny_bind (ht R hF fun s₁ x₁ => ?_)))
  cases c with
  | true =>
    simp only [if_true]
    exact hb rfl R (hF.ext0 x₁) fun f s₂ hp x₂ => hQ f s₂ hp (x₁.of0.trans x₂)
  | false =>
    simp only [Bool.false_eq_true, if_false]
    exact ho rfl R (hF.ext0 x₁) fun f s₂ hp x₂ => hQ f s₂ hp (x₁.of0.trans x₂)
theorem blkS_retNone {pos : Pos} {rest : List Stmt} (hp : ∀ s, FrOK K F s → R2 (.ret .none) s) : BlkS K n F (.Return none pos :: rest) R2 := fun R hF hQ =>
  wpAny_execs_cons (wpAny_Return_none (hQ _ _ (hp _ hF) (Ext.refl _)))

theorem blkS_setitem {x : Str} {l : Loc} {a : Addr} {ds : List D} {d : D} {k : Int} {ρ' : List Var} {i value : Expr} {p p' pos : Pos} {rest : List Stmt} (hx : (⟨x, l, .own a ds⟩ : Var) ∈ F.ρ) (hi : Ev K n F i (.int k)) (hv : Ev K n F value d)
    (h0 : 0 ≤ k) (hk : k < ds.length) (hz : ds.length ≤ sizeLine) (u : UpdA x (.own a (ds.set k.toNat d)) F.ρ ρ') (hr : BlkS K n (F.at ρ') rest R2)
    (hs : swapsWith value (some (.Subscript (.Name x p) i p')) pos.line F.env = pure false) : BlkS K n F (.Assign [.Subscript (.Name x p) i p'] value pos :: rest) R2 := fun R hF hQ => by
  refine wpAny_execs_cons (wpAny_Assign_Subscript (hv R hF fun v s₁ x₁ r₁ => ?_) hs)
  have hF₁ := hF.ext0 x₁
  obtain ⟨_, ld⟩ := own_load hF₁ hx
  refine ld (hi R hF₁ fun iv s₂ x₂ r₂ => ?_)
  have hF₂ := hF₁.ext0 x₂
  obtain ⟨⟨its, hp, hri⟩, _⟩ := own_load hF₂ hx
  have hlen : its.size = ds.length := by rw [hri.length, Array.length_toList]
  cases r₂ with
  | int _ t =>
  refine setItem_plain hp h0 (by rw [sizeLine_eq] at hz; omega) (by rw [hlen]; exact hk) fun h' hp' hs' => ?_
  have X := own_at1 (tk := s₂.toks) hF₂ hx hp hs'
  have hNa := hF.ok.WN _ (hF.ok.owns _ hx a ds rfl).1
  have hF₃ := hF₂.chg hx u X hp' (by rw [Array.toList_setIfInBounds]; exact Reps.set ((r₁.ext0 x₂ hF.ok).ext X (fun b q => q ▸ hNa) hF.ok.TN) (Reps.own hF₂ hNa X hri) _)
  exact hr R hF₃ fun f s₃ hp3 x₃ => hQ f s₃ hp3 (((x₁.of0.trans x₂.of0).trans (own_ext hF₂ hx X)).trans x₃)

/-- what the frame's names hold, for a closure -/
theorem FrOK.fvOK {s : Shared} (hF : FrOK K F s) {cl : List (Str × Addr)} {W0 : Addr → Prop} {fv : List (Str × Addr × En)} (h : ∀ p ∈ fv, cl.lookup p.1 = some p.2.1 ∧ ((⟨p.1, .cell p.2.1, p.2.2⟩ : Var) ∈ F.ρ ∨ (⟨p.1, .free p.2.1, p.2.2⟩ : Var) ∈ F.ρ))
    (hW : ∀ p ∈ fv, ∀ a ds, p.2.2 = .own a ds → W0 a) : FvOK K F.N W0 cl s fv where
  look := fun p hp => (h p hp).1
  cell := fun p hp => by
    obtain ⟨m, hn, hv⟩ := hF.ns
    rcases (h p hp).2 with hm | hm
    · have hl := hF.ok.locs _ hm
      have := hv _ hm
      exact ⟨(hF.ok.base _ hl.2.2.1).2, this⟩
    · have hl := hF.ok.locs _ hm
      have := hv _ hm
      exact ⟨hl.2.2.1, this⟩
  own := fun p hp a ds e => ⟨hW p hp a ds e, fun q hq ds' e' => by
    have key : ∀ r ∈ fv, ∀ ds, r.2.2 = .own a ds → ∃ v ∈ F.ρ, v.x = r.1 ∧ v.en = .own a ds := fun r hr ds e => by
      rcases (h r hr).2 with hm | hm
      · exact ⟨_, hm, rfl, e⟩
      · exact ⟨_, hm, rfl, e⟩
    obtain ⟨v, hv, e1, e2⟩ := key p hp ds e
    obtain ⟨v', hv', e3, e4⟩ := key q hq ds' e'
    rw [← e1, ← e3]
    exact (hF.ok.owns v hv a ds e2).2 v' hv' ds' e4⟩

theorem FrOK.fnInOwn {s : Shared} (hF : FrOK K F s) {a : Addr} (hWa : F.W a) : FnIn K F.N (· = a) s :=
  ⟨hF.inv, hF.ok.TN, hF.alloc, fun b q => q ▸ hF.ok.WN a hWa, fun b q => q ▸ hF.ok.base a hWa⟩

/-- a function of one's own, known by the ground -/
noncomputable def OwnFn (K : Cx) (f : Addr) (cl : List (Str × Addr)) (scope : Scope) (body : List Stmt) (names : List Str) : Prop :=
  ∃ o fd, (∀ h, K.tab h → h.get? f = some o ∧ h.CodeRec fd.code fd.qualname) ∧ o.data = .func fd ∧ fd.scope = scope ∧ fd.globals = mainGlobals ∧ fd.builtins = builtinsNs ∧ fd.closure = cl ∧ fd.body = .stmts body ∧
    ∀ vs : List Value, vs.length = names.length → bindArgs fd ⟨vs, []⟩ = pure (names.zip vs)

/-- a call of a name that holds a function of one's own -/
theorem call_own {f : Addr} {cl : List (Str × Addr)} {scope : Scope} {body : List Stmt} {names : List Str} {x : Str} {l : Loc} {p cpos : Pos} {es : List Expr} {ds : List D} {A : Around} {s : Shared} {Q : Value → Shared → Prop} {E : Value → Shared → Prop}
    (hf : OwnFn K f cl scope body names) (hx : (⟨x, l, .raw (.ref f)⟩ : Var) ∈ F.ρ) (ha : Evs K n F es ds) (R : Room A n) (hF : FrOK K F s)
    (h : ∀ vs s₁, E0 K s s₁ → FrOK K F s₁ → Reps F.N s₁.heap ds vs → wpAny K.M A (call (.ref f) vs) Q E s₁) : wpAny K.M A (eval (.Call (.Name x p) es [] cpos) F.env) Q E s := by
  obtain ⟨o, fd, h1, h2, _⟩ := hf
  refine Call_ (wpAny_Name (load_var hF hx (fun u hu => hu) ?_) (hF.ok.tame _ hx).1)
  exact Calls.callWith_function (o := o) (fd := fd) (evalArgs_run ha R hF fun vs s₁ x₁ r₁ => ⟨⟨(h1 _ (hF.ext0 x₁).inv.tab).1, h2⟩, h vs s₁ x₁ (hF.ext0 x₁) r₁⟩)
end

/-! ## inner of _int2digits -/
noncomputable def innSt (i j : Nat) : Stmt := (bodyA i).getD j (.Pass ⟨0, 0, 0, 0⟩)
noncomputable def innBody (i j : Nat) : List Stmt := match innSt i j with
  | .FunctionDef _ _ b _ _ _ _ _ _ _ => b
  | _ => []
noncomputable def innScope (i j : Nat) : Scope := match innSt i j with
  | .FunctionDef _ _ _ _ _ _ s _ _ _ => s
  | _ => default
noncomputable def innPar (i j : Nat) : Arguments := match innSt i j with
  | .FunctionDef _ a _ _ _ _ _ _ _ _ => a
  | _ => { posonlyargs := [], args := [], vararg := none, kwonlyargs := [], kw_defaults := [], kwarg := none, defaults := [] }

noncomputable def fvA (ca ci cn a f : Addr) (ds : List D) (w : Nat) : List (Str × Addr × En) := [("a_digits", ca, .own a ds), ("inner", ci, .raw (.ref f)), ("n", cn, .val (.int w))]

noncomputable def InnA (K : Cx) (f a ca ci cn : Addr) (cl : List (Str × Addr)) (w k : Nat) : Prop :=
  ∀ {N0 : Addr → Prop} {A : Around} {s : Shared} {Q : Value → Shared → Prop} {E : Value → Shared → Prop} {vs : List Value} {x L R : Nat} {ds : List D}, L < R → R - L ≤ k → R ≤ ds.length → ds.length ≤ 1000 → x < 2 ^ (w * (R - L)) →
    Room A k → FnIn K N0 (· = a) s → FvOK K N0 (· = a) cl s (fvA ca ci cn a f ds w) → Reps N0 s.heap [.int x, .int L, .int R] vs →
    (∀ s' its, Ext K (· = a) no s s' → s'.heap.PlainList a its → Reps N0 s'.heap (putD ds L R w x) its.toList → Q .none s') → wpAny K.M A (call (.ref f) vs) Q E s

section
variable {K : Cx} {n : Nat} {F : Fm} {P : Out → Prop} {R2 : Flow → Shared → Prop}

theorem blk_innA {f a ca ci cn : Addr} {cl : List (Str × Addr)} {scope : Scope} {body : List Stmt} {names : List Str} {w k : Nat} {x L R : Nat} {ds : List D} {l : Loc} {ρ' : List Var} {p cpos pos : Pos} {es : List Expr} {rest : List Stmt}
    (hI : InnA K f a ca ci cn cl w k) (hf : OwnFn K f cl scope body names) (hkn : k ≤ n)
    (hfv : ∀ p ∈ fvA ca ci cn a f ds w, cl.lookup p.1 = some p.2.1 ∧ ((⟨p.1, .cell p.2.1, p.2.2⟩ : Var) ∈ F.ρ ∨ (⟨p.1, .free p.2.1, p.2.2⟩ : Var) ∈ F.ρ))
    (hin : (⟨"inner", l, .raw (.ref f)⟩ : Var) ∈ F.ρ) {l2 : Loc} (had : (⟨"a_digits", l2, .own a ds⟩ : Var) ∈ F.ρ) (h1 : L < R) (h2 : R - L ≤ k) (h3 : R ≤ ds.length) (h4 : ds.length ≤ 1000) (h5 : x < 2 ^ (w * (R - L)))
    (ha : Evs K n F es [.int x, .int L, .int R]) (u : UpdA "a_digits" (.own a (putD ds L R w x)) F.ρ ρ') (hr : Blk K n (F.at ρ') rest P)
    (hi : interactive F.env = false) (hsw : swapsWith (.Call (.Name "inner" p) es [] cpos) none pos.line F.env = pure false) : Blk K n F (.Expr (.Call (.Name "inner" p) es [] cpos) pos :: rest) P := fun Rm hF hQ => by
  refine wpAny_execs_cons (wpAny_Expr_any ?_ hi hsw)
  have hWa := (hF.ok.owns _ had a ds rfl).1
  refine call_own hf hin ha Rm hF fun vs s₁ x₁ hF₁ r₁ => ?_
  refine hI h1 h2 h3 h4 h5 (Rm.mono hkn) (hF₁.fnInOwn hWa) (hF₁.fvOK hfv fun p hp b es' e => ?_) r₁ fun s₂ its X hp hri => ?_
  · simp only [fvA, List.mem_cons, List.not_mem_nil, or_false] at hp
    rcases hp with rfl | rfl | rfl
    · injection e with e1 e2; exact e1.symm
    · cases e
    · cases e
  · have hF₂ := hF₁.chg had u X hp hri
    exact hr Rm hF₂ fun o f s₃ hp3 ho x₃ => hQ o f s₃ hp3 ho ((x₁.of0.trans (own_ext hF₁ had X)).trans x₃)
end

noncomputable def iA (ca ci cn a f : Addr) (w x L R : Nat) (ds : List D) (mid shift upper lower : En) : List Var :=
  [⟨"x", .loc, .val (.int x)⟩, ⟨"L", .loc, .val (.int L)⟩, ⟨"R", .loc, .val (.int R)⟩, ⟨"mid", .loc, mid⟩, ⟨"shift", .loc, shift⟩, ⟨"upper", .loc, upper⟩, ⟨"lower", .loc, lower⟩,
    ⟨"a_digits", .free ca, .own a ds⟩, ⟨"inner", .free ci, .raw (.ref f)⟩, ⟨"n", .free cn, .val (.int w)⟩]

section
variable {K : Cx} {n : Nat} {F : Fm} {P : Out → Prop} {R2 : Flow → Shared → Prop}
theorem blk_assignE {x : Str} {p pos : Pos} {value : Expr} {rest : List Stmt} (d : D) (ρ' : List Var) (hv : Ev K n F value d) (u : Upd x (.val d) F.ρ ρ') (hr : Blk K n (F.at ρ') rest P)
    (hs : swapsWith value (some (.Name x p)) pos.line F.env = pure false) : Blk K n F (.Assign [.Name x p] value pos :: rest) P := blk_assign hv u hr hs

theorem mid2 {L R : Nat} : ((L : Int) + (R : Int)).fdiv (2 ^ (1 : Int).toNat) = (((L + R) / 2 : Nat) : Int) := by
  have := fdiv_pow (L + R) 1
  rw [Int.natCast_add] at this
  exact this

set_option maxHeartbeats 2000000 in
theorem innA_body {f a ca ci cn : Addr} {cl : List (Str × Addr)} {w k : Nat} (hI : InnA K f a ca ci cn cl w k) (hf : OwnFn K f cl (innScope 4 1) (innBody 4 1) ["x", "L", "R"]) (hcl : cl.lookup ("a_digits" : Str) = some ca ∧ cl.lookup ("inner" : Str) = some ci ∧ cl.lookup ("n" : Str) = some cn)
    {N0 : Addr → Prop} {L0 : Addr} {qual : Str} {code : Value} {x L R : Nat} {ds : List D} (hLR : L < R) (hk : R - L ≤ k + 1) (hR : R ≤ ds.length) (hz : ds.length ≤ 1000) (hx : x < 2 ^ (w * (R - L))) (hw : w ≤ 10000) :
    BlkS K k (fFm (fEnv (innScope 4 1) L0 cl qual f code) N0 (· = a) (iA ca ci cn a f w x L R ds .un .un .un .un) []) (innBody 4 1)
      (fun fl s' => (fl = .ret .none ∨ fl = .next) ∧ ∃ its, s'.heap.PlainList a its ∧ Reps N0 s'.heap (putD ds L R w x) its.toList) := by
  have low : ∀ {ρ : List Var} {es : List D} {s : Shared} {l : Loc}, (⟨"a_digits", l, .own a es⟩ : Var) ∈ ρ → FrOK K (fFm (fEnv (innScope 4 1) L0 cl qual f code) N0 (· = a) ρ []) s → ∃ its, s.heap.PlainList a its ∧ Reps N0 s.heap es its.toList := fun hm hF => by
    obtain ⟨⟨its, hp, hr⟩, _⟩ := own_load hF hm
    exact ⟨its, hp, Reps.keep (fun b _ q => .inl q) (fun _ _ _ e => e) hr⟩
  apply blkS_if
  · trivial
  · intro hc
    have e : R = L + 1 := by
      have : (L : Int) + 1 = R := by simpa using hc
      omega
    subst e
    rw [show L + 1 - L = 1 by omega, Nat.mul_one] at hx
    apply blkS_setitem (a := a) (ds := ds) (d := .int x) (k := (L : Int)) (ρ' := iA ca ci cn a f w x L (L + 1) (ds.set L (.int x)) .un .un .un .un)
    · trivial
    · trivial
    · trivial
    · omega
    · omega
    · rw [sizeLine_eq]; omega
    · rw [Int.toNat_natCast]
      trivial
    · apply blkS_retNone
      intro s hF
      refine ⟨.inl rfl, ?_⟩
      rw [← putD_leaf (by omega) hx]
      exact low (l := .free ca) (by trivial) hF
    · rfl
  · intro hc
    have hne : L + 1 < R := by
      have : ¬ ((L : Int) + 1 = R) := by simpa using hc
      omega
    generalize hm : (L + R) / 2 = m
    have m1 : L < m := by omega
    have m2 : m < R := by omega
    generalize hs : w * (m - L) = s
    have hx2 : x / 2 ^ s < 2 ^ (w * (R - m)) := by
      apply Nat.div_lt_of_lt_mul
      rw [← Nat.pow_add, ← hs, ← Nat.mul_add, show m - L + (R - m) = R - L by omega]
      exact hx
    have hx1 : x % 2 ^ s < 2 ^ (w * (m - L)) := by rw [hs]; exact Nat.mod_lt _ (Nat.two_pow_pos s)
    have hsb : s ≤ 10000000 := by
      rw [← hs]
      exact Nat.le_trans (Nat.mul_le_mul hw (show m - L ≤ 1000 by omega)) (by decide)
    have hub : w * (R - m) ≤ 10000000 := Nat.le_trans (Nat.mul_le_mul hw (show R - m ≤ 1000 by omega)) (by decide)
    apply blkS_of (P := fun o => o = .next (iA ca ci cn a f w x L R (putD ds L R w x) (.val (.int m)) (.val (.int s)) (.val (.int (x / 2 ^ s : Nat))) (.val (.int (x % 2 ^ s : Nat)))))
    rotate_left
    · rintro o fl s' rfl ⟨rfl, hF⟩
      exact ⟨.inr rfl, low (l := .free ca) (by trivial) hF⟩
    apply blk_assignE (.int m) (iA ca ci cn a f w x L R ds (.val (.int m)) .un .un .un)
    · apply Ev.eq
      · apply ev_bin
        · trivial
        · trivial
        · apply b_shr
          decide
      · rw [mid2, hm]
    · trivial
    · apply blk_assignE (.int s) (iA ca ci cn a f w x L R ds (.val (.int m)) (.val (.int s)) .un .un)
      · apply Ev.eq
        · apply ev_bin
          · trivial
          · trivial
          · apply b_mul
            apply IntMulOk.of_right
            exact Nat.le_trans (bits_le (k := 14) (by rw [Int.natAbs_natCast]; omega)) (by decide)
        · rw [show ((m : Int) - L) = ((m - L : Nat) : Int) by omega, ← Int.natCast_mul, Nat.mul_comm, hs]
      · trivial
      · apply blk_assignE (.int (x / 2 ^ s : Nat)) (iA ca ci cn a f w x L R ds (.val (.int m)) (.val (.int s)) (.val (.int (x / 2 ^ s : Nat))) .un)
        · apply Ev.eq
          · apply ev_bin
            · trivial
            · trivial
            · apply b_shr
              exact Int.natCast_nonneg _
          · rw [Int.toNat_natCast, fdiv_pow]
        · trivial
        · apply blk_assignE (.int (x % 2 ^ s : Nat)) (iA ca ci cn a f w x L R ds (.val (.int m)) (.val (.int s)) (.val (.int (x / 2 ^ s : Nat))) (.val (.int (x % 2 ^ s : Nat))))
          · apply Ev.eq
            · apply ev_bin
              · trivial
              · apply ev_bin
                · trivial
                · trivial
                · apply b_shl
                  · exact Int.natCast_nonneg _
                  · have := bits_le (x := ((x / 2 ^ s : Nat) : Int)) (k := w * (R - m)) (by rw [Int.natAbs_natCast]; exact hx2)
                    omega
              · apply b_xor
            · rw [Int.toNat_natCast]
              have := xor_low x s
              rw [← this]
              congr 2
          · trivial
          · apply blk_innA (x := x % 2 ^ s) (L := L) (R := m) (ds := ds) (ρ' := iA ca ci cn a f w x L R (putD ds L m w (x % 2 ^ s)) (.val (.int m)) (.val (.int s)) (.val (.int (x / 2 ^ s : Nat))) (.val (.int (x % 2 ^ s : Nat)))) hI hf (Nat.le_refl _)
            · intro p hp
              simp only [fvA, List.mem_cons, List.not_mem_nil, or_false] at hp
              rcases hp with rfl | rfl | rfl
              · exact ⟨hcl.1, .inr (by trivial)⟩
              · exact ⟨hcl.2.1, .inr (by trivial)⟩
              · exact ⟨hcl.2.2, .inr (by trivial)⟩
            · trivial
            · trivial
            · exact m1
            · omega
            · omega
            · exact hz
            · exact hx1
            · trivial
            · trivial
            · apply blk_innA (x := x / 2 ^ s) (L := m) (R := R) (ds := putD ds L m w (x % 2 ^ s)) (ρ' := iA ca ci cn a f w x L R (putD ds L R w x) (.val (.int m)) (.val (.int s)) (.val (.int (x / 2 ^ s : Nat))) (.val (.int (x % 2 ^ s : Nat)))) hI hf (Nat.le_refl _)
              · intro p hp
                simp only [fvA, List.mem_cons, List.not_mem_nil, or_false] at hp
                rcases hp with rfl | rfl | rfl
                · exact ⟨hcl.1, .inr (by trivial)⟩
                · exact ⟨hcl.2.1, .inr (by trivial)⟩
                · exact ⟨hcl.2.2, .inr (by trivial)⟩
              · trivial
              · trivial
              · exact m2
              · omega
              · rw [putD_length (Nat.le_of_lt m1) (by omega)]; exact hR
              · rw [putD_length (Nat.le_of_lt m1) (by omega)]; exact hz
              · exact hx2
              · trivial
              · have e := putD_step (ds := ds) (w := w) (x := x) m1 m2 hR
                rw [hs] at e
                rw [e]
                trivial
              · apply blk_nil
                rfl
              · rfl
              · rfl
            · rfl
            · rfl
          · rfl
        · rfl
      · rfl
    · rfl

theorem innA_spec {f a ca ci cn : Addr} {cl : List (Str × Addr)} {w : Nat} (hf : OwnFn K f cl (innScope 4 1) (innBody 4 1) ["x", "L", "R"]) (hcl : cl.lookup ("a_digits" : Str) = some ca ∧ cl.lookup ("inner" : Str) = some ci ∧ cl.lookup ("n" : Str) = some cn) (hw : w ≤ 10000) :
    ∀ k, InnA K f a ca ci cn cl w k := by
  intro k
  induction k with
  | zero =>
    intro N0 A s Q E vs x L R ds h1 h2
    omega
  | succ k ih =>
    intro N0 A s Q E vs x L R ds h1 h2 h3 h4 h5 Rm hI hfv hr hQ
    obtain ⟨o, fd, t1, t2, t3, t4, t5, t6, t7, t8⟩ := id hf
    obtain ⟨t9, t10⟩ := t1 _ hI.inv.tab
    have hl := hr.length
    refine fn_runS (cl := cl) (sh := ⟨["x", "L", "R", "mid", "shift", "upper", "lower"], [], fvA ca ci cn a f ds w⟩) (fvn := ["a_digits", "inner", "n"]) (gl := []) (ds := [.int x, .int L, .int R]) (ws := vs) (names := ["x", "L", "R"])
      (ρ0 := fun _ => iA ca ci cn a f w x L R ds .un .un .un .un) (W0 := (· = a)) t9 t2 t3 t4 t5 t6 t7 rfl t10 rfl rfl
      (fun A Q E hq => by rw [t8 vs hl.symm]; exact wpAny_pure hq) Rm hI (show compOk (innScope 4 1) ["x", "L", "R", "mid", "shift", "upper", "lower"] [] ["a_digits", "inner", "n"] [] = true by decide +kernel) rfl hfv hr hl (fun L' => ?_) (fun L' => innA_body ih hf hcl h1 h2 h3 h4 h5 hw) fun fl s' L' hp X => ?_
    · exact .cons (.here nofun) (.cons (.there (.here nofun)) (.cons (.there (.there (.here nofun))) .nil))
    · obtain ⟨e1, its, hp, hri⟩ := hp
      rcases e1 with rfl | rfl
      · exact hQ s' its X hp hri
      · exact hQ s' its X hp hri
end
end

/-! # part F40 -/
section
open PySem.Sem (wp)
/-! ## inner of _digits2int -/
noncomputable def intsD (xs : List Nat) : List D := xs.map fun (i : Nat) => D.int i
noncomputable def fvB (cd ci cn f : Addr) (xs : List Nat) (w : Nat) : List (Str × Addr × En) := [("digits", cd, .val (.list (intsD xs))), ("inner", ci, .raw (.ref f)), ("n", cn, .val (.int w))]

noncomputable def InnB (K : Cx) (f cd ci cn : Addr) (cl : List (Str × Addr)) (xs : List Nat) (w k : Nat) : Prop :=
  ∀ {N0 : Addr → Prop} {A : Around} {s : Shared} {Q : Value → Shared → Prop} {E : Value → Shared → Prop} {vs : List Value} {L R : Nat}, L < R → R - L ≤ k → R ≤ xs.length →
    Room A k → FnIn K N0 no s → FvOK K N0 no cl s (fvB cd ci cn f xs w) → Reps N0 s.heap [.int L, .int R] vs →
    (∀ v s', E0 K s s' → Rep N0 s'.heap (.int (valN w (segN xs L R) : Nat)) v → Q v s') → wpAny K.M A (call (.ref f) vs) Q E s

noncomputable def iB (cd ci cn f : Addr) (w L R : Nat) (xs : List Nat) (mid shift : En) : List Var :=
  [⟨"L", .loc, .val (.int L)⟩, ⟨"R", .loc, .val (.int R)⟩, ⟨"mid", .loc, mid⟩, ⟨"shift", .loc, shift⟩,
    ⟨"digits", .free cd, .val (.list (intsD xs))⟩, ⟨"inner", .free ci, .raw (.ref f)⟩, ⟨"n", .free cn, .val (.int w)⟩]

theorem intsD_get {xs : List Nat} {i d : Nat} (h : xs[i]? = some d) : (intsD xs)[i]? = some (.int d) := by
  unfold intsD; rw [List.getElem?_map, h]; rfl

section
variable {K : Cx} {n : Nat} {F : Fm} {P : Out → Prop} {R2 : Flow → Shared → Prop}

theorem ev_innB {f cd ci cn : Addr} {cl : List (Str × Addr)} {scope : Scope} {body : List Stmt} {names : List Str} {w k : Nat} {L R : Nat} {xs : List Nat} {l : Loc} {p cpos : Pos} {es : List Expr}
    (hI : InnB K f cd ci cn cl xs w k) (hf : OwnFn K f cl scope body names) (hkn : k ≤ n)
    (hfv : ∀ p ∈ fvB cd ci cn f xs w, cl.lookup p.1 = some p.2.1 ∧ ((⟨p.1, .cell p.2.1, p.2.2⟩ : Var) ∈ F.ρ ∨ (⟨p.1, .free p.2.1, p.2.2⟩ : Var) ∈ F.ρ))
    (hin : (⟨"inner", l, .raw (.ref f)⟩ : Var) ∈ F.ρ) (h1 : L < R) (h2 : R - L ≤ k) (h3 : R ≤ xs.length)
    (ha : Evs K n F es [.int L, .int R]) : Ev K n F (.Call (.Name "inner" p) es [] cpos) (.int (valN w (segN xs L R) : Nat)) := fun Rm hF hQ => by
  refine call_own hf hin ha Rm hF fun vs s₁ x₁ hF₁ r₁ => ?_
  refine hI h1 h2 h3 (Rm.mono hkn) hF₁.fnIn (hF₁.fvOK hfv fun p hp b es' e => ?_) r₁ fun v s₂ X hr => hQ v s₂ (x₁.trans X) hr
  simp only [fvB, List.mem_cons, List.not_mem_nil, or_false] at hp
  rcases hp with rfl | rfl | rfl <;> cases e

theorem ev_itemE {v i : Expr} {pos : Pos} (ds : List D) (k : Int) (d : D) (hv : Ev K n F v (.list ds)) (hi : Ev K n F i (.int k)) (h0 : 0 ≤ k) (hx : ds[k.toNat]? = some d) (hz : k < 2 ^ 63)
    (hs : ∀ (a : Addr) u, subscripted i false (.ref a) (.int k u) = operate [.ref a, .int k u] (getItem (.ref a) (.int k u))) : Ev K n F (.Subscript v i pos) d := ev_item hv hi h0 hx hz hs

set_option maxHeartbeats 2000000 in
theorem innB_body {f cd ci cn : Addr} {cl : List (Str × Addr)} {w k : Nat} {xs : List Nat} (hI : InnB K f cd ci cn cl xs w k) (hf : OwnFn K f cl (innScope 5 0) (innBody 5 0) ["L", "R"]) (hcl : cl.lookup ("digits" : Str) = some cd ∧ cl.lookup ("inner" : Str) = some ci ∧ cl.lookup ("n" : Str) = some cn)
    {N0 : Addr → Prop} {L0 : Addr} {qual : Str} {code : Value} {L R : Nat} (hLR : L < R) (hk : R - L ≤ k + 1) (hR : R ≤ xs.length) (hz : xs.length ≤ 1000) (hx : ∀ d ∈ xs, d < 2 ^ w) (hw : w ≤ 10000) :
    Blk K k (fFm (fEnv (innScope 5 0) L0 cl qual f code) N0 no (iB cd ci cn f w L R xs .un .un) []) (innBody 5 0) (fun o => o = .ret (.int (valN w (segN xs L R) : Nat))) := by
  apply blk_if
  · trivial
  · intro hc
    have e : R = L + 1 := by
      have : (L : Int) + 1 = R := by simpa using hc
      omega
    subst e
    have hg : xs[L]? = some xs[L] := List.getElem?_eq_getElem (by omega)
    apply blk_ret
    · apply ev_itemE (intsD xs) (L : Int) (.int xs[L])
      · trivial
      · trivial
      · omega
      · rw [Int.toNat_natCast]
        exact intsD_get hg
      · omega
      · intro _ _
        with_unfolding_all rfl
    · rw [segN_one hg]
      simp [valN]
  · intro hc
    have hne : L + 1 < R := by
      have : ¬ ((L : Int) + 1 = R) := by simpa using hc
      omega
    generalize hm : (L + R) / 2 = m
    have m1 : L < m := by omega
    have m2 : m < R := by omega
    generalize hs : w * (m - L) = s
    have hsb : s ≤ 10000000 := by
      rw [← hs]
      exact Nat.le_trans (Nat.mul_le_mul hw (show m - L ≤ 1000 by omega)) (by decide)
    have hub : w * (R - m) ≤ 10000000 := Nat.le_trans (Nat.mul_le_mul hw (show R - m ≤ 1000 by omega)) (by decide)
    have hv : valN w (segN xs m R) < 2 ^ (w * (R - m)) := by
      have := valN_lt w (segN xs m R) fun d hd => hx d (segN_mem hd)
      rw [segN_length hR] at this
      exact this
    have hfv : ∀ {mid shift : En}, ∀ p ∈ fvB cd ci cn f xs w, cl.lookup p.1 = some p.2.1 ∧ ((⟨p.1, .cell p.2.1, p.2.2⟩ : Var) ∈ iB cd ci cn f w L R xs mid shift ∨ (⟨p.1, .free p.2.1, p.2.2⟩ : Var) ∈ iB cd ci cn f w L R xs mid shift) := by
      intro mid shift p hp
      simp only [fvB, List.mem_cons, List.not_mem_nil, or_false] at hp
      rcases hp with rfl | rfl | rfl
      · exact ⟨hcl.1, .inr (by trivial)⟩
      · exact ⟨hcl.2.1, .inr (by trivial)⟩
      · exact ⟨hcl.2.2, .inr (by trivial)⟩
    apply blk_assignE (.int m) (iB cd ci cn f w L R xs (.val (.int m)) .un)
    · apply Ev.eq
      · apply ev_bin
        · trivial
        · trivial
        · apply b_shr
          decide
      · rw [mid2, hm]
    · trivial
    · apply blk_assignE (.int s) (iB cd ci cn f w L R xs (.val (.int m)) (.val (.int s)))
      · apply Ev.eq
        · apply ev_bin
          · trivial
          · trivial
          · apply b_mul
            apply IntMulOk.of_right
            exact Nat.le_trans (bits_le (k := 14) (by rw [Int.natAbs_natCast]; omega)) (by decide)
        · rw [show ((m : Int) - L) = ((m - L : Nat) : Int) by omega, ← Int.natCast_mul, Nat.mul_comm, hs]
      · trivial
      · apply blk_ret
        · apply ev_bin
          · apply ev_bin
            · apply ev_innB (L := m) (R := R) hI hf (Nat.le_refl _) hfv
              · trivial
              · exact m2
              · omega
              · exact hR
              · trivial
            · trivial
            · apply b_shl
              · exact Int.natCast_nonneg _
              · have := bits_le (x := ((valN w (segN xs m R) : Nat) : Int)) (k := w * (R - m)) (by rw [Int.natAbs_natCast]; exact hv)
                omega
          · apply ev_innB (L := L) (R := m) hI hf (Nat.le_refl _) hfv
            · trivial
            · exact m1
            · omega
            · omega
            · trivial
          · apply b_add
        · rw [Int.toNat_natCast, segN_split (Nat.le_of_lt m1) (Nat.le_of_lt m2), valN_app, segN_length (by omega), hs]
          congr 2
          rw [Int.natCast_add, Int.natCast_mul, Int.natCast_pow, Int.mul_comm]
          exact Int.add_comm _ _
      · rfl
    · rfl

theorem innB_spec {f cd ci cn : Addr} {cl : List (Str × Addr)} {w : Nat} {xs : List Nat} (hf : OwnFn K f cl (innScope 5 0) (innBody 5 0) ["L", "R"]) (hcl : cl.lookup ("digits" : Str) = some cd ∧ cl.lookup ("inner" : Str) = some ci ∧ cl.lookup ("n" : Str) = some cn)
    (hz : xs.length ≤ 1000) (hx : ∀ d ∈ xs, d < 2 ^ w) (hw : w ≤ 10000) : ∀ k, InnB K f cd ci cn cl xs w k := by
  intro k
  induction k with
  | zero =>
    intro N0 A s Q E vs L R h1 h2
    omega
  | succ k ih =>
    intro N0 A s Q E vs L R h1 h2 h3 Rm hI hfv hr hQ
    obtain ⟨o, fd, t1, t2, t3, t4, t5, t6, t7, t8⟩ := id hf
    obtain ⟨t9, t10⟩ := t1 _ hI.inv.tab
    have hl := hr.length
    refine fn_run (P := fun o => o = .ret (.int (valN w (segN xs L R) : Nat))) (cl := cl) (sh := ⟨["L", "R", "mid", "shift"], [], fvB cd ci cn f xs w⟩) (fvn := ["digits", "inner", "n"]) (gl := []) (ds := [.int L, .int R]) (ws := vs) (names := ["L", "R"])
      (ρ0 := fun _ => iB cd ci cn f w L R xs .un .un) (W0 := no) t9 t2 t3 t4 t5 t6 t7 rfl t10 rfl rfl
      (fun A Q E hq => by rw [t8 vs hl.symm]; exact wpAny_pure hq) Rm hI (show compOk (innScope 5 0) ["L", "R", "mid", "shift"] [] ["digits", "inner", "n"] [] = true by decide +kernel) rfl hfv hr hl (fun L' => ?_) (fun L' qual => innB_body ih hf hcl h1 h2 h3 hz hx hw) fun out fl s' L' qual hp ho X => ?_
    · exact .cons (.here nofun) (.cons (.there (.here nofun)) .nil)
    · subst hp
      obtain ⟨v, rfl, r⟩ := ho
      exact hQ v s' X r
end
end

/-! # part F41 -/
section
open PySem.Sem (wp)
structure FnObjC (K : Cx) (f : Addr) (scope : Scope) (body : List Stmt) (names : List Str) (dv : List Value) (c : Addr) (qn : Str) : Prop where
  ex : ∃ o fd, K.g0.get? f = some o ∧ o.data = .func fd ∧ fd.scope = scope ∧ fd.globals = mainGlobals ∧ fd.builtins = builtinsNs ∧ fd.closure = [] ∧ fd.body = .stmts body ∧ K.g0.CodeRec fd.code fd.qualname ∧ fd.code = .ref c ∧ fd.qualname = qn ∧
    ∀ (vs : List Value) (A : Around) (Q : List (Str × Value) → Shared → Prop) (E : Value → Shared → Prop) (s : Shared), vs.length + dv.length = names.length → Inv K s → Q (names.zip (vs ++ dv)) s → wpAny K.M A (bindArgs fd ⟨vs, []⟩) Q E s

structure TabFacts (K : Cx) (c T : Addr) (pos : Pos) (qual : Str) : Prop where
  hC : CodeHd K.g0 c T
  hB : K.g0.BuiltinsAt K.mg T
  hT : K.Tb T
  hgT : mainGlobals ≠ T
  htab : ∀ h, K.tab h → ∃ ps, h.get? T = some (tabObj ps) ∧ TriplesOk ps.toList ∧ (codeAmong pos ps.toList = none ∨ ∃ c', codeAmong pos ps.toList = some (.ref c') ∧ CRec h c' qual)
  hstep : ∀ h h' ps c', K.tab h → Heap.ExtBut T h h' → h.get? T = some (tabObj ps) → codeAmong pos ps.toList = none → h'.get? T = some (tabObj (ps ++ #[rawInt pos.line, rawInt pos.col, .ref c'])) → CRec h' c' qual → K.tab h'

section
variable {K : Cx} {n : Nat} {F : Fm} {P : Out → Prop} {R2 : Flow → Shared → Prop}

theorem fn_specC {f c : Addr} {qn : Str} {scope : Scope} {body : List Stmt} {names : List Str} {ds : List D} {d : D} {sh : FSh} {gl : List Str} {ρ0 : Addr → List Var} (ho : FnObjC K f scope body names [] c qn)
    (hco : scope.isCoroutine = false := by rfl) (hgen : scope.isGenerator = false := by rfl) (hfv : sh.fv = []) (hk : compOk scope sh.lv sh.cv [] gl = true)
    (hn : names.length = ds.length) (htk : ∀ L, Takes (names.zip ds) (sh.vars L) (ρ0 L))
    (hbody : ∀ N0 L, Blk K n (fFm (fEnv scope L [] (qn ++ ".<locals>.") f (.ref c)) N0 no (ρ0 L) gl) body (fun o => o = .ret d)) : FnSpec K (n + 1) (.ref f) ds d := fun R hI hr hQ => by
  rename_i N0 A s Q E vs
  obtain ⟨o, fd, h1, h2, h3, h4, h5, h6, h7, h8, h9, h10, h11⟩ := ho.ex
  have hl := hr.length
  refine fn_runS (R2 := fun L fl s' => ∃ v, fl = .ret v ∧ Rep N0 s'.heap d v) (cl := []) (sh := sh) (fvn := []) (gl := gl) (ds := ds) (ws := vs) (names := names) (ρ0 := ρ0) (W0 := no) (hI.inv.keep _ _ h1) h2 h3 h4 h5 h6 h7 h9 (h8.keeps hI.inv.keep) hco hgen
    (fun A Q E hq => h11 vs A Q E s (by rw [List.length_nil]; omega) hI.inv (by rw [List.append_nil]; exact hq)) R hI hk (by rw [hfv]; rfl) (by rw [hfv]; exact FvOK.nil) hr (by omega) htk
    (fun L => by rw [h10]; exact blkS_of (hbody N0 L) fun oo f s hp ho => by subst hp; exact ho) fun fl s' L hp x => ?_
  obtain ⟨v, rfl, r⟩ := hp
  exact hQ v s' x r

theorem ownFn_mk {name qual : Str} {params : Arguments} {body : List Stmt} {scope : Scope} {cl : List (Str × Addr)} {doc pm ctv : Value} {f c' : Addr} {names : List Str} {ho} (hb : ∀ vs : List Value, vs.length = names.length → bindArgs (fnX name qual params body scope cl .none .none doc pm none (.ref c') ctv) ⟨vs, []⟩ = pure (names.zip vs)) :
    OwnFn (K.fn f { cls := .type "function", data := .func (fnX name qual params body scope cl .none .none doc pm none (.ref c') ctv) } c' qual ho) f cl scope body names := by
  refine ⟨_, _, fun h t => ⟨t.2.1, ?_⟩, rfl, rfl, rfl, rfl, rfl, rfl, hb⟩
  obtain ⟨oc, vs, t', e1, e2, e3, e4⟩ := t.2.2
  exact ⟨c', oc, vs, t', rfl, e1, e3, e4⟩

theorem digs_times {w a : Nat} (hw : 0 < w) : ((bitN a : Int) + w - 1).fdiv w = ((cntD w a : Nat) : Int) := by
  rw [Int.fdiv_eq_ediv_of_nonneg _ (by omega)]
  unfold cntD
  rw [show (bitN a : Int) + w - 1 = ((bitN a + w - 1 : Nat) : Int) by omega]
  rfl

theorem putD_full {w a k : Nat} : putD (List.replicate k (.int 0)) 0 k w a = intsD (digN w k a) := by
  unfold putD intsD
  rw [List.take_zero, List.nil_append, List.drop_of_length_le (by rw [List.length_replicate]; exact Nat.le_refl _), List.append_nil]; rfl

noncomputable def dρ4 (L : Addr) (a w : Nat) (dg inner : En) : List Var := [⟨"a", .loc, .val (.int a)⟩, ⟨"n", .cell (L + 1 + 0), .val (.int w)⟩, ⟨"a_digits", .cell (L + 1 + 1), dg⟩, ⟨"inner", .cell (L + 1 + 2), inner⟩]
noncomputable def cl4 (L : Addr) : List (Str × Addr) := [("n", L + 1 + 0), ("inner", L + 1 + 2), ("a_digits", L + 1 + 1)]

theorem blk_ifE {t : Expr} {b o rest : List Stmt} {pos : Pos} (c : Bool) (ht : Tr K n F t c) (hb : c = true → Blk K n F (b ++ rest) P) (ho : c = false → Blk K n F (o ++ rest) P) :
    Blk K n F (.If t b o pos :: rest) P := blk_if ht hb ho

theorem tr_plainE {e : Expr} {c : Bool} (d : D) (h : Ev K n F e d) (hd : TrueD d c)
    (he : ∀ whole, isTrue e F.env whole = (do let v ← whole; standAt e.pos; holding [v] (truthy v))) : Tr K n F e c := tr_plain h hd he

set_option maxHeartbeats 4000000 in
theorem int2digits_tail {f c g b : Addr} {N0 : Addr → Prop} {L : Addr} {a w : Nat} (hw : 0 < w) (hw2 : w ≤ 10000) (hc1 : cntD w a ≤ n) (hc2 : cntD w a ≤ 1000) (hlen : K.Gl "len" (.builtin "len"))
    (hf : OwnFn K g (cl4 L) (innScope 4 1) (innBody 4 1) ["x", "L", "R"]) (hb : ¬ (fFm (fEnv (scopeA 4) L [] ("_int2digits" ++ ".<locals>.") f (.ref c)) N0 no (dρ4 L a w .un .un) ["len"]).N b) :
    Blk K n (((fFm (fEnv (scopeA 4) L [] ("_int2digits" ++ ".<locals>.") f (.ref c)) N0 no (dρ4 L a w .un .un) ["len"]).grab b).at (dρ4 L a w (.own b (List.replicate (cntD w a) (.int 0))) (.raw (.ref g)))) ((bodyA 4).drop 2)
      (fun o => o = .ret (.list (intsD (digN w (cntD w a) a)))) := by
  have hI := innA_spec (a := b) (ca := L + 1 + 1) (ci := L + 1 + 2) (cn := L + 1 + 0) (w := w) hf ⟨rfl, rfl, rfl⟩ hw2
  have hNo : ¬ (fFm (fEnv (scopeA 4) L [] ("_int2digits" ++ ".<locals>.") f (.ref c)) N0 no (dρ4 L a w .un .un) ["len"]).No b := fun q => hb (.inl q)
  apply blk_ifE ((a : Int) != 0)
  · apply tr_plainE (.int a)
    · trivial
    · exact .int _
    · intro _
      rfl
  · intro ha
    apply blk_innA (x := a) (L := 0) (R := cntD w a) (ds := List.replicate (cntD w a) (.int 0)) (ρ' := dρ4 L a w (.own b (putD (List.replicate (cntD w a) (.int 0)) 0 (cntD w a) w a)) (.raw (.ref g))) (hI (cntD w a)) hf hc1
    · intro p hp
      simp only [fvA, List.mem_cons, List.not_mem_nil, or_false] at hp
      rcases hp with rfl | rfl | rfl
      · exact ⟨rfl, .inl (by trivial)⟩
      · exact ⟨rfl, .inl (by trivial)⟩
      · exact ⟨rfl, .inl (by trivial)⟩
    · trivial
    · trivial
    · have h0 : a ≠ 0 := by simpa using ha
      have h1 := lt_cntD hw a
      rcases Nat.eq_zero_or_pos (cntD w a) with e | e
      · rw [e, Nat.mul_zero] at h1; omega
      · exact e
    · omega
    · rw [List.length_replicate]; exact Nat.le_refl _
    · rw [List.length_replicate]; exact hc2
    · rw [Nat.sub_zero]; exact lt_cntD hw a
    · apply evs_cons
      · trivial
      · apply evs_cons
        · trivial
        · apply evs_cons
          · apply Ev.eq
            · apply ev_len_own
              · trivial
              · exact hlen
              · trivial
              · rw [List.length_replicate, sizeLine_eq]; omega
              · rfl
            · rw [List.length_replicate]
          · trivial
          · intro _; rfl
        · intro _; rfl
      · intro _; rfl
    · trivial
    · rw [putD_full]
      apply blk_freeze (x := "a_digits") (a := b) (ds := intsD (digN w (cntD w a) a)) (ρ' := dρ4 L a w (.val (.list (intsD (digN w (cntD w a) a)))) (.raw (.ref g)))
      · trivial
      · trivial
      · exact hNo
      · exact retOnly
      · apply blk_ret
        · trivial
        · rfl
    · rfl
    · rfl
  · intro ha
    have h0 : a = 0 := by simpa using ha
    subst h0
    rw [cntD_zero hw]
    apply blk_freeze (x := "a_digits") (a := b) (ds := []) (ρ' := dρ4 L 0 w (.val (.list [])) (.raw (.ref g)))
    · trivial
    · trivial
    · exact hNo
    · exact retOnly
    · apply blk_ret
      · trivial
      · rfl

set_option maxHeartbeats 4000000 in
theorem int2digits_body {f c T : Addr} {N0 : Addr → Prop} {L : Addr} {a w : Nat} (hw : 0 < w) (hw2 : w ≤ 10000) (hc1 : cntD w a ≤ n) (hc2 : cntD w a ≤ 1000) (hlen : K.Gl "len" (.builtin "len"))
    (hT : TabFacts K c T ⟨32, 4, 41, 28⟩ ("_int2digits" ++ ".<locals>." ++ "inner")) :
    Blk K n (fFm (fEnv (scopeA 4) L [] ("_int2digits" ++ ".<locals>.") f (.ref c)) N0 no (dρ4 L a w .un .un) ["len"]) (bodyA 4) (fun o => o = .ret (.list (intsD (digN w (cntD w a) a)))) := by
  apply blk_ownE (ds := List.replicate (cntD w a) (.int 0)) (fun b => dρ4 L a w (.raw (.ref b)) .un) (fun b => dρ4 L a w (.own b (List.replicate (cntD w a) (.int 0))) .un)
  · have e : List.replicate (cntD w a) (D.int 0) = List.replicate ((cntD w a : Nat) : Int).toNat (.int 0) := by rw [Int.toNat_natCast]
    rw [e]
    apply evn_times
    · trivial
    · apply Ev.eq
      · apply ev_bin
        · apply ev_bin
          · apply ev_bin
            · apply ev_bits
              · trivial
              · rfl
              · rfl
            · trivial
            · apply b_add
          · trivial
          · apply b_sub
        · trivial
        · apply b_divS
          · omega
          · rw [Int.natAbs_natCast]; omega
      · have := digs_times (a := a) hw
        unfold bitN at this
        rw [this]
    · omega
    · omega
  · intro b
    trivial
  · intro b
    trivial
  · exact retOnly
  rotate_left
  · rfl
  intro b hb
  apply blk_def (c := c) (T := T) (q := ("n", L + 1 + 0)) (r := [("inner", L + 1 + 2), ("a_digits", L + 1 + 1)]) (qual := "_int2digits" ++ ".<locals>." ++ "inner") (fun g => dρ4 L a w (.own b (List.replicate (cntD w a) (.int 0))) (.raw (.ref g)))
  · rfl
  · rfl
  · rfl
  · intro x hx
    have : ∀ p ∈ (innScope 4 1).names, p.2 = .free → ((cellsFrom (L + 1) (scopeA 4).names []).lookup p.1).isSome = true := by
      intro p hp
      have hm : p ∈ ([("x", .local), ("L", .local), ("R", .local), ("mid", .local), ("shift", .local), ("upper", .local), ("lower", .local), ("a_digits", .free), ("inner", .free), ("n", .free)] : List (Str × NameKind)) := hp
      simp only [List.mem_cons, List.not_mem_nil, or_false] at hm
      rcases hm with rfl | rfl | rfl | rfl | rfl | rfl | rfl | rfl | rfl | rfl <;> first | (intro e; cases e; done) | (intro _; rfl)
    exact this _ hx rfl
  · rfl
  · rfl
  · exact hT.hC
  · exact hT.hB
  · exact hT.hT
  · exact hT.hgT
  · exact hT.htab
  · exact hT.hstep
  · intro g
    trivial
  · intro g c' doc pm ctv ho
    have hf : OwnFn _ g (cl4 L) (innScope 4 1) (innBody 4 1) ["x", "L", "R"] := ownFn_mk (K := K) (name := "inner") (qual := "_int2digits" ++ ".<locals>." ++ "inner") (params := innPar 4 1) (body := innBody 4 1) (scope := innScope 4 1) (cl := cl4 L) (doc := doc) (pm := pm) (ctv := ctv) (f := g) (c' := c') (ho := ho) fun vs hv => by
      match vs, hv with
      | [v1, v2, v3], _ => rfl
    apply int2digits_tail (K := K.fn g _ c' _ ho) hw hw2 hc1 hc2 hlen hf
    exact hb

theorem int2digits_spec {f c T : Addr} {a w : Nat} (hw : 0 < w) (hw2 : w ≤ 10000) (hc1 : cntD w a ≤ n) (hc2 : cntD w a ≤ 1000) (hlen : K.Gl "len" (.builtin "len"))
    (hT : TabFacts K c T ⟨32, 4, 41, 28⟩ ("_int2digits" ++ ".<locals>." ++ "inner")) (ho : FnObjC K f (scopeA 4) (bodyA 4) ["a", "n"] [] c "_int2digits") :
    FnSpec K (n + 1) (.ref f) [.int a, .int w] (.list (intsD (digN w (cntD w a) a))) := by
  refine fn_specC (sh := ⟨["a"], [("n", 0), ("a_digits", 1), ("inner", 2)], []⟩) (gl := ["len"]) (ρ0 := fun L => dρ4 L a w .un .un) ho rfl rfl rfl (by decide +kernel) rfl (fun L => ?_) fun N0 L => int2digits_body hw hw2 hc1 hc2 hlen hT
  exact .cons (.here nofun) (.cons (.there (.here nofun)) .nil)

/-! ## _digits2int -/
noncomputable def dρ5 (L : Addr) (xs : List Nat) (w : Nat) (inner : En) : List Var := [⟨"digits", .cell (L + 1 + 0), .val (.list (intsD xs))⟩, ⟨"n", .cell (L + 1 + 1), .val (.int w)⟩, ⟨"inner", .cell (L + 1 + 2), inner⟩]
noncomputable def cl5 (L : Addr) : List (Str × Addr) := [("n", L + 1 + 1), ("inner", L + 1 + 2), ("digits", L + 1 + 0)]

set_option maxHeartbeats 4000000 in
theorem digits2int_tail {f c g : Addr} {N0 : Addr → Prop} {L : Addr} {xs : List Nat} {w : Nat} (hw2 : w ≤ 10000) (hc1 : xs.length ≤ n) (hc2 : xs.length ≤ 1000) (hx : ∀ d ∈ xs, d < 2 ^ w) (hlen : K.Gl "len" (.builtin "len"))
    (hf : OwnFn K g (cl5 L) (innScope 5 0) (innBody 5 0) ["L", "R"]) :
    Blk K n ((fFm (fEnv (scopeA 5) L [] ("_digits2int" ++ ".<locals>.") f (.ref c)) N0 no (dρ5 L xs w .un) ["len"]).at (dρ5 L xs w (.raw (.ref g)))) ((bodyA 5).drop 1) (fun o => o = .ret (.int (valN w xs : Nat))) := by
  have hI := innB_spec (cd := L + 1 + 0) (ci := L + 1 + 2) (cn := L + 1 + 1) (w := w) hf ⟨rfl, rfl, rfl⟩ hc2 hx hw2
  have hll : (intsD xs).length = xs.length := by unfold intsD; rw [List.length_map]
  apply blk_ret
  · apply ev_ite (c := !(intsD xs).isEmpty) (d := .int (valN w xs : Nat))
    · apply tr_plainE (.list (intsD xs))
      · trivial
      · apply TrueD.list
        rw [hll, sizeLine_eq]; omega
      · intro _
        rfl
    · intro he
      have e := ev_innB (F := (fFm (fEnv (scopeA 5) L [] ("_digits2int" ++ ".<locals>.") f (.ref c)) N0 no (dρ5 L xs w .un) ["len"]).at (dρ5 L xs w (.raw (.ref g)))) (n := n) (l := .cell (L + 1 + 2)) (p := ⟨53, 11, 53, 16⟩) (cpos := ⟨53, 11, 53, 32⟩) (L := 0) (R := xs.length) (hI xs.length) hf hc1 (es := [.Constant (.int 0) 0 ⟨53, 17, 53, 18⟩, .Call (.Name "len" ⟨53, 20, 53, 23⟩) [.Name "digits" ⟨53, 24, 53, 30⟩] [] ⟨53, 20, 53, 31⟩])
      rw [segN_all] at e
      apply e
      · intro p hp
        simp only [fvB, List.mem_cons, List.not_mem_nil, or_false] at hp
        rcases hp with rfl | rfl | rfl
        · exact ⟨rfl, .inl (by trivial)⟩
        · exact ⟨rfl, .inl (by trivial)⟩
        · exact ⟨rfl, .inl (by trivial)⟩
      · trivial
      · cases xs with
        | nil => cases he
        | cons y ys => exact Nat.succ_pos _
      · exact Nat.le_refl _
      · exact Nat.le_refl _
      · apply evs_cons
        · trivial
        · apply evs_cons
          · apply Ev.eq
            · apply ev_call_b
              · trivial
              · exact hlen
              · trivial
              · apply cd_len_list
                rw [hll, sizeLine_eq]; omega
            · rw [hll]
          · trivial
          · intro _; rfl
        · intro _; rfl
    · intro he
      have : xs = [] := by
        cases xs with
        | nil => rfl
        | cons y ys => cases he
      subst this
      trivial
  · rfl

set_option maxHeartbeats 4000000 in
theorem digits2int_body {f c T : Addr} {N0 : Addr → Prop} {L : Addr} {xs : List Nat} {w : Nat} (hw2 : w ≤ 10000) (hc1 : xs.length ≤ n) (hc2 : xs.length ≤ 1000) (hx : ∀ d ∈ xs, d < 2 ^ w) (hlen : K.Gl "len" (.builtin "len"))
    (hT : TabFacts K c T ⟨47, 4, 52, 55⟩ ("_digits2int" ++ ".<locals>." ++ "inner")) :
    Blk K n (fFm (fEnv (scopeA 5) L [] ("_digits2int" ++ ".<locals>.") f (.ref c)) N0 no (dρ5 L xs w .un) ["len"]) (bodyA 5) (fun o => o = .ret (.int (valN w xs : Nat))) := by
  apply blk_def (c := c) (T := T) (q := ("n", L + 1 + 1)) (r := [("inner", L + 1 + 2), ("digits", L + 1 + 0)]) (qual := "_digits2int" ++ ".<locals>." ++ "inner") (fun g => dρ5 L xs w (.raw (.ref g)))
  · rfl
  · rfl
  · rfl
  · intro x hx
    have : ∀ p ∈ (innScope 5 0).names, p.2 = .free → ((cellsFrom (L + 1) (scopeA 5).names []).lookup p.1).isSome = true := by
      intro p hp
      have hm : p ∈ ([("L", .local), ("R", .local), ("mid", .local), ("shift", .local), ("digits", .free), ("inner", .free), ("n", .free)] : List (Str × NameKind)) := hp
      simp only [List.mem_cons, List.not_mem_nil, or_false] at hm
      rcases hm with rfl | rfl | rfl | rfl | rfl | rfl | rfl <;> first | (intro e; cases e; done) | (intro _; rfl)
    exact this _ hx rfl
  · rfl
  · rfl
  · exact hT.hC
  · exact hT.hB
  · exact hT.hT
  · exact hT.hgT
  · exact hT.htab
  · exact hT.hstep
  · intro g
    trivial
  · intro g c' doc pm ctv ho
    have hf : OwnFn _ g (cl5 L) (innScope 5 0) (innBody 5 0) ["L", "R"] := ownFn_mk (K := K) (name := "inner") (qual := "_digits2int" ++ ".<locals>." ++ "inner") (params := innPar 5 0) (body := innBody 5 0) (scope := innScope 5 0) (cl := cl5 L) (doc := doc) (pm := pm) (ctv := ctv) (f := g) (c' := c') (ho := ho) fun vs hv => by
      match vs, hv with
      | [v1, v2], _ => rfl
    apply digits2int_tail (K := K.fn g _ c' _ ho) hw2 hc1 hc2 hx hlen
    exact hf

theorem digits2int_spec {f c T : Addr} {xs : List Nat} {w : Nat} (hw2 : w ≤ 10000) (hc1 : xs.length ≤ n) (hc2 : xs.length ≤ 1000) (hx : ∀ d ∈ xs, d < 2 ^ w) (hlen : K.Gl "len" (.builtin "len"))
    (hT : TabFacts K c T ⟨47, 4, 52, 55⟩ ("_digits2int" ++ ".<locals>." ++ "inner")) (ho : FnObjC K f (scopeA 5) (bodyA 5) ["digits", "n"] [] c "_digits2int") :
    FnSpec K (n + 1) (.ref f) [.list (intsD xs), .int w] (.int (valN w xs : Nat)) := by
  refine fn_specC (sh := ⟨[], [("digits", 0), ("n", 1), ("inner", 2)], []⟩) (gl := ["len"]) (ρ0 := fun L => dρ5 L xs w .un) ho rfl rfl rfl (by decide +kernel) rfl (fun L => ?_) fun N0 L => digits2int_body hw2 hc1 hc2 hx hlen hT
  exact .cons (.here nofun) (.cons (.there (.here nofun)) .nil)
end
end

/-! # part F42 -/
section
open PySem.Sem (wp)
/-! ## _divmod_pos -/
noncomputable def pρ (a b : Nat) (nn ad r qd adg qdg q : En) : List Var :=
  [⟨"a", .loc, .val (.int a)⟩, ⟨"b", .loc, .val (.int b)⟩, ⟨"n", .loc, nn⟩, ⟨"a_digits", .loc, ad⟩, ⟨"r", .loc, r⟩, ⟨"q_digits", .loc, qd⟩, ⟨"a_digit", .loc, adg⟩, ⟨"q_digit", .loc, qdg⟩, ⟨"q", .loc, q⟩]

theorem intsD_reverse (xs : List Nat) : (intsD xs).reverse = intsD xs.reverse := by unfold intsD; rw [List.map_reverse]
theorem intsD_append (xs ys : List Nat) : intsD (xs ++ ys) = intsD xs ++ intsD ys := by unfold intsD; rw [List.map_append]
theorem intsD_length (xs : List Nat) : (intsD xs).length = xs.length := by unfold intsD; rw [List.length_map]
theorem intsD_inv {xs : List Nat} {i : Nat} {d : D} (h : (intsD xs)[i]? = some d) : ∃ k, xs[i]? = some k ∧ d = .int k := by
  unfold intsD at h
  rw [List.getElem?_map, Option.map_eq_some_iff] at h
  obtain ⟨k, h1, h2⟩ := h
  exact ⟨k, h1, h2.symm⟩

noncomputable def enN (xs : List Nat) : Nat → En
  | 0 => .un
  | i + 1 => .val (.int (xs.getD i 0 : Nat))
noncomputable def enQ (n b : Nat) (ds : List Nat) : Nat → En
  | 0 => .un
  | i + 1 => .val (.int (((divAt n b ds i).1 * 2 ^ n + ds.getD i 0) / b : Nat))

section
variable {K : Cx} {n : Nat} {F : Fm} {P : Out → Prop} {R2 : Flow → Shared → Prop}

theorem blk_assignTE {t : Expr} {pos : Pos} {value : Expr} {rest : List Stmt} (d : D) (ρ' : List Var) (hv : Ev K n F value d) (ht : Asg K F t d ρ') (hr : Blk K n (F.at ρ') rest P)
    (hs : swapsWithSole [t] value pos.line F.env = pure false) (hw : swappedStores [t] value F.env = pure none) (he : ∀ env, assignEach [t] env = [(false, assign t env)]) :
    Blk K n F (.Assign [t] value pos :: rest) P := blk_assignT hv ht hr hs hw he
theorem blk_appendE {x : Str} {l : Loc} {a : Addr} {e : Expr} {p apos cpos pos : Pos} {rest : List Stmt} (ds : List D) (d : D) (ρ' : List Var) (hx : (⟨x, l, .own a ds⟩ : Var) ∈ F.ρ) (he : Ev K n F e d) (u : UpdA x (.own a (ds ++ [d])) F.ρ ρ') (hz : ds.length ≤ sizeLine)
    (hr : Blk K n (F.at ρ') rest P) (hi : interactive F.env = false) (hsw : swapsWith (.Call (.Attribute (.Name x p) "append" apos) [e] [] cpos) none pos.line F.env = pure false)
    (hbase : attributeBase (.Name x p) "append" F.env (eval (.Name x p) F.env) = eval (.Name x p) F.env)
    (hs : starEach [e] F.env = [(false, eval e F.env)]) (hline : (apos.endLine == cpos.line) = true) :
    Blk K n F (.Expr (.Call (.Attribute (.Name x p) "append" apos) [e] [] cpos) pos :: rest) P := blk_append hx he u hz hr hi hsw hbase hs hline
theorem blk_reverseE {x : Str} {l : Loc} {a : Addr} {p apos cpos pos : Pos} {rest : List Stmt} (ds : List D) (ρ' : List Var) (hx : (⟨x, l, .own a ds⟩ : Var) ∈ F.ρ) (u : UpdA x (.own a ds.reverse) F.ρ ρ') (hz : ds.length ≤ sizeLine)
    (hr : Blk K n (F.at ρ') rest P) (hi : interactive F.env = false) (hsw : swapsWith (.Call (.Attribute (.Name x p) "reverse" apos) [] [] cpos) none pos.line F.env = pure false)
    (hbase : attributeBase (.Name x p) "reverse" F.env (eval (.Name x p) F.env) = eval (.Name x p) F.env) (hline : (apos.endLine == cpos.line) = true) :
    Blk K n F (.Expr (.Call (.Attribute (.Name x p) "reverse" apos) [] [] cpos) pos :: rest) P := blk_reverse hx u hz hr hi hsw hbase hline

theorem dm_eqs {a b n : Nat} (hb : 0 < b) (hn : n = bitN b) : (divAt n b (digN n (cntD n a) a).reverse (cntD n a)).1 = a % b ∧ valN n (divAt n b (digN n (cntD n a) a).reverse (cntD n a)).2.reverse = a / b := by
  have hn0 : 0 < n := by rw [hn]; exact Nat.pos_of_ne_zero (bitN_ne (by omega))
  have hl : (digN n (cntD n a) a).reverse.length = cntD n a := by rw [List.length_reverse, digN_length]
  obtain ⟨h1, h2, h3, h4⟩ := divAt_inv (n := n) hb (ds := (digN n (cntD n a) a).reverse) (fun d hd => digN_lt n _ a d (List.mem_reverse.mp hd)) (cntD n a) (by rw [hl]; exact Nat.le_refl _)
  rw [List.take_of_length_le (by rw [hl]; exact Nat.le_refl _), List.reverse_reverse, valN_digN n _ a (lt_cntD hn0 a)] at h4
  generalize (divAt n b (digN n (cntD n a) a).reverse (cntD n a)).1 = r at *
  generalize valN n (divAt n b (digN n (cntD n a) a).reverse (cntD n a)).2.reverse = q at *
  subst h4
  constructor
  · rw [Nat.mul_comm, Nat.mul_add_mod, Nat.mod_eq_of_lt h1]
  · rw [Nat.mul_comm, Nat.mul_add_div hb, Nat.div_eq_of_lt h1]; omega

set_option maxHeartbeats 4000000 in
theorem divmodpos_body {f f2 f4 f5 : Addr} {N0 : Addr → Prop} {L : Addr} {qual : Str} {code : Value} {a b nb m : Nat} (hm : m ≤ n) (hb : 0 < b) (hnb : nb = bitN b) (hnb2 : nb ≤ 2500) (hc2 : cntD nb a ≤ 900)
    (hrev : K.Gl "reversed" (.type "reversed")) (hg4 : K.Gl "_int2digits" (.ref f4)) (ho4 : ∃ o fd, K.g0.get? f4 = some o ∧ o.data = .func fd) (hg2 : K.Gl "_div2n1n" (.ref f2)) (ho2 : ∃ o fd, K.g0.get? f2 = some o ∧ o.data = .func fd) (hg5 : K.Gl "_digits2int" (.ref f5)) (ho5 : ∃ o fd, K.g0.get? f5 = some o ∧ o.data = .func fd)
    (h4 : FnSpec K m (.ref f4) [.int a, .int nb] (.list (intsD (digN nb (cntD nb a) a))))
    (h2 : ∀ x : Nat, x < 2 ^ nb * b → FnSpec K m (.ref f2) [.int x, .int b, .int nb] (.tup [.int ((x / b : Nat)), .int ((x % b : Nat))]))
    (h5 : ∀ xs : List Nat, xs.length = cntD nb a → (∀ d ∈ xs, d < 2 ^ nb) → FnSpec K m (.ref f5) [.list (intsD xs), .int nb] (.int (valN nb xs : Nat))) :
    Blk K n (fFm (fEnv (scopeA 6) L [] qual f code) N0 no (pρ a b .un .un .un .un .un .un .un) ["_int2digits", "reversed", "_div2n1n", "_digits2int"]) (bodyA 6) (fun o => o = .ret (.tup [.int ((a / b : Nat)), .int ((a % b : Nat))])) := by
  have hn0 : 0 < nb := by rw [hnb]; exact Nat.pos_of_ne_zero (bitN_ne (by omega))
  obtain ⟨eq1, eq2⟩ := dm_eqs (a := a) hb hnb
  generalize hds : (digN nb (cntD nb a) a).reverse = ds at *
  have hdl : ds.length = cntD nb a := by rw [← hds, List.length_reverse, digN_length]
  have hdlt : ∀ d ∈ ds, d < 2 ^ nb := fun d hd => digN_lt nb _ a d (List.mem_reverse.mp (hds ▸ hd))
  have hbn : b < 2 ^ nb := by rw [hnb]; exact lt_bitN b
  apply blk_assignE (.int nb) (pρ a b (.val (.int nb)) .un .un .un .un .un .un)
  · apply Ev.eq
    · apply ev_bits
      · trivial
      · rfl
      · rfl
    · rw [hnb]; rfl
  · trivial
  · apply blk_assignE (.list (intsD (digN nb (cntD nb a) a))) (pρ a b (.val (.int nb)) (.val (.list (intsD (digN nb (cntD nb a) a)))) .un .un .un .un .un)
    · apply ev_call_fn
      · trivial
      · exact hg4
      · exact ho4
      · trivial
      · exact h4
      · exact hm
    · trivial
    · apply blk_assignE (.int 0) (pρ a b (.val (.int nb)) (.val (.list (intsD (digN nb (cntD nb a) a)))) (.val (.int 0)) .un .un .un .un)
      · trivial
      · trivial
      · apply blk_ownE (ds := []) (fun q => pρ a b (.val (.int nb)) (.val (.list (intsD (digN nb (cntD nb a) a)))) (.val (.int 0)) (.raw (.ref q)) .un .un .un) (fun q => pρ a b (.val (.int nb)) (.val (.list (intsD (digN nb (cntD nb a) a)))) (.val (.int 0)) (.own q []) .un .un .un)
        · apply evn_list
          · exact .nil
          · decide
        · intro q
          trivial
        · intro q
          trivial
        · exact retOnly
        rotate_left
        · rfl
        intro q hq
        apply blk_cons (P1 := fun o => o = .next (pρ a b (.val (.int nb)) (.val (.list (intsD (digN nb (cntD nb a) a)))) (.val (.int (divAt nb b ds ds.length).1)) (.own q (intsD (divAt nb b ds ds.length).2)) (enN ds ds.length) (enQ nb b ds ds.length) .un))
        · apply stm_forR (tup := false) (ds := intsD ds) (fun i => pρ a b (.val (.int nb)) (.val (.list (intsD (digN nb (cntD nb a) a)))) (.val (.int (divAt nb b ds i).1)) (.own q (intsD (divAt nb b ds i).2)) (enN ds i) (enQ nb b ds i) .un)
            (fun i => pρ a b (.val (.int nb)) (.val (.list (intsD (digN nb (cntD nb a) a)))) (.val (.int (divAt nb b ds i).1)) (.own q (intsD (divAt nb b ds i).2)) (enN ds (i + 1)) (enQ nb b ds i) .un) (fun _ => True) True.intro
          · have e : intsD ds = (intsD (digN nb (cntD nb a) a)).reverse := by rw [intsD_reverse, hds]
            rw [e]
            apply itr_rev
            · trivial
            · exact hrev
            · trivial
          · rfl
          · rfl
          · intro i; rfl
          · intro i; rfl
          · intro i d fp hd
            obtain ⟨k, h1, rfl⟩ := intsD_inv hd
            have e : ds.getD i 0 = k := by rw [List.getD_eq_getElem?_getD, h1]; rfl
            apply asg_name
            have e2 : enN ds (i + 1) = .val (.int k) := by show En.val (.int (ds.getD i 0 : Nat)) = _; rw [e]
            rw [e2]
            trivial
          · intro i d fp hd _
            obtain ⟨k, h1, rfl⟩ := intsD_inv hd
            have hi : i < ds.length := (List.getElem?_eq_some_iff.mp h1).1
            have e : ds.getD i 0 = k := by rw [List.getD_eq_getElem?_getD, h1]; rfl
            have hk : k < 2 ^ nb := hdlt k (List.mem_of_getElem? h1)
            obtain ⟨i1, i2, i3, i4⟩ := divAt_inv (n := nb) hb hdlt i (Nat.le_of_lt hi)
            have es := divAt_succ (n := nb) (b := b) h1
            have e2 : enN ds (i + 1) = .val (.int k) := by show En.val (.int (ds.getD i 0 : Nat)) = _; rw [e]
            have e3 : enQ nb b ds (i + 1) = .val (.int (((divAt nb b ds i).1 * 2 ^ nb + k) / b : Nat)) := by show En.val (.int (((divAt nb b ds i).1 * 2 ^ nb + ds.getD i 0) / b : Nat)) = _; rw [e]
            rw [e2, e3, es]
            generalize divAt nb b ds i = st at *
            obtain ⟨r, qs⟩ := st
            dsimp only at i1 i2 i3 i4
            have hlt : r * 2 ^ nb + k < 2 ^ nb * b := by
              have : (r + 1) * 2 ^ nb ≤ b * 2 ^ nb := Nat.mul_le_mul i1 (Nat.le_refl _)
              rw [Nat.succ_mul] at this
              rw [Nat.mul_comm (2 ^ nb) b]
              omega
            have hrb : Builtin.Int.intBits ((r : Nat) : Int) ≤ nb := bits_le (by rw [Int.natAbs_natCast]; omega)
            unfold divStep
            dsimp only
            apply blk_assignTE (.tup [.int (((r * 2 ^ nb + k) / b : Nat)), .int (((r * 2 ^ nb + k) % b : Nat))]) (pρ a b (.val (.int nb)) (.val (.list (intsD (digN nb (cntD nb a) a)))) (.val (.int ((r * 2 ^ nb + k) % b : Nat))) (.own q (intsD qs)) (.val (.int k)) (.val (.int ((r * 2 ^ nb + k) / b : Nat))) .un)
            · apply ev_call_fn
              · trivial
              · exact hg2
              · exact ho2
              · apply evs_cons
                · apply Ev.eq
                  · apply ev_bin
                    · apply ev_bin
                      · trivial
                      · trivial
                      · apply b_shl
                        · exact Int.natCast_nonneg _
                        · omega
                    · trivial
                    · apply b_add
                  · show _ = D.int ((r * 2 ^ nb + k : Nat) : Int)
                    rw [Int.toNat_natCast, Int.natCast_add, Int.natCast_mul, Int.natCast_pow]; rfl
                · trivial
                · intro _; rfl
              · exact h2 _ hlt
              · exact hm
            · apply asg_tuple
              apply Asgs.cons (ρ₁ := pρ a b (.val (.int nb)) (.val (.list (intsD (digN nb (cntD nb a) a)))) (.val (.int r)) (.own q (intsD qs)) (.val (.int k)) (.val (.int ((r * 2 ^ nb + k) / b : Nat))) .un)
              · apply asg_name
                trivial
              · apply Asgs.cons (ρ₁ := pρ a b (.val (.int nb)) (.val (.list (intsD (digN nb (cntD nb a) a)))) (.val (.int ((r * 2 ^ nb + k) % b : Nat))) (.own q (intsD qs)) (.val (.int k)) (.val (.int ((r * 2 ^ nb + k) / b : Nat))) .un)
                · apply asg_name
                  trivial
                · exact .nil
                · intro _; rfl
              · intro _; rfl
            · apply blk_appendE (intsD qs) (.int ((r * 2 ^ nb + k) / b : Nat)) (pρ a b (.val (.int nb)) (.val (.list (intsD (digN nb (cntD nb a) a)))) (.val (.int ((r * 2 ^ nb + k) % b : Nat))) (.own q (intsD (qs ++ [(r * 2 ^ nb + k) / b]))) (.val (.int k)) (.val (.int ((r * 2 ^ nb + k) / b : Nat))) .un)
              · trivial
              · trivial
              · rw [intsD_append]
                trivial
              · rw [intsD_length, sizeLine_eq]; omega
              · apply blk_nil
                exact .inl ⟨rfl, True.intro⟩
              · rfl
              · rfl
              · rfl
              · rfl
              · rfl
            · rfl
            · rfl
            · intro _; rfl
          · intro _
            rw [intsD_length]
          · intro _; rfl
        · rintro ρ' h
          cases h
          obtain ⟨i1, i2, i3, i4⟩ := divAt_inv (n := nb) hb hdlt ds.length (Nat.le_refl _)
          rw [← hdl] at eq1 eq2
          generalize divAt nb b ds ds.length = st at *
          obtain ⟨r, qs⟩ := st
          dsimp only at i1 i2 i3 i4 eq1 eq2 ⊢
          apply blk_reverseE (intsD qs) (pρ a b (.val (.int nb)) (.val (.list (intsD (digN nb (cntD nb a) a)))) (.val (.int r)) (.own q (intsD qs.reverse)) (enN ds ds.length) (enQ nb b ds ds.length) .un)
          · trivial
          · rw [intsD_reverse]
            trivial
          · rw [intsD_length, sizeLine_eq]; omega
          · apply blk_freeze (x := "q_digits") (l := .loc) (a := q) (ds := intsD qs.reverse) (ρ' := pρ a b (.val (.int nb)) (.val (.list (intsD (digN nb (cntD nb a) a)))) (.val (.int r)) (.val (.list (intsD qs.reverse))) (enN ds ds.length) (enQ nb b ds ds.length) .un)
            · trivial
            · trivial
            · exact fun w => hq (.inl w)
            · exact retOnly
            · apply blk_assignE (.int (valN nb qs.reverse : Nat)) (pρ a b (.val (.int nb)) (.val (.list (intsD (digN nb (cntD nb a) a)))) (.val (.int r)) (.val (.list (intsD qs.reverse))) (enN ds ds.length) (enQ nb b ds ds.length) (.val (.int (valN nb qs.reverse : Nat))))
              · apply ev_call_fn
                · trivial
                · exact hg5
                · exact ho5
                · trivial
                · exact h5 qs.reverse (by rw [List.length_reverse]; omega) fun d hd => i3 d (List.mem_reverse.mp hd)
                · exact hm
              · trivial
              · apply blk_ret
                · trivial
                · rw [eq1, eq2]
              · rfl
          · rfl
          · rfl
          · rfl
          · rfl
        · intro d h
          cases h
      · rfl
    · rfl
  · rfl
end
end

/-! # part F43 -/
section
open PySem.Sem (wp)
set_option genInjectivity false in
set_option genSizeOf false in
/-- what the module's names are -/
structure Lib (K : Cx) where
  (f2 f4 f5 f6 f7 fR fL f12 f13 f14 f16 f17 f18 c4 T4 c5 T5 : Addr)
  (tD tR tL : Tok)
  g2 : K.Gl "_div2n1n" (.ref f2)
  g4 : K.Gl "_int2digits" (.ref f4)
  g5 : K.Gl "_digits2int" (.ref f5)
  g6 : K.Gl "_divmod_pos" (.ref f6)
  g7 : K.Gl "int_divmod" (.ref f7)
  gR : K.Gl "bisect_right" (.ref fR)
  gL : K.Gl "bisect_left" (.ref fL)
  g12 : K.Gl "_iter_escaped_chars" (.ref f12)
  g13 : K.Gl "_strip_quoted_realnames" (.ref f13)
  g14 : K.Gl "_check_parenthesis" (.ref f14)
  g16 : K.Gl "_law_rows" (.ref f16)
  g17 : K.Gl "_law_turned" (.ref f17)
  g18 : K.Gl "_law_answers" (.ref f18)
  gLim : K.Gl "_DIV_LIMIT" (.int 4000 tD)
  gdm : K.Gl "divmod" (.builtin "divmod")
  glen : K.Gl "len" (.builtin "len")
  gsum : K.Gl "sum" (.builtin "sum")
  gmax : K.Gl "max" (.builtin "max")
  grange : K.Gl "range" (.type "range")
  genum : K.Gl "enumerate" (.type "enumerate")
  grev : K.Gl "reversed" (.type "reversed")
  o2 : FnObj K f2 (scopeA 2) (bodyA 2) ["a", "b", "n"] []
  o4 : FnObjC K f4 (scopeA 4) (bodyA 4) ["a", "n"] [] c4 "_int2digits"
  o5 : FnObjC K f5 (scopeA 5) (bodyA 5) ["digits", "n"] [] c5 "_digits2int"
  o6 : FnObj K f6 (scopeA 6) (bodyA 6) ["a", "b"] []
  o7 : FnObj K f7 (scopeA 7) (bodyA 7) ["a", "b"] []
  oR : FnObj K fR (scopeA 9) (bodyA 9) ["a", "x", "lo", "hi", "key"] [.int 0 tR, .none, .none]
  oL : FnObj K fL (scopeA 10) (bodyA 10) ["a", "x", "lo", "hi", "key"] [.int 0 tL, .none, .none]
  o12 : FnObj K f12 (scopeA 12) (bodyA 12) ["addr"] []
  o13 : FnObj K f13 (scopeA 13) (bodyA 13) ["addr"] []
  o14 : FnObj K f14 (scopeA 14) (bodyA 14) ["addr"] []
  o16 : FnObj K f16 (scopeA 16) (bodyA 16) ["pairs"] []
  o17 : FnObj K f17 (scopeA 17) (bodyA 17) ["row", "pieces"] []
  o18 : FnObj K f18 (scopeA 18) (bodyA 18) ["row", "pieces"] []
  t4 : TabFacts K c4 T4 ⟨32, 4, 41, 28⟩ ("_int2digits" ++ ".<locals>." ++ "inner")
  t5 : TabFacts K c5 T5 ⟨47, 4, 52, 55⟩ ("_digits2int" ++ ".<locals>." ++ "inner")

theorem FnObj.obj {K : Cx} {f : Addr} {scope : Scope} {body : List Stmt} {names : List Str} {dv : List Value} (h : FnObj K f scope body names dv) : ∃ o fd, K.g0.get? f = some o ∧ o.data = .func fd := let ⟨o, fd, h1, h2, _⟩ := h.ex; ⟨o, fd, h1, h2⟩
theorem FnObjC.obj {K : Cx} {f c : Addr} {qn : Str} {scope : Scope} {body : List Stmt} {names : List Str} {dv : List Value} (h : FnObjC K f scope body names dv c qn) : ∃ o fd, K.g0.get? f = some o ∧ o.data = .func fd := let ⟨o, fd, h1, h2, _⟩ := h.ex; ⟨o, fd, h1, h2⟩

theorem nopy {a b : Int} (h : b.natAbs < 2 ^ 9000) : Builtin.divisionGoesByPylong a b = false := by
  unfold Builtin.divisionGoesByPylong
  have : ¬ ((if b == 0 then 0 else b.natAbs.log2 / 30 + 1) > 300) := by
    split
    · omega
    · rename_i h0
      have h1 : b.natAbs ≠ 0 := by simpa using h0
      have := (Nat.log2_lt h1).mpr h
      omega
  simp only [this, decide_false, Bool.false_and]

section
variable {K : Cx} {n : Nat} {F : Fm} {P : Out → Prop} {R2 : Flow → Shared → Prop}

theorem fdm_nat (x b : Nat) (hb : 0 < b) : (x : Int).fdiv (b : Int) = ((x / b : Nat) : Int) ∧ (x : Int).fmod (b : Int) = ((x % b : Nat) : Int) := by
  rw [Int.fdiv_eq_ediv_of_nonneg _ (by omega), Int.fmod_eq_emod_of_nonneg _ (by omega)]
  exact ⟨rfl, rfl⟩

theorem divmodpos_spec (Lb : Lib K) {a b : Nat} (hb : 0 < b) (hnb2 : bitN b ≤ 2500) (hc2 : cntD (bitN b) a ≤ 20) : FnSpec K (n + 22) (.ref Lb.f6) [.int a, .int b] (.tup [.int ((a / b : Nat)), .int ((a % b : Nat))]) := by
  have hn0 : 0 < bitN b := Nat.pos_of_ne_zero (bitN_ne (by omega))
  apply fn_spec (n := n + 21) (ds := [.int a, .int b]) (sh := ⟨["a", "b", "n", "a_digits", "r", "q_digits", "a_digit", "q_digit", "q"], [], []⟩) (gl := ["_int2digits", "reversed", "_div2n1n", "_digits2int"]) (dd := []) (ρ0 := fun _ => pρ a b .un .un .un .un .un .un .un) Lb.o6 (fun N h => .nil) rfl rfl rfl (by decide +kernel) rfl
  · intro L
    exact .cons (.here nofun) (.cons (.there (.here nofun)) .nil)
  intro N0 L qual code
  apply divmodpos_body (m := n + 21) (Nat.le_refl _) hb rfl hnb2 (by omega) Lb.grev Lb.g4 Lb.o4.obj Lb.g2 Lb.o2.obj Lb.g5 Lb.o5.obj
  · apply int2digits_spec hn0 (by omega) (by omega) (by omega) Lb.glen Lb.t4
    exact Lb.o4
  · intro x hx
    have h1 : x < 2 ^ (bitN b + bitN b) := by
      rw [Nat.pow_add]
      exact Nat.lt_of_lt_of_le hx (Nat.mul_le_mul (Nat.le_refl _) (Nat.le_of_lt (lt_bitN b)))
    have h2 := bitN_le h1
    have e := div2_spec (K := K) (n := n + 20) (f := Lb.f2) (a := x) (b := b) (k := bitN b) (by omega) (nopy (by rw [Int.natAbs_natCast]; exact Nat.lt_of_lt_of_le (lt_bitN b) (Nat.pow_le_pow_right (by decide) (by omega)))) (by
      show (bitN x : Int) - bitN b ≤ 4000
      omega) Lb.gLim Lb.gdm
    rw [(fdm_nat x b hb).1, (fdm_nat x b hb).2] at e
    apply e
    exact Lb.o2
  · intro xs hl hx
    apply digits2int_spec (by omega) (by omega) (by omega) hx Lb.glen Lb.t5
    exact Lb.o5

/-! ## int_divmod -/
theorem fdm_uniq {a b q r : Int} (hb : 0 < b) (h : a = b * q + r) (h0 : 0 ≤ r) (h1 : r < b) : a.fdiv b = q ∧ a.fmod b = r := by
  rw [Int.fdiv_eq_ediv_of_nonneg _ (Int.le_of_lt hb), Int.fmod_eq_emod_of_nonneg _ (Int.le_of_lt hb)]
  exact (Int.ediv_emod_unique hb).mpr ⟨by rw [h]; omega, h0, h1⟩
theorem fdm_self {a b : Int} (hb : 0 < b) : a = b * a.fdiv b + a.fmod b ∧ 0 ≤ a.fmod b ∧ a.fmod b < b := by
  rw [Int.fdiv_eq_ediv_of_nonneg _ (Int.le_of_lt hb), Int.fmod_eq_emod_of_nonneg _ (Int.le_of_lt hb)]
  exact ⟨(Int.mul_ediv_add_emod a b).symm, Int.emod_nonneg _ (by omega), Int.emod_lt_of_pos _ hb⟩
theorem fdm_not {a b : Int} (hb : 0 < b) : -((-a - 1).fdiv b) - 1 = a.fdiv b ∧ b + (-((-a - 1).fmod b) - 1) = a.fmod b := by
  obtain ⟨h1, h2, h3⟩ := fdm_self (a := -a - 1) hb
  generalize (-a - 1).fdiv b = q at *
  generalize (-a - 1).fmod b = r at *
  obtain ⟨e1, e2⟩ := fdm_uniq (a := a) (b := b) (q := -q - 1) (r := b - 1 - r) hb (by rw [Int.mul_sub, Int.mul_neg]; omega) (by omega) (by omega)
  exact ⟨e1.symm, by rw [e2]; omega⟩
theorem fdm_neg {a b : Int} (hb : b < 0) : (-a).fdiv (-b) = a.fdiv b ∧ -((-a).fmod (-b)) = a.fmod b := by
  constructor
  · exact Int.neg_fdiv_neg ..
  · rw [Int.fmod_def, Int.fmod_def, Int.neg_fdiv_neg, Int.neg_mul]; omega

noncomputable def mρ (a b : Int) (q r : En) : List Var := [⟨"a", .loc, .val (.int a)⟩, ⟨"b", .loc, .val (.int b)⟩, ⟨"q", .loc, q⟩, ⟨"r", .loc, r⟩]

theorem asg_two {x y : Str} {p1 p2 p3 : Pos} {k : Nat} {d1 d2 : D} {ρ2 : List Var} (ρ1 : List Var) (u1 : Upd x (.val d1) F.ρ ρ1) (u2 : Upd y (.val d2) ρ1 ρ2) : Asg K F (.Tuple [.Name x p1, .Name y p2] k p3) (.tup [d1, d2]) ρ2 :=
  asg_tuple (.cons (asg_name u1) (.cons (asg_name (F := F.at ρ1) u2) .nil (fun _ => rfl)) (fun _ => rfl))

set_option maxHeartbeats 4000000 in
theorem intdm_body {f f6 : Addr} {N0 : Addr → Prop} {L : Addr} {qual : Str} {code : Value} {a b : Int} {m : Nat} (hm : m ≤ n) (hb : b ≠ 0)
    (hg6 : K.Gl "_divmod_pos" (.ref f6)) (ho6 : ∃ o fd, K.g0.get? f6 = some o ∧ o.data = .func fd) (hg7 : K.Gl "int_divmod" (.ref f)) (ho7 : ∃ o fd, K.g0.get? f = some o ∧ o.data = .func fd)
    (h6 : 0 < b → 0 ≤ a → FnSpec K m (.ref f6) [.int a, .int b] (.tup [.int (a.fdiv b), .int (a.fmod b)]))
    (h7 : 0 < b → a < 0 → FnSpec K m (.ref f) [.int (-a - 1), .int b] (.tup [.int ((-a - 1).fdiv b), .int ((-a - 1).fmod b)]))
    (h8 : b < 0 → FnSpec K m (.ref f) [.int (-a), .int (-b)] (.tup [.int ((-a).fdiv (-b)), .int ((-a).fmod (-b))])) :
    Blk K n (fFm (fEnv (scopeA 7) L [] qual f code) N0 no (mρ a b .un .un) ["ZeroDivisionError", "int_divmod", "_divmod_pos"]) (bodyA 7) (fun o => o = .ret (.tup [.int (a.fdiv b), .int (a.fmod b)])) := by
  apply blk_if
  · trivial
  · intro h
    exact absurd (by simpa using h) hb
  · intro _
    apply blk_if
    · trivial
    · intro h
      have hb0 : b < 0 := of_decide_eq_true h
      apply blk_assignTE (.tup [.int ((-a).fdiv (-b)), .int ((-a).fmod (-b))]) (mρ a b (.val (.int ((-a).fdiv (-b)))) (.val (.int ((-a).fmod (-b)))))
      · apply ev_call_fn
        · trivial
        · exact hg7
        · exact ho7
        · trivial
        · exact h8 hb0
        · exact hm
      · apply asg_two (mρ a b (.val (.int ((-a).fdiv (-b)))) .un)
        · trivial
        · trivial
      · apply blk_ret
        · trivial
        · rw [(fdm_neg hb0).1, (fdm_neg hb0).2]
      · rfl
      · rfl
      · intro _; rfl
    · intro h
      have hb0 : 0 < b := by
        have := of_decide_eq_false h
        omega
      apply blk_if
      · trivial
      · intro h
        have ha : a < 0 := of_decide_eq_true h
        apply blk_assignTE (.tup [.int ((-a - 1).fdiv b), .int ((-a - 1).fmod b)]) (mρ a b (.val (.int ((-a - 1).fdiv b))) (.val (.int ((-a - 1).fmod b))))
        · apply ev_call_fn
          · trivial
          · exact hg7
          · exact ho7
          · trivial
          · exact h7 hb0 ha
          · exact hm
        · apply asg_two (mρ a b (.val (.int ((-a - 1).fdiv b))) .un)
          · trivial
          · trivial
        · apply blk_ret
          · trivial
          · rw [(fdm_not hb0).1, (fdm_not hb0).2]
        · rfl
        · rfl
        · intro _; rfl
      · intro h
        have ha : 0 ≤ a := by
          have := of_decide_eq_false h
          omega
        apply blk_ret
        · apply ev_call_fn
          · trivial
          · exact hg6
          · exact ho6
          · trivial
          · exact h6 hb0 ha
          · exact hm
        · rfl

theorem intdm_of (Lb : Lib K) {a b : Int} {m : Nat} (hm : m ≤ n) (hb : b ≠ 0)
    (h6 : 0 < b → 0 ≤ a → FnSpec K m (.ref Lb.f6) [.int a, .int b] (.tup [.int (a.fdiv b), .int (a.fmod b)]))
    (h7 : 0 < b → a < 0 → FnSpec K m (.ref Lb.f7) [.int (-a - 1), .int b] (.tup [.int ((-a - 1).fdiv b), .int ((-a - 1).fmod b)]))
    (h8 : b < 0 → FnSpec K m (.ref Lb.f7) [.int (-a), .int (-b)] (.tup [.int ((-a).fdiv (-b)), .int ((-a).fmod (-b))])) : FnSpec K (n + 1) (.ref Lb.f7) [.int a, .int b] (.tup [.int (a.fdiv b), .int (a.fmod b)]) := by
  refine fn_spec (sh := ⟨["a", "b", "q", "r"], [], []⟩) (gl := ["ZeroDivisionError", "int_divmod", "_divmod_pos"]) (dd := []) (ρ0 := fun _ => mρ a b .un .un) Lb.o7 (fun N h => .nil) rfl rfl rfl (by decide +kernel) rfl (fun L => ?_)
    fun N0 L qual code => intdm_body hm hb Lb.g6 Lb.o6.obj Lb.g7 Lb.o7.obj h6 h7 h8
  exact .cons (.here nofun) (.cons (.there (.here nofun)) .nil)

/-- sizes that the law's divisions keep -/
structure DmOk (a b : Int) : Prop where
  b0 : b ≠ 0
  bits : bitN b.natAbs ≤ 2500
  cnt : ∀ x : Nat, x ≤ a.natAbs → cntD (bitN b.natAbs) x ≤ 20

theorem intdm_pos (Lb : Lib K) {a b : Int} (h : DmOk a b) (hb : 0 < b) (ha : 0 ≤ a) : FnSpec K (n + 23) (.ref Lb.f7) [.int a, .int b] (.tup [.int (a.fdiv b), .int (a.fmod b)]) := by
  refine intdm_of (n := n + 22) (m := n + 22) Lb (Nat.le_refl _) h.b0 (fun _ _ => ?_) (fun _ q => by omega) fun q => by omega
  obtain ⟨x, rfl⟩ := Int.eq_ofNat_of_zero_le ha
  obtain ⟨y, rfl⟩ := Int.eq_ofNat_of_zero_le (Int.le_of_lt hb)
  have hy : 0 < y := by omega
  rw [(fdm_nat x y hy).1, (fdm_nat x y hy).2]
  apply divmodpos_spec Lb hy h.bits
  exact h.cnt x (by rw [Int.natAbs_natCast]; exact Nat.le_refl _)
theorem intdm_any (Lb : Lib K) {a b : Int} (h : DmOk a b) (hb : 0 < b) : FnSpec K (n + 24) (.ref Lb.f7) [.int a, .int b] (.tup [.int (a.fdiv b), .int (a.fmod b)]) := by
  refine intdm_of (n := n + 23) (m := n + 23) Lb (Nat.le_refl _) h.b0 (fun _ ha => ?_) (fun _ ha => ?_) fun q => by omega
  · obtain ⟨x, rfl⟩ := Int.eq_ofNat_of_zero_le ha
    obtain ⟨y, rfl⟩ := Int.eq_ofNat_of_zero_le (Int.le_of_lt hb)
    have hy : 0 < y := by omega
    rw [(fdm_nat x y hy).1, (fdm_nat x y hy).2]
    apply divmodpos_spec (n := n + 1) Lb hy h.bits
    exact h.cnt x (by rw [Int.natAbs_natCast]; exact Nat.le_refl _)
  · apply intdm_pos Lb ⟨h.b0, h.bits, fun x hx => h.cnt x (by omega)⟩ hb
    omega
theorem intdm_spec (Lb : Lib K) {a b : Int} (h : DmOk a b) : FnSpec K (n + 25) (.ref Lb.f7) [.int a, .int b] (.tup [.int (a.fdiv b), .int (a.fmod b)]) := by
  by_cases hb : 0 < b
  · apply FnSpec.mono (n := n + 24)
    · apply intdm_any Lb h
      exact hb
    · omega
  · refine intdm_of (n := n + 24) (m := n + 24) Lb (Nat.le_refl _) h.b0 (fun q => absurd q hb) (fun q => absurd q hb) fun q => ?_
    apply intdm_any Lb ⟨by omega, by rw [Int.natAbs_neg]; exact h.bits, fun x hx => by rw [Int.natAbs_neg] at hx ⊢; exact h.cnt x hx⟩
    omega
end
end

/-! # part N3 -/
section
/-! ## what the law computes -/
noncomputable def menuS : List Str := [Str.ofString "", Str.ofString "\")\"", Str.ofString "\\)", Str.ofString "\\(", Str.ofString "\\\""]
noncomputable def onesL : List (Nat × Int) := [(0, 0), (1, 1), (2, 3), (3, 2), (4, 4)]
noncomputable def pieceNo (ts : List Int) (q : Nat × Int) : Int := (q.2 + (pickL ts (some (q.1 : Int)) none (some 7)).sum).fmod 5
noncomputable def piecesOf (ts : List Int) : List Str := onesL.map (fun q => menuS.getD (pieceNo ts q).toNat ⟨#[]⟩) ++ [Str.ofString "", Str.ofString "", Str.ofString ""]

noncomputable def rowsP (p : Nat) : List Str := rowsAt p (2 * p)
noncomputable def turnedL (p : Nat) : List Str := (rowsP p).map turnedP
noncomputable def ledL (p : Nat) : List Nat := (turnedL p).map fun r => bisL (rowsP p) r 0 (rowsP p).length
noncomputable def behL (p : Nat) : List Nat := (turnedL p).map fun r => bisR (rowsP p) r 0 (rowsP p).length

/-- one step along a ring -/
noncomputable def ringStep (led : List Nat) (st : List Nat × Nat) : List Nat × Nat := (st.1 ++ (if st.1.any (· == st.2) then [] else [st.2]), led.getD st.2 0)
noncomputable def ringAt (led : List Nat) (first : Nat) : Nat → List Nat × Nat
  | 0 => ([], first)
  | i + 1 => ringStep led (ringAt led first i)
/-- the rings and what was met, behind i rows -/
noncomputable def metStep (p : Nat) (led : List Nat) (st : List Nat × List Nat) (first : Nat) : List Nat × List Nat :=
  if st.2.any (· == first) then st else (st.1 ++ [(ringAt led first (2 * p)).1.length], st.2 ++ (ringAt led first (2 * p)).1)
noncomputable def metAt (p : Nat) (led : List Nat) : Nat → List Nat × List Nat
  | 0 => ([], [])
  | i + 1 => metStep p led (metAt p led i) i
noncomputable def ringsP (p : Nat) : List Nat := (metAt p (ledL p) (rowsP p).length).1

/-- the products -/
noncomputable def abvAt (p w : Nat) : Nat → Int
  | 0 => 1
  | i + 1 => abvAt p w i * (2 ^ (w * (p + (2 + i))) - 1)
noncomputable def blwAt (w : Nat) : Nat → Int
  | 0 => 1
  | i + 1 => blwAt w i * (2 ^ (w * (2 + i)) - 1)

noncomputable def sizeOk (p k size : Nat) : Bool := k % (2 * p / size) == 0
noncomputable def dueP (p : Nat) : List Nat := (List.range (2 * p)).map fun k => ((ringsP p).filter (sizeOk p k)).length
noncomputable def dueW (p w : Nat) (same : Bool) : List Nat := if same then dueP p else (dueP p).map fun one => 2 ^ w - 1 - one
noncomputable def topK (p : Nat) (due : List Nat) : List Nat := (List.range (2 * p)).filter fun k => decide (0 < due.getD k 0)
noncomputable def maxN (ks : List Int) : Int := ks.getD (argBest (fun i j => decide (ks.getD i 0 > ks.getD j 0)) (ks.length - 1)) 0

theorem pickL_toN {α : Type} {xs : List α} {b : Nat} : pickL xs none (some b) none = xs.take b := by
  by_cases h : b ≤ xs.length
  · exact pickL_to h
  · have e : pickL xs none (some (b : Int)) none = pickL xs none (some (xs.length : Int)) none := by
      unfold pickL sliceBounds
      have h2 : max 0 (min (b : Int) xs.length) = (xs.length : Int) := by omega
      have h3 : max 0 (min (xs.length : Int) xs.length) = (xs.length : Int) := by omega
      have n2 : ¬ ((b : Int) < 0) := by omega
      have n3 : ¬ ((xs.length : Int) < 0) := by omega
      simp only [Option.getD_none, n2, n3, if_false, h2, h3, show ((1 : Int) > 0) = True from by simp, if_true]
    rw [e, pickL_to (Nat.le_refl _), List.take_of_length_le (Nat.le_refl _), List.take_of_length_le (by omega)]

theorem joinOk_of {xs : List Str} (h : ∀ x ∈ xs, x.length ≤ 2000) (hl : xs.length ≤ 2000) : JoinOk (Str.ofString "") xs = true := by
  have key : ∀ (ys : List Str) (acc : Nat), (∀ x ∈ ys, x.length ≤ 2000) → ys.foldl (· + ·.length + (Str.ofString "").length) acc ≤ acc + 2000 * ys.length := by
    intro ys
    induction ys with
    | nil => intro acc _; simp
    | cons y ys ih =>
      intro acc h
      rw [List.foldl_cons, List.length_cons]
      have h1 := h y (.head _)
      have h2 := ih (acc + y.length + (Str.ofString "").length) fun x hx => h x (.tail _ hx)
      have h3 : (Str.ofString "").length = 0 := rfl
      omega
  unfold JoinOk
  rw [List.foldl_toArray]
  have := key xs 0 h
  have : ¬ (xs.foldl (· + ·.length + (Str.ofString "").length) 0 > sizeLine) := by rw [sizeLine_eq]; omega
  show (!decide (_ > sizeLine)) = true
  rw [decide_eq_false this]; rfl
end

/-! # part F44 -/
section
open PySem.Sem (wp)
section
variable {K : Cx} {n : Nat} {F : Fm} {P : Out → Prop} {R2 : Flow → Shared → Prop}

theorem blk_nilF {ρ' : List Var} (g : Forget F.ρ ρ') (h : P (.next ρ')) : Blk K n F [] P := fun R hF hQ => wpAny_execs_nil (hQ _ _ _ h ⟨rfl, FrOK.forget (F := F) (ρ := F.ρ) hF g⟩ (Ext.refl _))

theorem cd_max {ns : List Int} (hne : 0 < ns.length) : CallD K n F (.builtin "max") [.list (ns.map .int)] (.int (maxN ns)) := by
  intro A s Q E vs R hF hr hQ
  cases hr with
  | cons h1 h2 =>
  cases h2
  cases h1 with
  | list n1 l1 r1 =>
    rename_i a its
    have hall : AllInts its := fun v hv => by
      obtain ⟨i, t, e⟩ := reps_ints r1 v (Array.mem_toList_iff.mpr hv)
      exact ⟨i, t, e⟩
    obtain ⟨xs, rfl⟩ := hall.items
    have hn : (xs.toList.map (·.1)) = ns := by
      have e : (intItems xs).toList = xs.toList.map fun p => Value.int p.1 p.2 := by simp [intItems]
      rw [e] at r1
      clear hQ hall l1 n1 e hne
      generalize xs.toList = ys at r1
      induction ns generalizing ys with
      | nil => cases ys with
        | nil => rfl
        | cons y ys => cases r1
      | cons k ns ih =>
        cases ys with
        | nil => cases r1
        | cons y ys =>
          cases r1 with
          | cons q1 q2 =>
            cases q1
            rw [List.map_cons, ih _ q2]
    have hsz : xs.size = ns.length := by rw [← hn, List.length_map, Array.length_toList]
    have hnum : ∀ i, i < ns.length → numAt xs i = ns.getD i 0 := fun i hi => by
      rw [← hn, List.getD_eq_getElem?_getD, List.getElem?_map, Array.getElem?_toList, Array.getElem?_eq_getElem (by omega)]
      simp [numAt, Array.getElem?_eq_getElem (show i < xs.size by omega)]
    refine wpAny_gr (max_intList R.hh l1.isList (by omega) fun v h' tk hv k g => ?_)
    have hb : ∀ m, m < ns.length → argBest (fun i j => decide (numAt xs i > numAt xs j)) m = argBest (fun i j => decide (ns.getD i 0 > ns.getD j 0)) m ∧ argBest (fun i j => decide (ns.getD i 0 > ns.getD j 0)) m ≤ m := by
      intro m
      induction m with
      | zero => intro _; exact ⟨rfl, Nat.le_refl _⟩
      | succ m ih =>
        intro hm
        obtain ⟨i1, i2⟩ := ih (by omega)
        unfold argBest
        rw [i1, hnum _ hm, hnum _ (by omega)]
        refine ⟨rfl, ?_⟩
        split <;> omega
    obtain ⟨b1, b2⟩ := hb (ns.length - 1) (by omega)
    rw [hsz, b1] at hv
    have e : v = .int (maxN ns) (xs[argBest (fun i j => decide (ns.getD i 0 > ns.getD j 0)) (ns.length - 1)]'(by omega)).2 := by
      have hi : argBest (fun i j => decide (ns.getD i 0 > ns.getD j 0)) (ns.length - 1) < ns.length := by omega
      have h3 := hnum _ hi
      unfold intItems at hv
      rw [Array.getElem?_map, Array.getElem?_eq_getElem (by omega)] at hv
      simp only [Option.map_some, Option.some.injEq] at hv
      have hn2 : ∀ i (h : i < xs.size), numAt xs i = (xs[i]'h).1 := fun i h => by simp [numAt, Array.getElem?_eq_getElem h]
      rw [hn2 _ (by omega)] at h3
      unfold maxN
      rw [← h3, ← hv]
    rw [e]
    exact hQ _ _ (E0.grow k g.1) (.int _ _)

theorem ev_and2 {a b : Expr} {pos : Pos} {y : Bool} (ha : Ev K n F a (.bool true)) (hb : Ev K n F b (.bool y)) : Ev K n F (.BoolOp .And [a, b] pos) (.bool y) := fun R hF hQ =>
  BoolOp_and (ha R hF fun v s₁ x₁ r₁ => by
    cases r₁
    refine wpAny_pure (a := true) ?_
    rw [if_pos rfl]
    exact BoolOp_one (hb R (hF.ext0 x₁) fun u s₂ x₂ r₂ => hQ u s₂ (x₁.trans x₂) r₂))

theorem eval_nilList {A : Around} {s : Shared} {Q : Value → Shared → Prop} {E : Value → Shared → Prop} {p : Pos} {env : Env} (h : Q (.ref s.heap.objs.size) { s with heap := s.heap.push { cls := .type "list", data := .seq #[] } }) : wpAny K.M A (eval (.List [] p) env) Q E s := by
  refine wpAny_List ?_
  refine args_nil ?_
  exact ⟨Nat.zero_le _, h⟩

set_option maxHeartbeats 400000 in
/-- two names take two fresh lists; the first one is owned -/
theorem blk_own2 {x y : Str} {p1 p2 p3 q1 q2 q3 pos : Pos} {k k' : Nat} {rest : List Stmt} (ρ₁ ρ₂ ρ₃ : Addr → List Var) (u₁ : ∀ a, Upd x (.raw (.ref a)) F.ρ (ρ₁ a)) (u₂ : ∀ a, UpdA x (.own a []) (ρ₁ a) (ρ₂ a)) (u₃ : ∀ a, Upd y (.val (.list [])) (ρ₂ a) (ρ₃ a))
    (hP : RetOnly P) (hr : ∀ a, ¬ F.N a → Blk K n ((F.grab a).at (ρ₃ a)) rest P)
    (hs : swapsWithSole [.Tuple [.Name x p1, .Name y p2] k p3] (.Tuple [.List [] q1, .List [] q2] k' q3) pos.line F.env = pure false)
    (hw : swappedStores [.Tuple [.Name x p1, .Name y p2] k p3] (.Tuple [.List [] q1, .List [] q2] k' q3) F.env = pure none) :
    Blk K n F (.Assign [.Tuple [.Name x p1, .Name y p2] k p3] (.Tuple [.List [] q1, .List [] q2] k' q3) pos :: rest) P := fun R hF hQ => by
  rename_i A s Q E
  refine wpAny_execs_cons ?_
  rw [exec_Assign_all, hs, hw]
  refine wpAny_bind (wpAny_standAt (wpAny_bind (wpAny_pure ?_)))
  simp only [Bool.false_eq_true, if_false]
  refine wpAny_bind ?_
  refine wpAny_Tuple ?_
  refine args_cons ?_ rfl
  refine eval_nilList ?_
  refine args_cons ?_ rfl
  refine eval_nilList ?_
  refine args_nil ?_
  refine ⟨show 2 ≤ sizeLine by rw [sizeLine_eq]; omega, ?_⟩
  generalize hh1 : s.heap.push { cls := .type "list", data := .seq #[] } = h1
  generalize hh2 : h1.push { cls := .type "list", data := .seq #[] } = h2
  have z1 : h1.objs.size = s.heap.objs.size + 1 := by rw [← hh1, Heap.size_push]
  have z2 : h2.objs.size = s.heap.objs.size + 2 := by rw [← hh2, Heap.size_push, z1]
  have k1 : ∀ b o, s.heap.get? b = some o → h1.get? b = some o := fun b o e => by rw [← hh1]; exact Heap.get?_push_of_some _ e
  have k2 : ∀ b o, h1.get? b = some o → h2.get? b = some o := fun b o e => by rw [← hh2]; exact Heap.get?_push_of_some _ e
  have o1 : h1.get? s.heap.objs.size = some { cls := .type "list", data := .seq #[] } := by rw [← hh1]; exact Heap.get?_push_size _ rfl
  have o2 : h2.get? h1.objs.size = some { cls := .type "list", data := .seq #[] } := by rw [← hh2]; exact Heap.get?_push_size _ rfl
  refine wpAny_bind (wpAny_pure ?_)
  show wpAny _ _ (do assign (.Tuple [.Name x p1, .Name y p2] k p3) F.env (.ref h2.objs.size); pure Flow.next) _ _ _
  refine wpAny_bind ?_
  rw [arm_assign_Tuple]
  refine wpAny_bind (wpAny_standAt ?_)
  unfold unpack
  show wpAny _ _ (holding _ (unpackItems (.ref h2.objs.size) (#[Value.ref s.heap.objs.size, Value.ref h1.objs.size] : Array Value).size none) >>= fun vs => assignInOrder [assign (.Name x p1) F.env, assign (.Name y p2) F.env] vs) _ _ _
  have ht : (h2.push { cls := .type "tuple", data := .seq #[.ref s.heap.objs.size, .ref h1.objs.size] }).IsTuple h2.objs.size #[.ref s.heap.objs.size, .ref h1.objs.size] := ⟨_, Heap.get?_push_size _ rfl, rfl, 0, rfl⟩
  refine wpAny_bind (wpAny_holding (wpAny_gr (wpAny_unpackItems_tuple (s := { s with heap := h2.push { cls := .type "tuple", data := .seq #[.ref s.heap.objs.size, .ref h1.objs.size] } }) R.hh ht fun h' hx g => ?_)))
  generalize hh3 : h2.push { cls := .type "tuple", data := .seq #[.ref s.heap.objs.size, .ref h1.objs.size] } = h3 at hx g ht
  have z3 : h3.objs.size = s.heap.objs.size + 3 := by rw [← hh3, Heap.size_push, z2]
  have k3 : ∀ b o, h2.get? b = some o → h'.get? b = some o := fun b o e => by
    have e3 : h3.get? b = some o := by rw [← hh3]; exact Heap.get?_push_of_some _ e
    exact hx b o (Nat.ne_of_lt (Heap.lt_size e3)) e3
  have hsz : s.heap.objs.size ≤ h'.objs.size := by
    have g1 : h3.objs.size ≤ h'.objs.size := g.1
    omega
  have X0 : E0 K s { s with heap := h' } := E0.grow (tk := s.toks) (fun b o e => k3 b o (k2 b o (k1 b o e))) hsz
  show wpAny _ _ (do holding [.ref h1.objs.size] (assign (.Name x p1) F.env (.ref s.heap.objs.size)); (do holding [] (assign (.Name y p2) F.env (.ref h1.objs.size)); pure ())) _ _ _
  have pl1 : h'.PlainList s.heap.objs.size #[] := ⟨0, k3 _ _ (k2 _ _ o1)⟩
  refine wpAny_bind (wpAny_holding (wpAny_assign_Name (store_own hF X0 (Nat.le_refl _) pl1 .nil (u₁ _) (u₂ _) fun s₂ x₂ hF₂ => ?_)))
  have fa := fresh_facts hF (show s.heap.objs.size ≤ h1.objs.size by omega)
  have r2 : Rep (F.grab s.heap.objs.size).N s₂.heap (.list []) (.ref h1.objs.size) := by
    refine .list (items := #[]) (fun q => q.elim fa.2.1 fun q => ?_) ⟨0, x₂.heap _ _ fa.1 fa.2.2.2 (k3 _ _ o2)⟩ .nil
    have q' : h1.objs.size = s.heap.objs.size := q
    rw [z1] at q'
    exact Nat.succ_ne_self _ q'
  refine wpAny_bind (wpAny_holding (wpAny_assign_Name (store_val (F := (F.grab s.heap.objs.size).at (ρ₂ s.heap.objs.size)) hF₂ (u₃ _) r2 fun s₃ x₃ hF₃ => wpAny_pure (wpAny_pure ?_))))
  refine hr s.heap.objs.size (fresh_facts hF (Nat.le_refl _)).2.1 R hF₃ fun o f s₄ hp ho x₄ => ?_
  cases o with
  | next ρ => exact (hP ρ hp).elim
  | ret d =>
    refine hQ (.ret d) f s₄ hp ho ?_
    refine (((X0.of0.trans (x₂.mono (W' := fun b => F.W b ∨ b = s.heap.objs.size) (fun _ _ q => .inl q) fun _ _ q => q)).trans x₃).trans x₄).mono (fun b hs q => q.elim id fun q => ?_) fun _ _ q => q
    obtain ⟨o, e⟩ := Option.isSome_iff_exists.mp hs
    exact absurd (Heap.lt_size e) (Nat.not_lt.mpr (q ▸ Nat.le_refl _))
end
end

/-! # part F45 -/
section
open PySem.Sem (wp)
set_option genInjectivity false in
set_option genSizeOf false in
structure LV where
  script : En := .un
  total : En := .un
  k : En := .un
  turned : En := .un
  led : En := .un
  place : En := .un
  behind : En := .un
  met : En := .un
  first : En := .un
  ring : En := .un
  step : En := .un
  above : En := .un
  below : En := .un
  side : En := .un
  other : En := .un
  whole : En := .un
  rest : En := .un
  power : En := .un
  rounds : En := .un
  left : En := .un
  told : En := .un
  pairs : En := .un
  wide : En := .un
  menu : En := .un
  pieces : En := .un
  rows : En := .un
  rings : En := .un
  due : En := .un

noncomputable def lρ (L : Addr) (v : LV) : List Var := [⟨"script", .loc, v.script⟩, ⟨"total", .loc, v.total⟩, ⟨"k", .loc, v.k⟩, ⟨"turned", .loc, v.turned⟩, ⟨"led", .loc, v.led⟩, ⟨"place", .loc, v.place⟩, ⟨"behind", .loc, v.behind⟩, ⟨"met", .loc, v.met⟩, ⟨"first", .loc, v.first⟩,
  ⟨"ring", .loc, v.ring⟩, ⟨"step", .loc, v.step⟩, ⟨"above", .loc, v.above⟩, ⟨"below", .loc, v.below⟩, ⟨"side", .loc, v.side⟩, ⟨"other", .loc, v.other⟩, ⟨"whole", .loc, v.whole⟩, ⟨"rest", .loc, v.rest⟩, ⟨"power", .loc, v.power⟩, ⟨"rounds", .loc, v.rounds⟩, ⟨"left", .loc, v.left⟩,
  ⟨"told", .cell (L + 1 + 0), v.told⟩, ⟨"pairs", .cell (L + 1 + 1), v.pairs⟩, ⟨"wide", .cell (L + 1 + 2), v.wide⟩, ⟨"menu", .cell (L + 1 + 3), v.menu⟩, ⟨"pieces", .cell (L + 1 + 4), v.pieces⟩, ⟨"rows", .cell (L + 1 + 5), v.rows⟩, ⟨"rings", .cell (L + 1 + 6), v.rings⟩, ⟨"due", .cell (L + 1 + 7), v.due⟩]

noncomputable def lgl : List Str := ["sum", "enumerate", "_law_rows", "_law_answers", "len", "range", "int_divmod", "_int2digits", "max", "_digits2int"]
noncomputable def lF (W N No : Addr → Prop) (L : Addr) (qual : Str) (f : Addr) (code : Value) (v : LV) : Fm := ⟨W, N, No, fEnv (scopeA 19) L [] qual f code, lρ L v, lgl⟩
noncomputable def lawB : List Stmt := bodyA 19
noncomputable def okP : Out → Prop := fun o => o = .ret (.bool true)
theorem okRet : RetOnly okP := retOnly

/-- behind the rows -/
noncomputable def vA (sc : List Int) (tot : Int) (p w : Nat) : LV := { script := .val (.list (sc.map .int)), told := .val (.list ((sc.take 60).map .int)), total := .val (.int tot), pairs := .val (.int p), wide := .val (.int w), menu := .val (.list (menuS.map .str)), pieces := .val (.list ((piecesOf (sc.take 60)).map .str)), rows := .val (.list ((rowsP p).map .str)) }

section
variable {K : Cx} {n : Nat} {F : Fm} {P : Out → Prop} {R2 : Flow → Shared → Prop}

theorem blk_forget {ρ' : List Var} {rest : List Stmt} (g : Forget F.ρ ρ') (h : Blk K n (F.at ρ') rest P) : Blk K n F rest P := fun R hF hQ =>
  h R (FrOK.forget (F := F) (ρ := F.ρ) hF g) fun o f s' hp ho x => hQ o f s' hp ho x

theorem pieceNo_lt (ts : List Int) (q : Nat × Int) : 0 ≤ pieceNo ts q ∧ pieceNo ts q < 5 := by
  unfold pieceNo
  rw [Int.fmod_eq_emod_of_nonneg _ (by decide)]
  omega

theorem menu_get {i : Int} (h0 : 0 ≤ i) (h : i < 5) : (menuS.map D.str)[i.toNat]? = some (.str (menuS.getD i.toNat ⟨#[]⟩)) := by
  have hl : i.toNat < menuS.length := by show i.toNat < 5; omega
  rw [List.getElem?_map, List.getD_eq_getElem?_getD, List.getElem?_eq_getElem hl]; rfl

theorem pickLen {α : Type} (xs : List α) (lo hi st : Option Int) : True := trivial

set_option maxHeartbeats 4000000 in
theorem law_A (Lb : Lib K) {W N No : Addr → Prop} {L : Addr} {qual : Str} {f : Addr} {code : Value} {sc : List Int} {p w : Nat} {tot : Int} (hsc : sc.length ≤ 63) (htot : tot = 1 + (sc.take 60).sum) (hp : (p : Int) = 2 + tot.fmod 3) (hw : (w : Int) = 3 + (tot.fdiv 3).fmod 200)
    (hok : ∀ i, i ≤ 2 * p → rowsOk (rowsAt p i) = true) (hp4 : p ≤ 4)
    (hr : Blk K (n + 1) (lF W N No L qual f code (vA sc tot p w)) (lawB.drop 7) P) : Blk K (n + 1) (lF W N No L qual f code { script := .val (.list (sc.map .int)) }) lawB P := by
  apply blk_assignE (.list ((sc.take 60).map .int)) (lρ L { script := .val (.list (sc.map .int)), told := .val (.list ((sc.take 60).map .int)) })
  · apply ev_sliceE sc D.int none (some 60) (sc.take 60)
    · trivial
    · exact .none
    · apply PartD.int
      trivial
    · rw [sizeLine_eq]; omega
    · exact pickL_toN (b := 60)
  · trivial
  apply blk_assignE (.int tot) (lρ L { script := .val (.list (sc.map .int)), told := .val (.list ((sc.take 60).map .int)), total := .val (.int tot) })
  · rw [htot]
    apply ev_bin
    · trivial
    · apply ev_call_b
      · trivial
      · exact Lb.gsum
      · trivial
      · apply cd_sum
    · apply b_add
  · trivial
  apply blk_assignE (.int p) (lρ L { script := .val (.list (sc.map .int)), told := .val (.list ((sc.take 60).map .int)), total := .val (.int tot), pairs := .val (.int p) })
  · rw [hp]
    apply ev_bin
    · trivial
    · apply ev_bin
      · trivial
      · trivial
      · apply b_mod
        decide
    · apply b_add
  · trivial
  apply blk_assignE (.int w) (lρ L { script := .val (.list (sc.map .int)), told := .val (.list ((sc.take 60).map .int)), total := .val (.int tot), pairs := .val (.int p), wide := .val (.int w) })
  · rw [hw]
    apply ev_bin
    · trivial
    · apply ev_bin
      · trivial
      · trivial
      · apply b_mod
        decide
    · apply b_add
  · trivial
  apply blk_assignE (.list (menuS.map .str)) (lρ L { script := .val (.list (sc.map .int)), told := .val (.list ((sc.take 60).map .int)), total := .val (.int tot), pairs := .val (.int p), wide := .val (.int w), menu := .val (.list (menuS.map .str)) })
  · trivial
  · trivial
  apply blk_assignE (.list ((piecesOf (sc.take 60)).map .str)) (lρ L { script := .val (.list (sc.map .int)), told := .val (.list ((sc.take 60).map .int)), total := .val (.int tot), pairs := .val (.int p), wide := .val (.int w), menu := .val (.list (menuS.map .str)), pieces := .val (.list ((piecesOf (sc.take 60)).map .str)) })
  · apply Ev.eq
    · apply ev_bin
      · apply ev_compE ⟨["k", "one"], [], [("menu", L + 1 + 3, .list (menuS.map .str)), ("told", L + 1 + 0, .list ((sc.take 60).map .int))]⟩ ["menu", "told"] ["sum"] true onesL (fun q => .tup [.int q.1, .int q.2])
          (fun C q => [⟨"k", .loc, .val (.int q.1)⟩, ⟨"one", .loc, .val (.int q.2)⟩, ⟨"menu", .free (L + 1 + 3), .val (.list (menuS.map .str))⟩, ⟨"told", .free (L + 1 + 0), .val (.list ((sc.take 60).map .int))⟩]) (fun _ => true) (fun q => .str (menuS.getD (pieceNo (sc.take 60) q).toNat ⟨#[]⟩))
        · have e : onesL.map (fun q => D.tup [.int q.1, .int q.2]) = enumD [.int 0, .int 1, .int 3, .int 2, .int 4] := rfl
          rw [e]
          apply itr_enum_list
          · trivial
          · exact Lb.genum
          · apply evs_cons
            · trivial
            · trivial
            · intro _; rfl
        · exact True.intro
        · show compOk _ ["k", "one"] [] ["menu", "told"] ["sum"] = true
          decide +kernel
        · rfl
        · apply Fvs.cell
          · trivial
          · apply Fvs.cell
            · trivial
            · exact .nil
        · intro C acc fp q hq
          apply asg_two [⟨"k", .loc, .val (.int q.1)⟩, ⟨"one", .loc, .un⟩, ⟨"menu", .free (L + 1 + 3), .val (.list (menuS.map .str))⟩, ⟨"told", .free (L + 1 + 0), .val (.list ((sc.take 60).map .int))⟩]
          · trivial
          · trivial
        · intro C q hq
          exact .un (.un (.same (.same .nil)))
        · intro C acc fp q hq
          exact tests_nil
        · intro C acc fp q hq _
          obtain ⟨h0, h5⟩ := pieceNo_lt (sc.take 60) q
          apply ev_itemE (menuS.map .str) (pieceNo (sc.take 60) q) (.str (menuS.getD (pieceNo (sc.take 60) q).toNat ⟨#[]⟩))
          · trivial
          · unfold pieceNo
            apply ev_bin
            · apply ev_bin
              · trivial
              · apply ev_call_b
                · trivial
                · exact Lb.gsum
                · apply evs_cons
                  · apply Ev.eq
                    · apply ev_slice
                      · trivial
                      · apply PartD.int
                        trivial
                      · exact .none
                      · apply PartD.int
                        trivial
                      · decide
                      · rw [List.length_map, List.length_take, sizeLine_eq]; omega
                    · exact congrArg D.list (pick_map _ D.int _ _ _)
                  · trivial
                  · intro _; rfl
                · apply cd_sum
              · apply b_add
            · trivial
            · apply b_mod
              decide
          · exact h0
          · exact menu_get h0 h5
          · omega
          · intro _ _
            with_unfolding_all rfl
        · exact (by decide : 5 ≤ sizeLine)
        · intro _; rfl
      · trivial
      · apply b_lists
        exact (by decide : 5 + 3 ≤ sizeLine)
    · unfold piecesOf
      rw [List.map_append, List.map_map]
      rfl
  · trivial
  apply blk_assignE (.list ((rowsP p).map .str)) (lρ L (vA sc tot p w))
  · apply ev_call_fn
    · trivial
    · exact Lb.g16
    · exact Lb.o16.obj
    · trivial
    · apply rows_spec (n := n) (by omega) hok Lb.grange
      exact Lb.o16
    · exact Nat.le_refl _
  · trivial
  · exact hr
  all_goals rfl
end
end

/-! # part F46 -/
section
open PySem.Sem (wp)
noncomputable def vB (sc : List Int) (tot : Int) (p w : Nat) : LV := { vA sc tot p w with turned := .val (.list ((turnedL p).map .str)), led := .val (.list (intsD (ledL p))), behind := .val (.list (intsD (behL p))) }

noncomputable def ansD : D := .list [.bool true, .bool false, .bool false, .bool false, .bool false, .bool true, .bool true, .bool true]
/-- two data that Python finds equal -/
structure Same (a b : D) : Prop where
  la : a.py.canLay0 = true
  lb : b.py.canLay0 = true
  da : a.py.depth ≤ 50
  eq : PyData.eqv a.py b.py = true
noncomputable def sameB (a b : D) : Bool := a.py.canLay0 && b.py.canLay0 && decide (a.py.depth ≤ 50) && PyData.eqv a.py b.py
theorem sameB_ok {a b : D} (h : sameB a b = true) : Same a b := by
  unfold sameB at h
  simp only [Bool.and_eq_true, decide_eq_true_eq] at h
  exact ⟨h.1.1.1, h.1.1.2, h.1.2, h.2⟩

noncomputable def cutL (p : Nat) : D := .list ((ledL p).map fun (pl : Nat) => .list ((pickL (rowsP p) (some (pl : Int)) (some ((pl : Int) + 1)) none).map .str))
noncomputable def cutR (p : Nat) : D := .list ((behL p).map fun (pl : Nat) => .list ((pickL (rowsP p) (some ((pl : Int) - 1)) (some (pl : Int)) none).map .str))
noncomputable def oneL (p : Nat) : D := .list ((turnedL p).map fun r => .list [.str r])

section
variable {K : Cx} {n : Nat} {F : Fm} {P : Out → Prop} {R2 : Flow → Shared → Prop}

theorem c_ne_same {a b : D} (h : Same a b) : CmpD K F .NotEq a b false := fun R hF h1 h2 hq =>
  c_ne_any h.la h.lb h.da R hF h1 h2 fun s' x => by rw [h.eq]; exact hq s' x

theorem tr_cmpE {op : CmpOp} {l r : Expr} {pos : Pos} {c : Bool} (a b : D) (hl : Ev K n F l a) (hr : Ev K n F r b) (ho : CmpD K F op a b c) (hm : behindInMarks op r = false) : Tr K n F (.Compare l [op] [r] pos) c := tr_cmp hl hr ho hm

theorem filter_all {α : Type} (xs : List α) : (xs.filter fun _ => true) = xs := List.filter_eq_self.mpr fun _ _ => rfl

theorem loopT {α : Type} {elt target iter : Expr} {scope : Scope} {pos : Pos} {sh : Sh} {gl : List Str} {tup : Bool} (xs : List α) (f : α → D) (ρt : Addr → α → List Var) (g : α → D) (ht : TgtOK tup target)
    (hasg : ∀ C acc fp, ∀ x ∈ xs, Asg K (cFm F scope C acc fp sh gl) target (f x) (ρt C x)) (hfg : ∀ C, ∀ x ∈ xs, Forget (ρt C x) (sh.vars C))
    (helt : ∀ C acc fp, ∀ x ∈ xs, Ev K n ((cFm F scope C acc fp sh gl).at (ρt C x)) elt (g x)) (hz : xs.length ≤ sizeLine) :
    LoopOK K n F (.ListComp elt [⟨target, iter, [], 0⟩] scope pos) scope sh gl tup (xs.map f) (xs.map g) := by
  have h := loop1E (K := K) (n := n) (F := F) (elt := elt) (target := target) (iter := iter) (ifs := []) (scope := scope) (pos := pos) (sh := sh) (gl := gl) (tup := tup) xs f ρt (fun _ => true) g ht hasg hfg (fun C acc fp x hx => tests_nil) (fun C acc fp x hx _ => helt C acc fp x hx) hz
  rw [filter_all] at h
  exact h

theorem ev_compT {α : Type} {elt target iter : Expr} {scope : Scope} {pos : Pos} (sh : Sh) (fvn gl : List Str) (tup : Bool) (xs : List α) (f : α → D) (ρt : Addr → α → List Var) (g : α → D)
    (hi : Itr K n F iter tup (xs.map f)) (ht : TgtOK tup target) (hk : compOk scope sh.lv sh.cv fvn gl = true) (hfv : sh.fv.map (·.1) = fvn) (hsh : Fvs F.ρ sh.fv)
    (hasg : ∀ C acc fp, ∀ x ∈ xs, Asg K (cFm F scope C acc fp sh gl) target (f x) (ρt C x)) (hfg : ∀ C, ∀ x ∈ xs, Forget (ρt C x) (sh.vars C))
    (helt : ∀ C acc fp, ∀ x ∈ xs, Ev K n ((cFm F scope C acc fp sh gl).at (ρt C x)) elt (g x)) (hz : xs.length ≤ sizeLine)
    (hs : ∀ x, foldedSetIterable iter F.env x = pure x) : Ev K n F (.ListComp elt [⟨target, iter, [], 0⟩] scope pos) (.list (xs.map g)) := fun R hF hQ =>
  ev_compE (K := K) (n := n) (F := F) (elt := elt) (target := target) (iter := iter) (ifs := []) (scope := scope) (pos := pos) sh fvn gl tup xs f ρt (fun _ => true) g hi ht hk hfv hsh hasg hfg (fun C acc fp x hx => tests_nil) (fun C acc fp x hx _ => helt C acc fp x hx) hz hs R hF
    fun v s' x r => hQ v s' x (by rw [filter_all] at r; exact r)

theorem fmod_in {a : Int} {m : Nat} (h : 0 < m) : 0 ≤ a.fmod m ∧ (a.fmod m).toNat < m := by
  rw [Int.fmod_eq_emod_of_nonneg _ (by omega)]
  have h1 := Int.emod_nonneg a (show (m : Int) ≠ 0 by omega)
  have h2 := Int.emod_lt_of_pos a (show (0 : Int) < m by omega)
  omega

set_option maxHeartbeats 4000000 in
theorem law_B1 (Lb : Lib K) {W N No : Addr → Prop} {L : Addr} {qual : Str} {f : Addr} {code : Value} {sc : List Int} {p w m : Nat} {tot : Int} (hm : m ≤ n)
    (hl0 : 0 < (rowsP p).length) (hl1 : (rowsP p).length ≤ 1000)
    (hans : ∀ row ∈ rowsP p, FnSpec K m (.ref Lb.f18) [.str row, .list ((piecesOf (sc.take 60)).map .str)] ansD)
    (hr : Blk K n (lF W N No L qual f code (vA sc tot p w)) (lawB.drop 8) P) : Blk K n (lF W N No L qual f code (vA sc tot p w)) (lawB.drop 7) P := by
  have hll : ((rowsP p).map D.str).length = (rowsP p).length := List.length_map ..
  apply blk_ifE false
  · apply tr_cmpE (ansD) (ansD)
    · obtain ⟨h0, h1⟩ := fmod_in (a := tot.fdiv 3) hl0
      have hg : ((rowsP p).map D.str)[((tot.fdiv 3).fmod (rowsP p).length).toNat]? = some (.str ((rowsP p)[((tot.fdiv 3).fmod (rowsP p).length).toNat]'h1)) := by
        rw [List.getElem?_map, List.getElem?_eq_getElem h1]; rfl
      apply ev_call_fn
      · trivial
      · exact Lb.g18
      · exact Lb.o18.obj
      · apply evs_cons
        · apply ev_itemE ((rowsP p).map .str) ((tot.fdiv 3).fmod (rowsP p).length) _ ?_ ?_ h0 hg
          · omega
          · intro _ _
            with_unfolding_all rfl
          · trivial
          · apply Ev.eq
            · apply ev_bin
              · trivial
              · apply ev_call_b
                · trivial
                · exact Lb.glen
                · trivial
                · apply cd_len_list
                  rw [hll, sizeLine_eq]; omega
              · apply b_mod
                rw [hll]; omega
            · rw [hll]
        · trivial
        · intro _; rfl
      · exact hans _ (List.getElem_mem _)
      · exact hm
    · trivial
    · apply c_ne_same
      exact sameB_ok (by decide +kernel)
    · rfl
  · nofun
  · intro _
    exact hr

set_option maxHeartbeats 4000000 in
theorem law_B2 (Lb : Lib K) {W N No : Addr → Prop} {L : Addr} {qual : Str} {f : Addr} {code : Value} {sc : List Int} {p w m : Nat} {tot : Int} (hm : m ≤ n + 1)
    (hl1 : (rowsP p).length ≤ 1000)
    (htn : ∀ row ∈ rowsP p, FnSpec K m (.ref Lb.f17) [.str row, .list ((piecesOf (sc.take 60)).map .str)] (.str (turnedP row)))
    (s1 : Same (cutL p) (oneL p))
    (hr : Blk K (n + 1) (lF W N No L qual f code { vA sc tot p w with turned := .val (.list ((turnedL p).map .str)), led := .val (.list (intsD (ledL p))) }) (lawB.drop 11) P) : Blk K (n + 1) (lF W N No L qual f code (vA sc tot p w)) (lawB.drop 8) P := by
  have hll : ((rowsP p).map D.str).length = (rowsP p).length := List.length_map ..
  have hlt : (turnedL p).length = (rowsP p).length := List.length_map ..
  have hld : (ledL p).length = (rowsP p).length := by unfold ledL; rw [List.length_map, hlt]
  apply blk_assign_compE ⟨["row"], [], [("pieces", L + 1 + 4, .list ((piecesOf (sc.take 60)).map .str))]⟩ ["pieces"] ["_law_turned"] false ((rowsP p).map .str) ((turnedL p).map .str) (ρ' := lρ L { vA sc tot p w with turned := .val (.list ((turnedL p).map .str)) })
  · unfold turnedL
    rw [List.map_map]
    apply loopT (rowsP p) D.str (fun C r => [⟨"row", .loc, .val (.str r)⟩, ⟨"pieces", .free (L + 1 + 4), .val (.list ((piecesOf (sc.take 60)).map .str))⟩]) (D.str ∘ turnedP)
    · rfl
    · intro C acc fp r hr
      apply asg_name
      trivial
    · intro C r hr
      exact .un (.same .nil)
    · intro C acc fp r hr
      apply ev_call_fn
      · trivial
      · exact Lb.g17
      · exact Lb.o17.obj
      · trivial
      · exact htn r hr
      · exact hm
    · rw [sizeLine_eq]; omega
  · apply itr_list
    trivial
  · show compOk _ ["row"] [] ["pieces"] ["_law_turned"] = true
    decide +kernel
  · rfl
  · apply Fvs.cell
    · trivial
    · exact .nil
  · trivial
  · apply blk_assign_compE ⟨["row"], [], [("rows", L + 1 + 5, .list ((rowsP p).map .str))]⟩ ["rows"] ["bisect_left"] false ((turnedL p).map .str) (intsD (ledL p)) (ρ' := lρ L { vA sc tot p w with turned := .val (.list ((turnedL p).map .str)), led := .val (.list (intsD (ledL p))) })
    · unfold ledL intsD
      rw [List.map_map]
      apply loopT (turnedL p) D.str (fun C r => [⟨"row", .loc, .val (.str r)⟩, ⟨"rows", .free (L + 1 + 5), .val (.list ((rowsP p).map .str))⟩]) ((fun (i : Nat) => D.int i) ∘ fun r => bisL (rowsP p) r 0 (rowsP p).length)
      · rfl
      · intro C acc fp r hr
        apply asg_name
        trivial
      · intro C r hr
        exact .un (.same .nil)
      · intro C acc fp r hr
        apply ev_call_fn
        · trivial
        · exact Lb.gL
        · exact Lb.oL.obj
        · trivial
        · apply bisect_left_spec (n := n) (by rw [sizeLine_eq]; omega) Lb.glen
          exact Lb.oL
        · exact Nat.le_refl _
      · rw [hlt, sizeLine_eq]; omega
    · apply itr_list
      trivial
    · show compOk _ ["row"] [] ["rows"] ["bisect_left"] = true
      decide +kernel
    · rfl
    · apply Fvs.cell
      · trivial
      · exact .nil
    · trivial
    · apply blk_ifE false
      · apply tr_cmpE (cutL p) (oneL p)
        · apply ev_compT ⟨["place"], [], [("rows", L + 1 + 5, .list ((rowsP p).map .str))]⟩ ["rows"] [] false (ledL p) (fun (i : Nat) => D.int i) (fun C i => [⟨"place", .loc, .val (.int i)⟩, ⟨"rows", .free (L + 1 + 5), .val (.list ((rowsP p).map .str))⟩])
          · apply itr_list
            trivial
          · rfl
          · show compOk _ ["place"] [] ["rows"] [] = true
            decide +kernel
          · rfl
          · apply Fvs.cell
            · trivial
            · exact .nil
          · intro C acc fp r hr
            apply asg_name
            trivial
          · intro C r hr
            exact .un (.same .nil)
          · intro C acc fp pl hr
            apply ev_sliceE (rowsP p) D.str (some (pl : Int)) (some ((pl : Int) + 1)) (pickL (rowsP p) (some (pl : Int)) (some ((pl : Int) + 1)) none)
            · trivial
            · apply PartD.int
              trivial
            · apply PartD.int
              trivial
            · rw [sizeLine_eq]; omega
            · rfl
          · rw [hld, sizeLine_eq]; omega
          · intro _; rfl
        · apply ev_compT ⟨["row"], [], []⟩ [] [] false (turnedL p) D.str (fun C r => [⟨"row", .loc, .val (.str r)⟩])
          · apply itr_list
            trivial
          · rfl
          · show compOk _ ["row"] [] [] [] = true
            decide +kernel
          · rfl
          · exact .nil
          · intro C acc fp r hr
            apply asg_name
            trivial
          · intro C r hr
            exact .un .nil
          · intro C acc fp r hr
            trivial
          · rw [hlt, sizeLine_eq]; omega
          · intro _; rfl
        · exact c_ne_same s1
        · rfl
      · nofun
      · intro _
        exact hr
    · rfl
    · intro _; rfl
  · rfl
  · intro _; rfl

set_option maxHeartbeats 4000000 in
theorem law_B3 (Lb : Lib K) {W N No : Addr → Prop} {L : Addr} {qual : Str} {f : Addr} {code : Value} {sc : List Int} {p w m : Nat} {tot : Int}
    (hl1 : (rowsP p).length ≤ 1000) (s2 : Same (cutR p) (oneL p))
    (hr : Blk K (n + 1) (lF W N No L qual f code (vB sc tot p w)) (lawB.drop 13) P) : Blk K (n + 1) (lF W N No L qual f code { vA sc tot p w with turned := .val (.list ((turnedL p).map .str)), led := .val (.list (intsD (ledL p))) }) (lawB.drop 11) P := by
  have hll : ((rowsP p).map D.str).length = (rowsP p).length := List.length_map ..
  have hlt : (turnedL p).length = (rowsP p).length := List.length_map ..
  have hlb : (behL p).length = (rowsP p).length := by unfold behL; rw [List.length_map, hlt]
  apply blk_assign_compE ⟨["row"], [], [("rows", L + 1 + 5, .list ((rowsP p).map .str))]⟩ ["rows"] ["bisect_right"] false ((turnedL p).map .str) (intsD (behL p)) (ρ' := lρ L (vB sc tot p w))
  · unfold behL intsD
    rw [List.map_map]
    apply loopT (turnedL p) D.str (fun C r => [⟨"row", .loc, .val (.str r)⟩, ⟨"rows", .free (L + 1 + 5), .val (.list ((rowsP p).map .str))⟩]) ((fun (i : Nat) => D.int i) ∘ fun r => bisR (rowsP p) r 0 (rowsP p).length)
    · rfl
    · intro C acc fp r hr
      apply asg_name
      trivial
    · intro C r hr
      exact .un (.same .nil)
    · intro C acc fp r hr
      apply ev_call_fn
      · trivial
      · exact Lb.gR
      · exact Lb.oR.obj
      · trivial
      · apply bisect_right_spec (n := n) (by rw [sizeLine_eq]; omega) Lb.glen
        exact Lb.oR
      · exact Nat.le_refl _
    · rw [hlt, sizeLine_eq]; omega
  · apply itr_list
    trivial
  · show compOk _ ["row"] [] ["rows"] ["bisect_right"] = true
    decide +kernel
  · rfl
  · apply Fvs.cell
    · trivial
    · exact .nil
  · trivial
  · apply blk_ifE false
    · apply tr_cmpE (cutR p) (oneL p)
      · apply ev_compT ⟨["place"], [], [("rows", L + 1 + 5, .list ((rowsP p).map .str))]⟩ ["rows"] [] false (behL p) (fun (i : Nat) => D.int i) (fun C i => [⟨"place", .loc, .val (.int i)⟩, ⟨"rows", .free (L + 1 + 5), .val (.list ((rowsP p).map .str))⟩])
        · apply itr_list
          trivial
        · rfl
        · show compOk _ ["place"] [] ["rows"] [] = true
          decide +kernel
        · rfl
        · apply Fvs.cell
          · trivial
          · exact .nil
        · intro C acc fp r hr
          apply asg_name
          trivial
        · intro C r hr
          exact .un (.same .nil)
        · intro C acc fp pl hr
          apply ev_sliceE (rowsP p) D.str (some ((pl : Int) - 1)) (some (pl : Int)) (pickL (rowsP p) (some ((pl : Int) - 1)) (some (pl : Int)) none)
          · trivial
          · apply PartD.int
            trivial
          · apply PartD.int
            trivial
          · rw [sizeLine_eq]; omega
          · rfl
        · rw [hlb, sizeLine_eq]; omega
        · intro _; rfl
      · apply ev_compT ⟨["row"], [], []⟩ [] [] false (turnedL p) D.str (fun C r => [⟨"row", .loc, .val (.str r)⟩])
        · apply itr_list
          trivial
        · rfl
        · show compOk _ ["row"] [] [] [] = true
          decide +kernel
        · rfl
        · exact .nil
        · intro C acc fp r hr
          apply asg_name
          trivial
        · intro C r hr
          exact .un .nil
        · intro C acc fp r hr
          trivial
        · rw [hlt, sizeLine_eq]; omega
        · intro _; rfl
      · exact c_ne_same s2
      · rfl
    · nofun
    · intro _
      exact hr
  · rfl
  · intro _; rfl
end
end

/-! # part F47 -/
section
open PySem.Sem (wp)
noncomputable def fE : Nat → En
  | 0 => .un
  | i + 1 => .val (.int i)
noncomputable def vC (sc : List Int) (tot : Int) (p w : Nat) (mE1 fE1 : En) : LV := { vB sc tot p w with rings := .val (.list (intsD (ringsP p))), met := mE1, first := fE1 }

theorem ringAt_lt {led : List Nat} {i : Nat} (hi : i < led.length) (hl : ∀ x ∈ led, x < led.length) : ∀ j, (ringAt led i j).2 < led.length
  | 0 => hi
  | j + 1 => by
    have h := ringAt_lt hi hl j
    show led.getD (ringAt led i j).2 0 < _
    rw [List.getD_eq_getElem?_getD, List.getElem?_eq_getElem h]
    exact hl _ (List.getElem_mem _)
theorem ringAt_len {led : List Nat} {i : Nat} : ∀ j, (ringAt led i j).1.length ≤ j
  | 0 => Nat.le_refl _
  | j + 1 => by
    have h := ringAt_len (led := led) (i := i) j
    show ((ringAt led i j).1 ++ _).length ≤ _
    rw [List.length_append]
    split
    · simp; omega
    · simp; omega
theorem metAt_len {p : Nat} {led : List Nat} : ∀ i, (metAt p led i).1.length ≤ i ∧ (metAt p led i).2.length ≤ 2 * p * i
  | 0 => ⟨Nat.le_refl _, Nat.le_refl _⟩
  | i + 1 => by
    obtain ⟨h1, h2⟩ := metAt_len (p := p) (led := led) i
    show (metStep p led (metAt p led i) i).1.length ≤ _ ∧ (metStep p led (metAt p led i) i).2.length ≤ _
    unfold metStep
    have h3 := ringAt_len (led := led) (i := i) (2 * p)
    rw [Nat.mul_succ]
    split
    · omega
    · simp only [List.length_append, List.length_cons, List.length_nil]; omega

section
variable {K : Cx} {n : Nat} {F : Fm} {P : Out → Prop} {R2 : Flow → Shared → Prop}

theorem c_nin_nats {i : Nat} {xs : List Nat} : CmpD K F .NotIn (.int i) (.list (intsD xs)) (!xs.any (· == i)) := fun R hF h1 h2 h => by
  have e1 : intsD xs = (xs.map fun (i : Nat) => (i : Int)).map .int := by unfold intsD; rw [List.map_map]; rfl
  rw [e1] at h2
  refine c_nin_ints R hF h1 h2 fun s' x => ?_
  have e2 : ((xs.map fun (i : Nat) => (i : Int)).any (· == (i : Int))) = xs.any (· == i) := by
    rw [List.any_map]
    congr 1
    funext y
    show ((y : Int) == (i : Int)) = (y == i)
    rw [Bool.eq_iff_iff, beq_iff_eq, beq_iff_eq]
    constructor <;> intro h <;> omega
  rw [e2]
  exact h s' x

theorem blk_assignSwE {x y : Str} {t : Expr} {pos : Pos} {value : Expr} {rest : List Stmt} (d₁ d₂ : D) (ρ₁ ρ₂ : List Var) (hv : Ev K n F value (.tup [d₁, d₂])) (u₁ : Upd y (.val d₂) F.ρ ρ₁) (u₂ : Upd x (.val d₁) ρ₁ ρ₂)
    (hr : Blk K n (F.at ρ₂) rest P) (hs : swapsWithSole [t] value pos.line F.env = pure false) (hw : swappedStores [t] value F.env = pure (some [x, y])) : Blk K n F (.Assign [t] value pos :: rest) P := blk_assignSw hv u₁ u₂ hr hs hw

theorem range_nat {k : Nat} : intsD (List.range k) = (List.range ((k : Nat) : Int).toNat).map fun (i : Nat) => D.int (0 + i) := by
  rw [Int.toNat_natCast]; unfold intsD; congr 1; funext i; rw [Int.zero_add]
theorem range_get {k i : Nat} {d : D} (h : (intsD (List.range k))[i]? = some d) : i < k ∧ d = .int i := by
  obtain ⟨m, h1, rfl⟩ := intsD_inv h
  have hl := (List.getElem?_eq_some_iff.mp h1).1
  rw [List.length_range] at hl
  rw [List.getElem?_range hl] at h1
  cases h1
  exact ⟨hl, rfl⟩

/-- the frame within the loops -/
noncomputable def rρ2 (L : Addr) (v : LV) (a : Addr) (rg mt : List Nat) (fs rn pl st : En) : List Var := lρ L { v with rings := .own a (intsD rg), met := .val (.list (intsD mt)), first := fs, ring := rn, place := pl, step := st }

/-- one ring -/
noncomputable def inFor : List Stmt := match lawB.getD 14 (.Pass ⟨0, 0, 0, 0⟩) with
  | .For _ _ [.If _ b _ _] _ _ => b
  | _ => []

set_option maxHeartbeats 4000000 in
theorem law_ring {W N No : Addr → Prop} {L : Addr} {qual : Str} {f : Addr} {code : Value} {sc : List Int} {p w : Nat} {tot : Int} {a : Addr} {rg mt led : List Nat} {i : Nat} (Lb : Lib K) (hp4 : p ≤ 4) (hi : i < led.length) (hl : ∀ x ∈ led, x < led.length) (hled : led = ledL p)
    (hll : led.length ≤ 1000) (hz1 : rg.length ≤ 1000) (hz2 : mt.length ≤ 10000) :
    Blk K n ⟨W, N, No, fEnv (scopeA 19) L [] qual f code, rρ2 L (vB sc tot p w) a rg mt (.val (.int i)) .un .un .un, lgl⟩ inFor
      (fun o => o = .next (rρ2 L (vB sc tot p w) a (rg ++ [(ringAt led i (2 * p)).1.length]) (mt ++ (ringAt led i (2 * p)).1) (.val (.int i)) .un .un .un)) := by
  apply blk_assignSwE (.list []) (.int i) (rρ2 L (vB sc tot p w) a rg mt (.val (.int i)) .un (.val (.int i)) .un) (rρ2 L (vB sc tot p w) a rg mt (.val (.int i)) (.val (.list [])) (.val (.int i)) .un)
  · trivial
  · trivial
  · trivial
  · apply blk_cons (P1 := fun o => o = .next (rρ2 L (vB sc tot p w) a rg mt (.val (.int i)) (.val (.list (intsD (ringAt led i (2 * p)).1))) (.val (.int (ringAt led i (2 * p)).2)) (fE (2 * p))))
    · apply stm_forR (tup := false) (ds := intsD (List.range (2 * p))) (fun j => rρ2 L (vB sc tot p w) a rg mt (.val (.int i)) (.val (.list (intsD (ringAt led i j).1))) (.val (.int (ringAt led i j).2)) (fE j))
        (fun j => rρ2 L (vB sc tot p w) a rg mt (.val (.int i)) (.val (.list (intsD (ringAt led i j).1))) (.val (.int (ringAt led i j).2)) (fE (j + 1))) (fun _ => True) True.intro
      · rw [range_nat]
        apply itr_range1
        · trivial
        · exact Lb.grange
        · apply evs_cons
          · apply Ev.eq
            · apply ev_bin
              · trivial
              · trivial
              · apply b_mul
                apply IntMulOk.of_left
                decide
            · rw [Int.natCast_mul]; rfl
          · trivial
          · intro _; rfl
        · omega
        · omega
      · rfl
      · rfl
      · intro j; rfl
      · intro j; rfl
      · intro j d fp hd
        obtain ⟨hj, rfl⟩ := range_get hd
        apply asg_name
        show Upd "step" (.val (.int j)) _ (rρ2 L (vB sc tot p w) a rg mt (.val (.int i)) (.val (.list (intsD (ringAt led i j).1))) (.val (.int (ringAt led i j).2)) (.val (.int j)))
        trivial
      · intro j d fp hd _
        obtain ⟨hj, rfl⟩ := range_get hd
        have hr1 := ringAt_len (led := led) (i := i) j
        have hr2 := ringAt_lt hi hl j
        have hr3 : ringAt led i (j + 1) = ringStep led (ringAt led i j) := rfl
        rw [hr3]
        generalize ringAt led i j = st at *
        obtain ⟨rn, pl⟩ := st
        dsimp only at hr1 hr2
        unfold ringStep
        dsimp only
        apply blk_assignE (.list (intsD (rn ++ if rn.any (· == pl) then [] else [pl]))) (rρ2 L (vB sc tot p w) a rg mt (.val (.int i)) (.val (.list (intsD (rn ++ if rn.any (· == pl) then [] else [pl])))) (.val (.int pl)) (.val (.int j)))
        · rw [intsD_append]
          apply ev_bin
          · trivial
          · apply ev_ite (c := !rn.any (· == pl)) (d := .list (intsD (if rn.any (· == pl) then [] else [pl])))
            · apply tr_cmpE (.int pl) (.list (intsD rn))
              · trivial
              · trivial
              · exact c_nin_nats
              · rfl
            · intro hc
              have e : rn.any (· == pl) = false := by simpa using hc
              rw [e]
              show Ev _ _ _ _ (.list [.int pl])
              trivial
            · intro hc
              have e : rn.any (· == pl) = true := by simpa using hc
              rw [e]
              show Ev _ _ _ _ (.list [])
              trivial
          · apply b_lists
            rw [intsD_length, intsD_length, sizeLine_eq]
            split
            · simp; omega
            · simp; omega
        · trivial
        · apply blk_assignE (.int (led.getD pl 0 : Nat)) (rρ2 L (vB sc tot p w) a rg mt (.val (.int i)) (.val (.list (intsD (rn ++ if rn.any (· == pl) then [] else [pl])))) (.val (.int (led.getD pl 0 : Nat))) (.val (.int j)))
          · have hg : (intsD (ledL p))[((pl : Nat) : Int).toNat]? = some (.int (led.getD pl 0 : Nat)) := by
              rw [Int.toNat_natCast, ← hled]
              apply intsD_get
              rw [List.getD_eq_getElem?_getD, List.getElem?_eq_getElem hr2]; rfl
            apply ev_itemE (intsD (ledL p)) (pl : Int) (.int (led.getD pl 0 : Nat)) ?_ ?_ (by omega) hg (by omega)
            · intro _ _
              with_unfolding_all rfl
            · trivial
            · trivial
          · trivial
          · apply blk_nil
            exact .inl ⟨rfl, True.intro⟩
          · rfl
        · rfl
      · intro _
        rw [intsD_length, List.length_range]
      · intro _; rfl
    · rintro ρ' h
      cases h
      have hr1 := ringAt_len (led := led) (i := i) (2 * p)
      generalize ringAt led i (2 * p) = st at *
      obtain ⟨rn, pl⟩ := st
      dsimp only at hr1 ⊢
      apply blk_assignE (.list (intsD (mt ++ rn))) (rρ2 L (vB sc tot p w) a rg (mt ++ rn) (.val (.int i)) (.val (.list (intsD rn))) (.val (.int pl)) (fE (2 * p)))
      · rw [intsD_append]
        apply ev_bin
        · trivial
        · trivial
        · apply b_lists
          rw [intsD_length, intsD_length, sizeLine_eq]
          omega
      · trivial
      · apply blk_appendE (intsD rg) (.int rn.length) (rρ2 L (vB sc tot p w) a (rg ++ [rn.length]) (mt ++ rn) (.val (.int i)) (.val (.list (intsD rn))) (.val (.int pl)) (fE (2 * p)))
        · trivial
        · apply Ev.eq
          · apply ev_call_b
            · trivial
            · exact Lb.glen
            · trivial
            · apply cd_len_list
              rw [intsD_length, sizeLine_eq]; omega
          · rw [intsD_length]
        · rw [show intsD rg ++ [D.int ((rn.length : Nat) : Int)] = intsD (rg ++ [rn.length]) from (intsD_append rg [rn.length]).symm]
          trivial
        · rw [intsD_length, sizeLine_eq]; omega
        · have e : Forget (rρ2 L (vB sc tot p w) a (rg ++ [rn.length]) (mt ++ rn) (.val (.int i)) (.val (.list (intsD rn))) (.val (.int pl)) (fE (2 * p))) (rρ2 L (vB sc tot p w) a (rg ++ [rn.length]) (mt ++ rn) (.val (.int i)) .un .un .un) := by
            refine .same (.same (.same (.same (.same (.un (.same (.same (.same (.un ?_)))))))))
            cases p with
            | zero => exact .same (Forget.refl _)
            | succ q => exact .un (Forget.refl _)
          apply blk_nilF e
          rfl
        · rfl
        · rfl
        · rfl
        · rfl
        · rfl
      · rfl
    · intro d h
      cases h
  · rfl
  · rfl
end
section
variable {K : Cx} {n : Nat} {F : Fm} {P : Out → Prop} {R2 : Flow → Shared → Prop}
set_option maxHeartbeats 4000000 in
theorem law_C (Lb : Lib K) {W N No : Addr → Prop} {L : Addr} {qual : Str} {f : Addr} {code : Value} {sc : List Int} {p w : Nat} {tot : Int} (hNN : ∀ a, No a → N a) (hp4 : p ≤ 4) (hll : (rowsP p).length ≤ 1000) (hl : ∀ x ∈ ledL p, x < (ledL p).length)
    (hr : ∀ W N mE1 fE1, Blk K n (lF W N No L qual f code (vC sc tot p w mE1 fE1)) (lawB.drop 15) okP) : Blk K n (lF W N No L qual f code (vB sc tot p w)) (lawB.drop 13) okP := by
  have hld : (ledL p).length = (rowsP p).length := by unfold ledL turnedL; rw [List.length_map, List.length_map]
  apply blk_own2 (fun a => lρ L { vB sc tot p w with rings := .raw (.ref a) }) (fun a => lρ L { vB sc tot p w with rings := .own a [] }) (fun a => lρ L { vB sc tot p w with rings := .own a [], met := .val (.list []) })
  · intro a
    trivial
  · intro a
    trivial
  · intro a
    trivial
  · exact okRet
  rotate_left
  · rfl
  · rfl
  intro a ha
  apply blk_cons (P1 := fun o => o = .next (rρ2 L (vB sc tot p w) a (metAt p (ledL p) (rowsP p).length).1 (metAt p (ledL p) (rowsP p).length).2 (fE (rowsP p).length) .un .un .un))
  · apply stm_forR (tup := false) (ds := intsD (List.range (rowsP p).length)) (fun i => rρ2 L (vB sc tot p w) a (metAt p (ledL p) i).1 (metAt p (ledL p) i).2 (fE i) .un .un .un) (fun i => rρ2 L (vB sc tot p w) a (metAt p (ledL p) i).1 (metAt p (ledL p) i).2 (fE (i + 1)) .un .un .un) (fun _ => True) True.intro
    · rw [range_nat]
      apply itr_range1
      · trivial
      · exact Lb.grange
      · apply evs_cons
        · apply Ev.eq
          · apply ev_call_b
            · trivial
            · exact Lb.glen
            · trivial
            · apply cd_len_list
              rw [List.length_map, sizeLine_eq]; omega
          · rw [List.length_map]
        · trivial
        · intro _; rfl
      · omega
      · omega
    · rfl
    · rfl
    · intro i; rfl
    · intro i; rfl
    · intro i d fp hd
      obtain ⟨hi, rfl⟩ := range_get hd
      apply asg_name
      show Upd "first" (.val (.int i)) _ (rρ2 L (vB sc tot p w) a (metAt p (ledL p) i).1 (metAt p (ledL p) i).2 (.val (.int i)) .un .un .un)
      trivial
    · intro i d fp hd _
      obtain ⟨hi, rfl⟩ := range_get hd
      obtain ⟨m1, m2⟩ := metAt_len (p := p) (led := ledL p) i
      have m3 : metAt p (ledL p) (i + 1) = metStep p (ledL p) (metAt p (ledL p) i) i := rfl
      rw [m3]
      have mz : (metAt p (ledL p) i).2.length ≤ 10000 := Nat.le_trans m2 (Nat.le_trans (Nat.mul_le_mul (show 2 * p ≤ 8 by omega) (show i ≤ 1000 by omega)) (by decide))
      generalize metAt p (ledL p) i = st at *
      obtain ⟨rg, mt⟩ := st
      dsimp only at m1 mz ⊢
      unfold metStep
      dsimp only
      apply blk_ifE (!mt.any (· == i))
      · apply tr_cmpE (.int i) (.list (intsD mt))
        · show Ev _ _ (Fm.at _ (rρ2 L (vB sc tot p w) a rg mt (.val (.int i)) .un .un .un)) _ _
          trivial
        · trivial
        · exact c_nin_nats
        · rfl
      · intro hc
        have e : mt.any (· == i) = false := by simpa using hc
        rw [e]
        apply Blk.imp
        · apply law_ring (led := ledL p) Lb hp4 (by rw [hld]; exact hi) hl rfl (by rw [hld]; exact hll) (by omega)
          exact mz
        · rintro o rfl
          exact .inl ⟨rfl, True.intro⟩
      · intro hc
        have e : mt.any (· == i) = true := by simpa using hc
        rw [e]
        apply blk_nil
        exact .inl ⟨rfl, True.intro⟩
    · intro _
      rw [intsD_length, List.length_range]
    · intro _; rfl
  · rintro ρ' h
    cases h
    apply blk_freeze (x := "rings") (l := .cell (L + 1 + 6)) (a := a) (ds := intsD (ringsP p)) (ρ' := lρ L (vC sc tot p w (.val (.list (intsD (metAt p (ledL p) (rowsP p).length).2))) (fE (rowsP p).length)))
    · show (⟨"rings", .cell (L + 1 + 6), .own a (intsD (ringsP p))⟩ : Var) ∈ rρ2 L (vB sc tot p w) a (ringsP p) _ _ .un .un .un
      trivial
    · show UpdA _ _ (rρ2 L (vB sc tot p w) a (ringsP p) _ _ .un .un .un) _
      trivial
    · exact fun q => ha (hNN a q)
    · exact okRet
    · apply hr
  · intro d h
    cases h
end
end

/-! # part F48 -/
section
open PySem.Sem (wp)
noncomputable def kE : Nat → En
  | 0 => .un
  | i + 1 => .val (.int (2 + (i : Int)))
noncomputable def vD (sc : List Int) (tot : Int) (p w : Nat) (mE1 fE1 : En) (sd od : Int) (i : Nat) : LV := { vC sc tot p w mE1 fE1 with k := kE i, above := .val (.int (abvAt p w i)), below := .val (.int (blwAt w i)), side := .val (.int sd), other := .val (.int od) }
noncomputable def vE (sc : List Int) (tot : Int) (p w : Nat) (mE1 fE1 : En) (sd od wh re pw ro lf : Int) : LV := { vD sc tot p w mE1 fE1 sd od (p - 1) with whole := .val (.int wh), rest := .val (.int re), power := .val (.int pw), rounds := .val (.int ro), left := .val (.int lf) }

theorem pow_natAbs (e : Nat) : ((2 : Int) ^ e - 1).natAbs < 2 ^ e := by
  have h := Nat.two_pow_pos e
  have e1 : ((2 : Int) ^ e) = ((2 ^ e : Nat) : Int) := by norm_cast
  rw [e1]
  omega
theorem abv_bd {p w : Nat} (hp : p ≤ 4) (hw : w ≤ 300) : ∀ i, i ≤ 3 → (abvAt p w i).natAbs < 2 ^ (10000 * i + 1)
  | 0, _ => by show 1 < _; simp
  | i + 1, h => by
    have ih := abv_bd hp hw i (by omega)
    show (abvAt p w i * (2 ^ (w * (p + (2 + i))) - 1)).natAbs < _
    rw [Int.natAbs_mul]
    have h2 : w * (p + (2 + i)) ≤ 10000 := Nat.le_trans (Nat.mul_le_mul hw (show p + (2 + i) ≤ 9 by omega)) (by decide)
    have h3 : ((2 : Int) ^ (w * (p + (2 + i))) - 1).natAbs < 2 ^ 10000 := Nat.lt_of_lt_of_le (pow_natAbs _) (Nat.pow_le_pow_right (by decide) h2)
    rw [show 10000 * (i + 1) + 1 = (10000 * i + 1) + 10000 by omega, Nat.pow_add]
    exact Nat.mul_lt_mul'' ih h3
theorem blw_bd {w : Nat} (hw : w ≤ 300) : ∀ i, i ≤ 3 → (blwAt w i).natAbs < 2 ^ (10000 * i + 1)
  | 0, _ => by show 1 < _; simp
  | i + 1, h => by
    have ih := blw_bd hw i (by omega)
    show (blwAt w i * (2 ^ (w * (2 + i)) - 1)).natAbs < _
    rw [Int.natAbs_mul]
    have h2 : w * (2 + i) ≤ 10000 := Nat.le_trans (Nat.mul_le_mul hw (show 2 + i ≤ 9 by omega)) (by decide)
    have h3 : ((2 : Int) ^ (w * (2 + i)) - 1).natAbs < 2 ^ 10000 := Nat.lt_of_lt_of_le (pow_natAbs _) (Nat.pow_le_pow_right (by decide) h2)
    rw [show 10000 * (i + 1) + 1 = (10000 * i + 1) + 10000 by omega, Nat.pow_add]
    exact Nat.mul_lt_mul'' ih h3
theorem mulOk_bits {a b : Int} {k l : Nat} (ha : a.natAbs < 2 ^ k) (hb : b.natAbs < 2 ^ l) (h : k + l ≤ 2 ^ 26) : IntMulOk a b := by
  have h1 := bits_le ha
  have h2 := bits_le hb
  have h3 : Builtin.Int.intTooBig (Builtin.Int.intBits a + Builtin.Int.intBits b) = false := by
    unfold Builtin.Int.intTooBig
    have : ¬ (((Builtin.Int.intBits a : Int) + Builtin.Int.intBits b) > (bitsLine : Nat)) := by
      have e : bitsLine = 2 ^ 27 := rfl
      rw [e]; omega
    exact decide_eq_false this
  unfold IntMulOk
  rw [h3]
  simp

section
variable {K : Cx} {n : Nat} {F : Fm} {P : Out → Prop} {R2 : Flow → Shared → Prop}

theorem FnSpec.eq {v : Value} {ds : List D} {d d' : D} (h : FnSpec K n v ds d) (e : d = d') : FnSpec K n v ds d' := e ▸ h

theorem ev_pow2 {e : Expr} {pos p : Pos} {k b : Nat} (h : Ev K n F e (.int b)) (hb : 0 < b) (hz : b ≤ 2 ^ 20) : Ev K n F (.BinOp (.Constant (.int 2) k p) .Pow e pos) (.int (2 ^ b)) := by
  apply Ev.eq
  · apply ev_bin
    · apply ev_int
    · exact h
    · apply b_pow2
      · omega
      · omega
  · rw [Int.toNat_natCast]

theorem asg_four {x y z u : Str} {p1 p2 p3 p4 p5 : Pos} {k : Nat} {d1 d2 d3 d4 : D} {ρ4 : List Var} (ρ1 ρ2 ρ3 : List Var) (u1 : Upd x (.val d1) F.ρ ρ1) (u2 : Upd y (.val d2) ρ1 ρ2) (u3 : Upd z (.val d3) ρ2 ρ3) (u4 : Upd u (.val d4) ρ3 ρ4) :
    Asg K F (.Tuple [.Name x p1, .Name y p2, .Name z p3, .Name u p4] k p5) (.tup [d1, d2, d3, d4]) ρ4 :=
  asg_tuple (.cons (asg_name u1) (.cons (asg_name (F := F.at ρ1) u2) (.cons (asg_name (F := F.at ρ2) u3) (.cons (asg_name (F := F.at ρ3) u4) .nil (fun _ => rfl)) (fun _ => rfl)) (fun _ => rfl)) (fun _ => rfl))

noncomputable def signs : List D := [.int 1, .int (-1)]

set_option maxHeartbeats 4000000 in
theorem law_D1 (Lb : Lib K) {W N No : Addr → Prop} {L : Addr} {qual : Str} {f : Addr} {code : Value} {sc : List Int} {p w : Nat} {tot : Int} {mE1 fE1 : En} {sd od : Int}
    (hsd : signs[((tot.fdiv 6).fmod 2).toNat]? = some (.int sd)) (hod : signs[((tot.fdiv 12).fmod 2).toNat]? = some (.int od))
    (hr : Blk K n (lF W N No L qual f code (vD sc tot p w mE1 fE1 sd od 0)) (lawB.drop 16) P) : Blk K n (lF W N No L qual f code (vC sc tot p w mE1 fE1)) (lawB.drop 15) P := by
  have q6 : 0 ≤ (tot.fdiv 6).fmod 2 ∧ (tot.fdiv 6).fmod 2 < 2 := by
    rw [Int.fmod_eq_emod_of_nonneg _ (by decide)]
    omega
  have q12 : 0 ≤ (tot.fdiv 12).fmod 2 ∧ (tot.fdiv 12).fmod 2 < 2 := by
    rw [Int.fmod_eq_emod_of_nonneg _ (by decide)]
    omega
  apply blk_assignTE (.tup [.int 1, .int 1, .int sd, .int od]) (lρ L (vD sc tot p w mE1 fE1 sd od 0))
  · apply ev_tup
    · apply evs_cons
      · trivial
      · apply evs_cons
        · trivial
        · apply evs_cons
          · apply ev_itemE signs ((tot.fdiv 6).fmod 2) (.int sd)
            · trivial
            · apply ev_bin
              · trivial
              · trivial
              · apply b_mod
                decide
            · exact q6.1
            · exact hsd
            · omega
            · intro _ _
              with_unfolding_all rfl
          · apply evs_cons
            · apply ev_itemE signs ((tot.fdiv 12).fmod 2) (.int od)
              · trivial
              · apply ev_bin
                · trivial
                · trivial
                · apply b_mod
                  decide
              · exact q12.1
              · exact hod
              · omega
              · intro _ _
                with_unfolding_all rfl
            · trivial
            · intro _; rfl
          · intro _; rfl
        · intro _; rfl
      · intro _; rfl
    · decide
  · apply asg_four (lρ L { vC sc tot p w mE1 fE1 with above := .val (.int 1) }) (lρ L { vC sc tot p w mE1 fE1 with above := .val (.int 1), below := .val (.int 1) }) (lρ L { vC sc tot p w mE1 fE1 with above := .val (.int 1), below := .val (.int 1), side := .val (.int sd) })
    · trivial
    · trivial
    · trivial
    · show Upd _ _ _ (lρ L { vC sc tot p w mE1 fE1 with above := .val (.int 1), below := .val (.int 1), side := .val (.int sd), other := .val (.int od) })
      trivial
  · exact hr
  · rfl
  · rfl
  · intro _; rfl

set_option maxHeartbeats 4000000 in
theorem law_D2 (Lb : Lib K) {W N No : Addr → Prop} {L : Addr} {qual : Str} {f : Addr} {code : Value} {sc : List Int} {p w : Nat} {tot : Int} {mE1 fE1 : En} {sd od : Int} (hp2 : 2 ≤ p) (hp4 : p ≤ 4) (hw0 : 0 < w) (hw : w ≤ 300) (hP : RetOnly P)
    (hr : Blk K n (lF W N No L qual f code (vD sc tot p w mE1 fE1 sd od (p - 1))) (lawB.drop 17) P) : Blk K n (lF W N No L qual f code (vD sc tot p w mE1 fE1 sd od 0)) (lawB.drop 16) P := by
  apply blk_cons (P1 := fun o => o = .next (lρ L (vD sc tot p w mE1 fE1 sd od (p - 1))))
  · apply stm_forR (tup := false) (ds := (List.range (p - 1)).map fun (i : Nat) => .int (2 + i)) (fun i => lρ L (vD sc tot p w mE1 fE1 sd od i)) (fun i => lρ L { vD sc tot p w mE1 fE1 sd od i with k := kE (i + 1) }) (fun _ => True) True.intro
    · have e : (List.range (p - 1)).map (fun (i : Nat) => D.int (2 + i)) = (List.range ((p : Int) + 1 - 2).toNat).map fun (i : Nat) => .int (2 + i) := by
        rw [show ((p : Int) + 1 - 2).toNat = p - 1 by omega]
      rw [e]
      apply itr_range2
      · trivial
      · exact Lb.grange
      · trivial
      · omega
      · omega
      · omega
    · rfl
    · rfl
    · intro i; rfl
    · intro i; rfl
    · intro i d fp hd
      rw [List.getElem?_map, Option.map_eq_some_iff] at hd
      obtain ⟨j, h1, rfl⟩ := hd
      have hl := (List.getElem?_eq_some_iff.mp h1).1
      rw [List.length_range] at hl
      rw [List.getElem?_range hl] at h1
      cases h1
      apply asg_name
      show Upd "k" (.val (.int (2 + (i : Int)))) _ (lρ L { vD sc tot p w mE1 fE1 sd od i with k := .val (.int (2 + (i : Int))) })
      trivial
    · intro i d fp hd _
      have hi : i < p - 1 := by
        have := (List.getElem?_eq_some_iff.mp hd).1
        rwa [List.length_map, List.length_range] at this
      have hb1 := abv_bd hp4 hw i (by omega)
      have hb2 := blw_bd hw i (by omega)
      have g1 : w * (p + (2 + i)) ≤ 10000 := Nat.le_trans (Nat.mul_le_mul hw (show p + (2 + i) ≤ 9 by omega)) (by decide)
      have g2 : w * (2 + i) ≤ 10000 := Nat.le_trans (Nat.mul_le_mul hw (show 2 + i ≤ 9 by omega)) (by decide)
      have g3 : 0 < w * (p + (2 + i)) := Nat.mul_pos hw0 (by omega)
      have g4 : 0 < w * (2 + i) := Nat.mul_pos hw0 (by omega)
      show Blk _ _ (Fm.at _ (lρ L { vD sc tot p w mE1 fE1 sd od i with k := .val (.int (2 + (i : Int))) })) _ _
      apply blk_assignE (.int (abvAt p w (i + 1))) (lρ L { vD sc tot p w mE1 fE1 sd od i with k := .val (.int (2 + (i : Int))), above := .val (.int (abvAt p w (i + 1))) })
      · show Ev _ _ _ _ (.int (abvAt p w i * (2 ^ (w * (p + (2 + i))) - 1)))
        apply ev_bin
        · trivial
        · apply ev_bin
          · apply ev_pow2 (b := w * (p + (2 + i)))
            · apply Ev.eq
              · apply ev_bin
                · trivial
                · trivial
                · apply b_mul
                  apply IntMulOk.of_left
                  exact Nat.le_trans (bits_le (k := 14) (by rw [Int.natAbs_natCast]; omega)) (by decide)
              · rw [Int.natCast_mul, Int.natCast_add, Int.natCast_add]; rfl
            · exact g3
            · omega
          · trivial
          · trivial
        · apply b_mul
          exact mulOk_bits hb1 (pow_natAbs _) (by omega)
      · trivial
      · apply blk_assignE (.int (blwAt w (i + 1))) (lρ L { vD sc tot p w mE1 fE1 sd od i with k := .val (.int (2 + (i : Int))), above := .val (.int (abvAt p w (i + 1))), below := .val (.int (blwAt w (i + 1))) })
        · show Ev _ _ _ _ (.int (blwAt w i * (2 ^ (w * (2 + i)) - 1)))
          apply ev_bin
          · trivial
          · apply ev_bin
            · apply ev_pow2 (b := w * (2 + i))
              · apply Ev.eq
                · apply ev_bin
                  · trivial
                  · trivial
                  · apply b_mul
                    apply IntMulOk.of_left
                    exact Nat.le_trans (bits_le (k := 14) (by rw [Int.natAbs_natCast]; omega)) (by decide)
                · rw [Int.natCast_mul, Int.natCast_add]; rfl
              · exact g4
              · omega
            · trivial
            · trivial
          · apply b_mul
            exact mulOk_bits hb2 (pow_natAbs _) (by omega)
        · trivial
        · apply blk_nil
          exact .inl ⟨rfl, True.intro⟩
        · rfl
      · rfl
    · intro _
      rw [List.length_map, List.length_range]
    · intro _; rfl
  · rintro ρ' h
    cases h
    exact hr
  · intro d h
    cases h

set_option maxHeartbeats 4000000 in
theorem law_D3 (Lb : Lib K) {W N No : Addr → Prop} {L : Addr} {qual : Str} {f : Addr} {code : Value} {sc : List Int} {p w : Nat} {tot : Int} {mE1 fE1 : En} {sd od wh : Int} (hp2 : 2 ≤ p) (hp4 : p ≤ 4) (hw0 : 0 < w) (hw : w ≤ 300) (hn : 25 ≤ n)
    (h1 : DmOk (abvAt p w (p - 1)) (sd * blwAt w (p - 1))) (h0 : (abvAt p w (p - 1)).fmod (sd * blwAt w (p - 1)) = 0) (hwh : wh = (abvAt p w (p - 1)).fdiv (sd * blwAt w (p - 1)))
    (h2 : DmOk wh (od * (2 ^ (2 * p * w) - 1))) (hsd : sd = 1 ∨ sd = -1) (hod : od = 1 ∨ od = -1)
    (hr : Blk K n (lF W N No L qual f code (vE sc tot p w mE1 fE1 sd od wh 0 (2 ^ (2 * p * w) - 1) (wh.fdiv (od * (2 ^ (2 * p * w) - 1))) (wh.fmod (od * (2 ^ (2 * p * w) - 1))))) (lawB.drop 21) P) :
    Blk K n (lF W N No L qual f code (vD sc tot p w mE1 fE1 sd od (p - 1))) (lawB.drop 17) P := by
  have bs : ∀ {x : Int}, (x = 1 ∨ x = -1) → Builtin.Int.intBits x ≤ 64 := by
    rintro x (rfl | rfl) <;> decide +kernel
  have g1 : 2 * p * w ≤ 10000 := Nat.le_trans (Nat.mul_le_mul (show 2 * p ≤ 8 by omega) hw) (by decide)
  have g2 : 0 < 2 * p * w := Nat.mul_pos (by omega) hw0
  apply blk_assignTE (.tup [.int wh, .int 0]) (lρ L { vD sc tot p w mE1 fE1 sd od (p - 1) with whole := .val (.int wh), rest := .val (.int 0) })
  · apply ev_call_fn
    · trivial
    · exact Lb.g7
    · exact Lb.o7.obj
    · apply evs_cons
      · trivial
      · apply evs_cons
        · apply ev_bin
          · trivial
          · trivial
          · apply b_mul
            exact IntMulOk.of_left (bs hsd)
        · trivial
        · intro _; rfl
      · intro _; rfl
    · apply FnSpec.eq
      · apply intdm_spec (n := 0) Lb
        exact h1
      · rw [h0, ← hwh]
    · exact hn
  · apply asg_two (lρ L { vD sc tot p w mE1 fE1 sd od (p - 1) with whole := .val (.int wh) })
    · trivial
    · trivial
  rotate_left
  · rfl
  · rfl
  · intro _; rfl
  apply blk_ifE false
  · apply Tr.eq
    · apply tr_cmpE (.int 0) (.int 0)
      · trivial
      · trivial
      · apply c_ne_int
      · rfl
    · rfl
  · nofun
  · intro _
    apply blk_assignE (.int (2 ^ (2 * p * w) - 1)) (lρ L { vD sc tot p w mE1 fE1 sd od (p - 1) with whole := .val (.int wh), rest := .val (.int 0), power := .val (.int (2 ^ (2 * p * w) - 1)) })
    · apply ev_bin
      · apply ev_pow2 (b := 2 * p * w)
        · apply Ev.eq
          · apply ev_bin
            · apply ev_bin
              · trivial
              · trivial
              · apply b_mul
                apply IntMulOk.of_left
                decide
            · trivial
            · apply b_mul
              apply IntMulOk.of_right
              exact Nat.le_trans (bits_le (k := 14) (by rw [Int.natAbs_natCast]; omega)) (by decide)
          · rw [Int.natCast_mul, Int.natCast_mul]; rfl
        · exact g2
        · omega
      · trivial
      · trivial
    · trivial
    · apply blk_assignTE (.tup [.int (wh.fdiv (od * (2 ^ (2 * p * w) - 1))), .int (wh.fmod (od * (2 ^ (2 * p * w) - 1)))]) (lρ L (vE sc tot p w mE1 fE1 sd od wh 0 (2 ^ (2 * p * w) - 1) (wh.fdiv (od * (2 ^ (2 * p * w) - 1))) (wh.fmod (od * (2 ^ (2 * p * w) - 1)))))
      · apply ev_call_fn
        · trivial
        · exact Lb.g7
        · exact Lb.o7.obj
        · apply evs_cons
          · trivial
          · apply evs_cons
            · apply ev_bin
              · trivial
              · trivial
              · apply b_mul
                exact IntMulOk.of_left (bs hod)
            · trivial
            · intro _; rfl
          · intro _; rfl
        · apply intdm_spec (n := 0) Lb
          exact h2
        · exact hn
      · apply asg_two (lρ L { vD sc tot p w mE1 fE1 sd od (p - 1) with whole := .val (.int wh), rest := .val (.int 0), power := .val (.int (2 ^ (2 * p * w) - 1)), rounds := .val (.int (wh.fdiv (od * (2 ^ (2 * p * w) - 1)))) })
        · trivial
        · show Upd _ _ _ (lρ L { vD sc tot p w mE1 fE1 sd od (p - 1) with whole := .val (.int wh), rest := .val (.int 0), power := .val (.int (2 ^ (2 * p * w) - 1)), rounds := .val (.int (wh.fdiv (od * (2 ^ (2 * p * w) - 1)))), left := .val (.int (wh.fmod (od * (2 ^ (2 * p * w) - 1)))) })
          trivial
      · exact hr
      · rfl
      · rfl
      · intro _; rfl
    · rfl
end
end

/-! # part F49 -/
section
open PySem.Sem (wp)
theorem nats_canLay : ∀ xs : List Nat, PyData.canLayAll0 (D.pys (intsD xs)) = true
  | [] => rfl
  | x :: xs => by
    show (PyData.canLay0 (.int x) && PyData.canLayAll0 (D.pys (intsD xs))) = true
    rw [nats_canLay xs]; rfl
theorem nats_depth : ∀ xs : List Nat, PyData.depthAll (D.pys (intsD xs)) = 0
  | [] => rfl
  | x :: xs => by
    show max (PyData.depth (.int x)) (PyData.depthAll (D.pys (intsD xs))) = 0
    rw [nats_depth xs]; rfl
theorem same_nats (xs : List Nat) : Same (.list (intsD xs)) (.list (intsD xs)) where
  la := nats_canLay xs
  lb := nats_canLay xs
  da := by
    show PyData.depthAll (D.pys (intsD xs)) + 1 ≤ 50
    rw [nats_depth]; decide
  eq := SeqAt.eqv_refl _ (nats_canLay xs)

noncomputable def vF (sc : List Int) (tot : Int) (p w : Nat) (mE1 fE1 : En) (sd od wh re pw ro lf : Int) (due : List Nat) : LV := { vE sc tot p w mE1 fE1 sd od wh re pw ro lf with due := .val (.list (intsD due)) }

section
variable {K : Cx} {n : Nat} {F : Fm} {P : Out → Prop} {R2 : Flow → Shared → Prop}

theorem sizeOk_int {p k size : Nat} (h0 : 0 < size) (h1 : size ≤ 2 * p) : (((k : Int).fmod (((2 : Int) * (p : Int)).fdiv (size : Int))) == 0) = sizeOk p k size ∧ ((2 : Int) * (p : Int)).fdiv (size : Int) ≠ 0 := by
  have hq : 0 < 2 * p / size := Nat.div_pos h1 h0
  have e1 : ((2 : Int) * (p : Int)).fdiv (size : Int) = ((2 * p / size : Nat) : Int) := by
    have := (fdm_nat (2 * p) size h0).1
    rw [Int.natCast_mul] at this
    exact this
  rw [e1, (fdm_nat k (2 * p / size) hq).2]
  refine ⟨?_, by omega⟩
  unfold sizeOk
  rw [Bool.eq_iff_iff, beq_iff_eq, beq_iff_eq]
  constructor <;> intro h <;> omega

theorem ev_cmpE {op : CmpOp} {l r : Expr} {pos : Pos} {c : Bool} (a b : D) (hl : Ev K n F l a) (hr : Ev K n F r b) (ho : CmpD K F op a b c) (hm : behindInMarks op r = false) : Ev K n F (.Compare l [op] [r] pos) (.bool c) := ev_cmp hl hr ho hm

set_option maxHeartbeats 4000000 in
theorem law_E1 (Lb : Lib K) {W N No : Addr → Prop} {L : Addr} {qual : Str} {f : Addr} {code : Value} {sc : List Int} {p w : Nat} {tot : Int} {mE1 fE1 : En} {sd od wh re pw ro lf : Int} (hp4 : p ≤ 4) (hrs : ∀ x ∈ ringsP p, 0 < x ∧ x ≤ 2 * p) (hrl : (ringsP p).length ≤ 1000)
    (hr : Blk K n (lF W N No L qual f code (vF sc tot p w mE1 fE1 sd od wh re pw ro lf (dueP p))) (lawB.drop 22) P) :
    Blk K n (lF W N No L qual f code (vE sc tot p w mE1 fE1 sd od wh re pw ro lf)) (lawB.drop 21) P := by
  have e0 : intsD (dueP p) = (List.range (2 * p)).map ((fun (i : Nat) => D.int i) ∘ fun k => ((ringsP p).filter (sizeOk p k)).length) := by
    unfold dueP intsD
    rw [List.map_map]
  apply blk_assignE (.list (intsD (dueP p))) (lρ L (vF sc tot p w mE1 fE1 sd od wh re pw ro lf (dueP p)))
  · rw [e0]
    apply ev_compT ⟨[], [("k", 0)], [("pairs", L + 1 + 1, .int p), ("rings", L + 1 + 6, .list (intsD (ringsP p)))]⟩ ["pairs", "rings"] ["len"] false (List.range (2 * p)) (fun (i : Nat) => D.int i) (fun C i => [⟨"k", .cell (C + 1 + 0), .val (.int i)⟩, ⟨"pairs", .free (L + 1 + 1), .val (.int p)⟩, ⟨"rings", .free (L + 1 + 6), .val (.list (intsD (ringsP p)))⟩]) ((fun (i : Nat) => D.int i) ∘ fun k => ((ringsP p).filter (sizeOk p k)).length)
    · show Itr _ _ _ _ _ (intsD (List.range (2 * p)))
      rw [range_nat]
      apply itr_range1
      · trivial
      · exact Lb.grange
      · apply evs_cons
        · apply Ev.eq
          · apply ev_bin
            · trivial
            · trivial
            · apply b_mul
              apply IntMulOk.of_left
              decide
          · rw [Int.natCast_mul]; rfl
        · trivial
        · intro _; rfl
      · omega
      · omega
    · rfl
    · show compOk _ [] [("k", 0)] ["pairs", "rings"] ["len"] = true
      decide +kernel
    · rfl
    · apply Fvs.cell
      · trivial
      · apply Fvs.cell
        · trivial
        · exact .nil
    · intro C acc fp i hi
      apply asg_name
      trivial
    · intro C i hi
      exact .un (.same (.same .nil))
    · intro C acc fp k hk
      apply Ev.eq
      · apply ev_call_b
        · trivial
        · exact Lb.glen
        · apply evs_cons
          · apply ev_compE ⟨["size"], [], [("k", C + 1 + 0, .int k), ("pairs", L + 1 + 1, .int p)]⟩ ["k", "pairs"] [] false (ringsP p) (fun (i : Nat) => D.int i) (fun C' i => [⟨"size", .loc, .val (.int i)⟩, ⟨"k", .free (C + 1 + 0), .val (.int k)⟩, ⟨"pairs", .free (L + 1 + 1), .val (.int p)⟩]) (sizeOk p k) (fun (i : Nat) => D.int i)
            · apply itr_list
              trivial
            · rfl
            · show compOk _ ["size"] [] ["k", "pairs"] [] = true
              decide +kernel
            · rfl
            · apply Fvs.cell
              · trivial
              · apply Fvs.free
                · trivial
                · exact .nil
            · intro C' acc' fp' i hi
              apply asg_name
              trivial
            · intro C' i hi
              exact .un (.same (.same .nil))
            · intro C' acc' fp' i hi
              obtain ⟨h1, h2⟩ := hrs i hi
              obtain ⟨q1, q2⟩ := sizeOk_int (k := k) h1 h2
              apply tests_one
              apply Tr.eq
              · apply tr_cmpE (.int ((k : Int).fmod (((2 : Int) * (p : Int)).fdiv (i : Int)))) (.int 0)
                · apply ev_bin
                  · trivial
                  · apply ev_bin
                    · apply ev_bin
                      · trivial
                      · trivial
                      · apply b_mul
                        apply IntMulOk.of_left
                        decide
                    · trivial
                    · apply b_divS
                      · omega
                      · rw [Int.natAbs_natCast]; omega
                  · apply b_mod
                    exact q2
                · trivial
                · apply c_eq_int
                · rfl
              · exact q1
            · intro C' acc' fp' i hi _
              trivial
            · rw [sizeLine_eq]; omega
            · intro _; rfl
          · trivial
          · intro _; rfl
        · apply cd_len_list
          rw [List.length_map, sizeLine_eq]
          have := List.length_filter_le (sizeOk p k) (ringsP p)
          omega
      · rw [List.length_map]; rfl
    · rw [List.length_range, sizeLine_eq]; omega
    · intro _; rfl
  · trivial
  · exact hr
  · rfl

set_option maxHeartbeats 4000000 in
theorem law_E2 (Lb : Lib K) {W N No : Addr → Prop} {L : Addr} {qual : Str} {f : Addr} {code : Value} {sc : List Int} {p w : Nat} {tot : Int} {mE1 fE1 : En} {sd od wh re pw ro lf : Int} (hw0 : 0 < w) (hw : w ≤ 300) (hdl : ∀ x ∈ dueP p, x + 1 ≤ 2 ^ w) (hll : (dueP p).length ≤ 1000)
    (hr : Blk K n (lF W N No L qual f code (vF sc tot p w mE1 fE1 sd od wh re pw ro lf (dueW p w (!(sd != od))))) (lawB.drop 23) P) :
    Blk K n (lF W N No L qual f code (vF sc tot p w mE1 fE1 sd od wh re pw ro lf (dueP p))) (lawB.drop 22) P := by
  apply blk_ifE (sd != od)
  · trivial
  · intro hc
    rw [hc] at hr
    have e0 : intsD (dueW p w false) = (dueP p).map ((fun (i : Nat) => D.int i) ∘ fun one => 2 ^ w - 1 - one) := by
      unfold dueW intsD
      rw [if_neg (by decide), List.map_map]
    apply blk_assignE (.list (intsD (dueW p w false))) (lρ L (vF sc tot p w mE1 fE1 sd od wh re pw ro lf (dueW p w false)))
    · rw [e0]
      apply ev_compT ⟨["one"], [], [("wide", L + 1 + 2, .int w)]⟩ ["wide"] [] false (dueP p) (fun (i : Nat) => D.int i) (fun C i => [⟨"one", .loc, .val (.int i)⟩, ⟨"wide", .free (L + 1 + 2), .val (.int w)⟩]) ((fun (i : Nat) => D.int i) ∘ fun one => 2 ^ w - 1 - one)
      · apply itr_list
        show Ev _ _ _ _ (.list (intsD (dueP p)))
        trivial
      · rfl
      · show compOk _ ["one"] [] ["wide"] [] = true
        decide +kernel
      · rfl
      · apply Fvs.cell
        · trivial
        · exact .nil
      · intro C acc fp i hi
        apply asg_name
        trivial
      · intro C i hi
        exact .un (.same .nil)
      · intro C acc fp i hi
        have h1 := hdl i hi
        apply Ev.eq
        · apply ev_bin
          · apply ev_bin
            · apply ev_pow2 (b := w)
              · trivial
              · exact hw0
              · omega
            · trivial
            · trivial
          · trivial
          · trivial
        · show D.int ((2 : Int) ^ w - 1 - (i : Int)) = D.int ((2 ^ w - 1 - i : Nat) : Int)
          congr 1
          have e1 : ((2 : Int) ^ w) = ((2 ^ w : Nat) : Int) := by norm_cast
          rw [e1]
          omega
      · rw [sizeLine_eq]; omega
      · intro _; rfl
    · trivial
    · exact hr
    · rfl
  · intro hc
    rw [hc] at hr
    exact hr

set_option maxHeartbeats 4000000 in
theorem law_E3 (Lb : Lib K) {W N No : Addr → Prop} {L : Addr} {qual : Str} {f : Addr} {code : Value} {sc : List Int} {p w v : Nat} {tot : Int} {mE1 fE1 : En} {sd od wh re pw ro lf : Int} {due : List Nat} (hp4 : p ≤ 4) (hw0 : 0 < w) (hw : w ≤ 300) (hn : 21 ≤ n)
    (hod : od = 1 ∨ od = -1) (hv : od * lf = (v : Int)) (hcv : cntD w v ≤ 20) (hdl : due.length = 2 * p) (hlt : ∀ d ∈ due, d < 2 ^ w) (hks : 0 < (topK p due).length)
    (hdig : digN w (cntD w v) v = pickL due none (some (1 + maxN ((topK p due).map fun (i : Nat) => (i : Int)))) none)
    (hval : valN w due = v) (hro : ro.natAbs < 2 ^ 30000) (hpw : pw.natAbs < 2 ^ 30000) (hfin : ro * od * pw + lf = wh) :
    Blk K n (lF W N No L qual f code (vF sc tot p w mE1 fE1 sd od wh re pw ro lf due)) (lawB.drop 23) okP := by
  have bs : ∀ {x : Int}, (x = 1 ∨ x = -1) → Builtin.Int.intBits x ≤ 64 := by
    rintro x (rfl | rfl) <;> decide +kernel
  apply blk_ifE false
  · apply tr_cmpE (.list (intsD (digN w (cntD w v) v))) (.list (intsD (pickL due none (some (1 + maxN ((topK p due).map fun (i : Nat) => (i : Int)))) none)))
    · apply ev_call_fn (m := n)
      · trivial
      · exact Lb.g4
      · exact Lb.o4.obj
      · apply evs_cons
        · apply Ev.eq
          · apply ev_bin
            · trivial
            · trivial
            · apply b_mul
              exact IntMulOk.of_left (bs hod)
          · rw [hv]
        · trivial
        · intro _; rfl
      · obtain ⟨m, rfl⟩ : ∃ m, n = m + 1 := ⟨n - 1, by omega⟩
        apply int2digits_spec hw0 (by omega) (by omega) (by omega) Lb.glen Lb.t4
        exact Lb.o4
      · exact Nat.le_refl _
    · apply ev_sliceE due (fun (i : Nat) => D.int i) none (some (1 + maxN ((topK p due).map fun (i : Nat) => (i : Int)))) (pickL due none (some (1 + maxN ((topK p due).map fun (i : Nat) => (i : Int)))) none)
      · show Ev _ _ _ _ (.list (intsD due))
        trivial
      · exact .none
      · apply PartD.int
        apply ev_bin
        · trivial
        · apply ev_call_b
          · trivial
          · exact Lb.gmax
          · apply evs_cons
            · apply Ev.eq
              · apply ev_compE ⟨["k"], [], [("due", L + 1 + 7, .list (intsD due))]⟩ ["due"] [] false (List.range (2 * p)) (fun (i : Nat) => D.int i) (fun C i => [⟨"k", .loc, .val (.int i)⟩, ⟨"due", .free (L + 1 + 7), .val (.list (intsD due))⟩]) (fun k => decide (0 < due.getD k 0)) (fun (i : Nat) => D.int i)
                · show Itr _ _ _ _ _ (intsD (List.range (2 * p)))
                  rw [range_nat]
                  apply itr_range1
                  · trivial
                  · exact Lb.grange
                  · apply evs_cons
                    · apply Ev.eq
                      · apply ev_bin
                        · trivial
                        · trivial
                        · apply b_mul
                          apply IntMulOk.of_left
                          decide
                      · rw [Int.natCast_mul]; rfl
                    · trivial
                    · intro _; rfl
                  · omega
                  · omega
                · rfl
                · show compOk _ ["k"] [] ["due"] [] = true
                  decide +kernel
                · rfl
                · apply Fvs.cell
                  · trivial
                  · exact .nil
                · intro C acc fp i hi
                  apply asg_name
                  trivial
                · intro C i hi
                  exact .un (.same .nil)
                · intro C acc fp i hi
                  have hi2 : i < due.length := by rw [hdl]; exact List.mem_range.mp hi
                  apply tests_one
                  apply Tr.eq
                  · apply tr_cmpE (.int (due.getD i 0 : Nat)) (.int 0)
                    · apply ev_itemE (intsD due) (i : Int) (.int (due.getD i 0 : Nat))
                      · trivial
                      · trivial
                      · omega
                      · rw [Int.toNat_natCast]
                        apply intsD_get
                        rw [List.getD_eq_getElem?_getD, List.getElem?_eq_getElem hi2]; rfl
                      · omega
                      · intro _ _
                        with_unfolding_all rfl
                    · trivial
                    · apply c_gt_int
                    · rfl
                  · rw [decide_eq_decide]
                    omega
                · intro C acc fp i hi _
                  trivial
                · rw [List.length_range, sizeLine_eq]; omega
                · intro _; rfl
              · show _ = D.list (((topK p due).map fun (i : Nat) => (i : Int)).map .int)
                rw [List.map_map]; rfl
            · trivial
            · intro _; rfl
          · apply cd_max
            rw [List.length_map]; exact hks
        · trivial
      · rw [hdl, sizeLine_eq]; omega
      · rfl
    · rw [← hdig]
      exact c_ne_same (same_nats _)
    · rfl
  · nofun
  · intro _
    apply blk_ret
    · apply ev_and2 (y := true)
      · apply Ev.eq
        · apply ev_cmpE (.int (valN w due : Nat)) (.int (od * lf))
          · apply ev_call_fn (m := n)
            · trivial
            · exact Lb.g5
            · exact Lb.o5.obj
            · trivial
            · obtain ⟨m, rfl⟩ : ∃ m, n = m + 1 := ⟨n - 1, by omega⟩
              apply digits2int_spec (by omega) (by omega) (by omega) hlt Lb.glen Lb.t5
              exact Lb.o5
            · exact Nat.le_refl _
          · apply ev_bin
            · trivial
            · trivial
            · apply b_mul
              exact IntMulOk.of_left (bs hod)
          · apply c_eq_int
          · rfl
        · rw [hval, hv]
          congr 1
          exact beq_self_eq_true _
      · apply Ev.eq
        · apply ev_cmpE (.int (ro * od * pw + lf)) (.int wh)
          · apply ev_bin
            · apply ev_bin
              · apply ev_bin
                · trivial
                · trivial
                · apply b_mul
                  exact IntMulOk.of_right (bs hod)
              · trivial
              · apply b_mul
                apply mulOk_bits (k := 30000) (l := 30000)
                · rw [Int.natAbs_mul]
                  rcases hod with rfl | rfl
                  · simpa using hro
                  · simpa using hro
                · exact hpw
                · omega
            · trivial
            · trivial
          · trivial
          · apply c_eq_int
          · rfl
        · rw [hfin]
          congr 1
          exact beq_self_eq_true _
    · rfl
end
end

/-! # part N4 -/
section
/-- the walk over a row's brackets -/
noncomputable def chkC : List Nat → Int → Bool
  | [], o => o == 0
  | c :: cs, o => if c = 40 then chkC cs (o + 1) else if c = 41 then (if o - 1 < 0 then false else chkC cs (o - 1)) else chkC cs o

noncomputable def rowB (row : Str) : Bool :=
  row.cps.toList.all (fun c => c == 40 || c == 41) && decide (1 ≤ row.length) && decide (row.length ≤ 8) && chkC row.cps.toList 0 && !chkC (40 :: row.cps.toList) 0 && !chkC (41 :: row.cps.toList) 0
    && !chkC (row.cps.toList.drop 1 ++ row.cps.toList.take 1) 0 && (List.range row.length).all fun j => j == 0 || (chkC (row.cps.toList.take (j + 1)) 0 == goodAt row j && turnSz row j)

noncomputable def factsB (p : Nat) : Bool :=
  (List.range (2 * p + 1)).all (fun i => rowsOk (rowsAt p i)) && decide (0 < (rowsP p).length) && decide ((rowsP p).length ≤ 1000) && (ledL p).all (fun x => decide (x < (ledL p).length)) && (ringsP p).all (fun x => decide (0 < x) && decide (x ≤ 2 * p))
    && decide ((ringsP p).length ≤ 1000) && (rowsP p).all rowB

theorem facts2 : factsB 2 = true := by decide +kernel
theorem facts3 : factsB 3 = true := by decide +kernel
theorem facts4 : factsB 4 = true := by decide +kernel
theorem due2 : dueP 2 = [1, 0, 1, 0] := by decide +kernel
theorem due3 : dueP 3 = [2, 0, 1, 1, 1, 0] := by decide +kernel
theorem due4 : dueP 4 = [3, 1, 2, 1, 3, 1, 2, 1] := by decide +kernel
theorem same2 : sameB (cutL 2) (oneL 2) = true ∧ sameB (cutR 2) (oneL 2) = true := by decide +kernel
theorem same3 : sameB (cutL 3) (oneL 3) = true ∧ sameB (cutR 3) (oneL 3) = true := by decide +kernel
theorem same4 : sameB (cutL 4) (oneL 4) = true ∧ sameB (cutR 4) (oneL 4) = true := by decide +kernel
end

/-! # part N5 -/
section
open PySem.Builtin.Str
/-! ## texts -/
theorem listRange_get {α : Type} (xs : List α) (a k : Nat) (h : a + k ≤ xs.length) : ((List.range k).map fun i => a + i).filterMap (xs[·]?) = (xs.drop a).take k := range_pick xs a k h

theorem slice_mid {x : Str} {a b : Nat} (h : a ≤ b) (hb : b ≤ x.length) : (Txt.slice x (some (a : Int)) (some (b : Int))).cps.toList = (x.cps.toList.drop a).take (b - a) := by
  have hl : x.length = x.cps.toList.length := by rw [Array.length_toList]; rfl
  have e : strSliceIndices (some (a : Int)) (some (b : Int)) 1 x.length = (List.range (b - a)).map fun i => a + i := by
    unfold strSliceIndices
    have n1 : ¬ ((a : Int) < 0) := by omega
    have n2 : ¬ ((b : Int) < 0) := by omega
    have h1 : max 0 (min (a : Int) x.length) = (a : Int) := by omega
    have h2 : max 0 (min (b : Int) x.length) = (b : Int) := by omega
    simp only [n1, n2, if_false, h1, h2, show ((1 : Int) > 0) = True from by simp, if_true]
    exact sliceRange_one h
  unfold Txt.slice
  rw [e]
  split
  · rename_i hc
    have hc' : b - a = x.length := by simpa using hc
    have ha : a = 0 := by omega
    subst ha
    rw [List.drop_zero, List.take_of_length_le (by omega)]
  · have := listRange_get x.cps.toList a (b - a) (by omega)
    rw [← this]
    simp
theorem slice_from {x : Str} {a : Nat} (ha : a ≤ x.length) : (Txt.slice x (some (a : Int)) none).cps.toList = x.cps.toList.drop a := by
  have hl : x.length = x.cps.toList.length := by rw [Array.length_toList]; rfl
  have e : strSliceIndices (some (a : Int)) none 1 x.length = (List.range (x.length - a)).map fun i => a + i := by
    unfold strSliceIndices
    have n1 : ¬ ((a : Int) < 0) := by omega
    have h1 : max 0 (min (a : Int) x.length) = (a : Int) := by omega
    simp only [n1, if_false, h1, show ((1 : Int) > 0) = True from by simp, if_true]
    exact sliceRange_one ha
  unfold Txt.slice
  rw [e]
  split
  · rename_i hc
    have hc' : x.length - a = x.length := by simpa using hc
    by_cases h0 : a = 0
    · subst h0; rw [List.drop_zero]
    · have hx : x.cps.toList = [] := List.eq_nil_of_length_eq_zero (by omega)
      rw [hx]; simp
  · have := listRange_get x.cps.toList a (x.length - a) (by omega)
    rw [List.take_of_length_le (by rw [List.length_drop]; omega)] at this
    rw [← this]
    simp

noncomputable def flat (xs : List Str) : List Nat := xs.flatMap fun x => x.cps.toList
theorem join_flat : ∀ xs : List Str, (Txt.join (Str.ofString "") xs).cps.toList = flat xs := by
  intro xs
  show (glued (Str.ofString "") xs).cps.toList = _
  rw [StrLaws.glued_eq_join]
  have e : Str.ofString "" = ⟨#[]⟩ := by decide
  rw [e]
  have app : ∀ a b : Str, (a ++ b).cps.toList = a.cps.toList ++ b.cps.toList := fun a b => Array.toList_append
  induction xs with
  | nil => rfl
  | cons x r ih =>
    cases r with
    | nil => unfold flat; simp [Str.join]
    | cons y r =>
      show ((x ++ ⟨#[]⟩ ++ Str.join ⟨#[]⟩ (y :: r) : Str)).cps.toList = _
      rw [app, app, ih]
      unfold flat
      rw [List.flatMap_cons]
      simp
theorem flat_app (xs ys : List Str) : flat (xs ++ ys) = flat xs ++ flat ys := by unfold flat; rw [List.flatMap_append]

/-! ## cells -/
noncomputable def menuC : Nat → List Nat
  | 0 => []
  | 1 => [34, 41, 34]
  | 2 => [92, 41]
  | 3 => [92, 40]
  | 4 => [92, 34]
  | _ => []
noncomputable def cleanC : Nat → List Nat
  | 1 => []
  | k => menuC k
noncomputable def tx (qs : List (Nat × Nat)) : List Nat := qs.flatMap fun q => q.1 :: menuC q.2
noncomputable def cl (qs : List (Nat × Nat)) : List Nat := qs.flatMap fun q => q.1 :: cleanC q.2
noncomputable def brk (c : Nat) : Prop := c = 40 ∨ c = 41

theorem tok_cons (c : Nat) (cs : List Nat) (i : Nat) (h : c ≠ 92) : pcs (c :: cs) i false = (i, ⟨#[c]⟩) :: pcs cs (i + 1) false := by
  show (if c = 92 then _ else _) = _
  rw [if_neg h]
theorem tok_esc (c : Nat) (cs : List Nat) (i : Nat) : pcs (92 :: c :: cs) i false = (i + 1, ⟨#[92, c]⟩) :: pcs cs (i + 2) false := by
  show (if (92 : Nat) = 92 then pcs (c :: cs) (i + 1) true else _) = _
  rw [if_pos rfl]; rfl

theorem chk_tok2 (i c : Nat) (ps : List (Nat × Str)) (o : Int) : chk ((i, ⟨#[92, c]⟩) :: ps) o = chk ps o := by
  have h1 : ((⟨#[92, c]⟩ : Str) == Str.ofString "(") = false := by
    rw [beq_eq_false_iff_ne]; intro h; have := congrArg (fun s : Str => s.cps.size) h; exact absurd (show 2 = 1 from this) (by decide)
  have h2 : ((⟨#[92, c]⟩ : Str) == Str.ofString ")") = false := by
    rw [beq_eq_false_iff_ne]; intro h; have := congrArg (fun s : Str => s.cps.size) h; exact absurd (show 2 = 1 from this) (by decide)
  rw [chk_cons, h1, h2]; rfl
theorem chk_tok40 (i : Nat) (ps : List (Nat × Str)) (o : Int) : chk ((i, ⟨#[40]⟩) :: ps) o = chk ps (o + 1) := by
  have h1 : ((⟨#[40]⟩ : Str) == Str.ofString "(") = true := by decide
  rw [chk_cons, h1]; rfl
theorem chk_tok41 (i : Nat) (ps : List (Nat × Str)) (o : Int) : chk ((i, ⟨#[41]⟩) :: ps) o = if o - 1 < 0 then false else chk ps (o - 1) := by
  have h1 : ((⟨#[41]⟩ : Str) == Str.ofString "(") = false := by decide
  have h2 : ((⟨#[41]⟩ : Str) == Str.ofString ")") = true := by decide
  rw [chk_cons, h1, h2]; rfl

theorem chk_clean1 (k : Nat) (cs : List Nat) (i : Nat) (o : Int) : ∃ i', chk (pcs (cleanC k ++ cs) i false) o = chk (pcs cs i' false) o := by
  match k with
  | 0 => exact ⟨i, rfl⟩
  | 1 => exact ⟨i, rfl⟩
  | 2 => exact ⟨i + 2, by show chk (pcs (92 :: 41 :: cs) i false) o = _; rw [tok_esc, chk_tok2]⟩
  | 3 => exact ⟨i + 2, by show chk (pcs (92 :: 40 :: cs) i false) o = _; rw [tok_esc, chk_tok2]⟩
  | 4 => exact ⟨i + 2, by show chk (pcs (92 :: 34 :: cs) i false) o = _; rw [tok_esc, chk_tok2]⟩
  | n + 5 => exact ⟨i, rfl⟩

theorem chk_cl : ∀ (qs : List (Nat × Nat)) (i : Nat) (o : Int), (∀ q ∈ qs, brk q.1) → chk (pcs (cl qs) i false) o = chkC (qs.map (·.1)) o
  | [], _, _, _ => rfl
  | (c, k) :: qs, i, o, h => by
    have ih := fun i o => chk_cl qs i o fun q hq => h q (.tail _ hq)
    have hc := h _ (.head _)
    show chk (pcs (c :: (cleanC k ++ cl qs)) i false) o = chkC (c :: qs.map (·.1)) o
    rcases hc with e | e
    · have e : c = 40 := e
      subst e
      rw [tok_cons 40 _ i (by decide), chk_tok40]
      obtain ⟨i', e⟩ := chk_clean1 k (cl qs) (i + 1) (o + 1)
      rw [e, ih]; rfl
    · have e : c = 41 := e
      subst e
      rw [tok_cons 41 _ i (by decide), chk_tok41]
      show _ = if o - 1 < 0 then false else chkC (qs.map (·.1)) (o - 1)
      split
      · rfl
      · obtain ⟨i', e⟩ := chk_clean1 k (cl qs) (i + 1) (o - 1)
        rw [e, ih]

/-! ## strip -/
theorem step_other (x : Str) (st : Nat × Option Nat × List Str) (i : Nat) (y : Str) (h : (y == Str.ofString "\"") = false) : stStep x st (i, y) = st := by
  unfold stStep
  rw [h]; rfl
theorem ne_q1 {c : Nat} (h : c ≠ 34) : ((⟨#[c]⟩ : Str) == Str.ofString "\"") = false := by
  rw [beq_eq_false_iff_ne]
  intro e
  have e2 : Str.ofString "\"" = ⟨#[34]⟩ := by decide
  rw [e2] at e
  injection e with e
  exact h (by injection e with e; injection e)
theorem ne_q2 (c d : Nat) : ((⟨#[c, d]⟩ : Str) == Str.ofString "\"") = false := by
  rw [beq_eq_false_iff_ne]; intro h; have := congrArg (fun s : Str => s.cps.size) h; exact absurd (show 2 = 1 from this) (by decide)
theorem is_q : ((⟨#[34]⟩ : Str) == Str.ofString "\"") = true := by decide

theorem brk_ne {c : Nat} (h : brk c) : c ≠ 92 ∧ c ≠ 34 := by rcases h with rfl | rfl <;> decide

theorem strip_fold (x : Str) : ∀ (qs : List (Nat × Nat)) (pre : List Nat) (start : Nat) (acc : List Str), (∀ q ∈ qs, brk q.1) → x.cps.toList = pre ++ tx qs → start ≤ pre.length →
    ∃ start' acc', (pcs (tx qs) pre.length false).foldl (stStep x) (start, none, acc) = (start', none, acc') ∧ start' ≤ x.length ∧ flat acc' ++ x.cps.toList.drop start' = flat acc ++ pre.drop start ++ cl qs
  | [], pre, start, acc, _, hx, hs => by
    have hx' : x.cps.toList = pre := by simpa [tx] using hx
    refine ⟨start, acc, rfl, ?_, ?_⟩
    · have : x.length = pre.length := by rw [← hx', Array.length_toList]; rfl
      omega
    · rw [hx']; simp [cl]
  | (c, k) :: qs, pre, start, acc, h, hx, hs => by
    have hb := brk_ne (h _ (.head _))
    have hq : ∀ q ∈ qs, brk q.1 := fun q hq => h q (.tail _ hq)
    have hx1 : x.cps.toList = pre ++ (c :: (menuC k ++ tx qs)) := hx
    have ih := fun (m : List Nat) (e : m = menuC k) start acc (hs : start ≤ (pre ++ c :: m).length) => strip_fold x qs (pre ++ c :: m) start acc hq (by rw [hx1, e]; simp) hs
    have fin : ∀ (m : List Nat), m = menuC k → cleanC k = m → (pcs (m ++ tx qs) (pre.length + 1) false).foldl (stStep x) (start, none, acc) = (pcs (tx qs) (pre ++ c :: m).length false).foldl (stStep x) (start, none, acc) →
        ∃ start' acc', (pcs (c :: (menuC k ++ tx qs)) pre.length false).foldl (stStep x) (start, none, acc) = (start', none, acc') ∧ start' ≤ x.length ∧ flat acc' ++ x.cps.toList.drop start' = flat acc ++ pre.drop start ++ cl ((c, k) :: qs) := by
      intro m em ec ef
      obtain ⟨s', a', f1, f2, f3⟩ := ih m em start acc (by rw [List.length_append]; omega)
      refine ⟨s', a', ?_, f2, ?_⟩
      · rw [tok_cons c _ _ hb.1, List.foldl_cons, step_other x _ _ _ (ne_q1 hb.2), ← em, ef, f1]
      · rw [f3, List.drop_append_of_le_length hs]
        show _ = flat acc ++ pre.drop start ++ (c :: (cleanC k ++ cl qs))
        rw [ec]; simp
    show ∃ start' acc', (pcs (c :: (menuC k ++ tx qs)) pre.length false).foldl (stStep x) (start, none, acc) = (start', none, acc') ∧ _
    match k with
    | 0 => exact fin [] rfl rfl (by rw [List.length_append]; rfl)
    | n + 5 => exact fin [] rfl rfl (by rw [List.length_append]; rfl)
    | 2 => exact fin [92, 41] rfl rfl (by
        show (pcs (92 :: 41 :: tx qs) _ false).foldl _ _ = _
        rw [tok_esc, List.foldl_cons, step_other x _ _ _ (ne_q2 _ _), List.length_append]; rfl)
    | 3 => exact fin [92, 40] rfl rfl (by
        show (pcs (92 :: 40 :: tx qs) _ false).foldl _ _ = _
        rw [tok_esc, List.foldl_cons, step_other x _ _ _ (ne_q2 _ _), List.length_append]; rfl)
    | 4 => exact fin [92, 34] rfl rfl (by
        show (pcs (92 :: 34 :: tx qs) _ false).foldl _ _ = _
        rw [tok_esc, List.foldl_cons, step_other x _ _ _ (ne_q2 _ _), List.length_append]; rfl)
    | 1 =>
      have hlen : pre.length + 4 ≤ x.length := by
        have : x.length = x.cps.toList.length := by rw [Array.length_toList]; rfl
        rw [this, hx1, List.length_append]
        show _ ≤ pre.length + (_ + 1)
        simp [menuC]
      obtain ⟨s', a', f1, f2, f3⟩ := ih [34, 41, 34] rfl (pre.length + 4) (acc ++ [Txt.slice x (some (start : Int)) (some ((pre.length + 1 : Nat) : Int))]) (by rw [List.length_append]; exact Nat.le_refl _)
      refine ⟨s', a', ?_, f2, ?_⟩
      · show (pcs (c :: 34 :: 41 :: 34 :: tx qs) pre.length false).foldl (stStep x) (start, none, acc) = _
        rw [tok_cons c _ _ hb.1, tok_cons 34 _ _ (by decide), tok_cons 41 _ _ (by decide), tok_cons 34 _ _ (by decide), List.foldl_cons, List.foldl_cons, List.foldl_cons, List.foldl_cons]
        rw [step_other x _ _ _ (ne_q1 hb.2)]
        have e1 : stStep x (start, none, acc) (pre.length + 1, ⟨#[34]⟩) = (start, some (pre.length + 1), acc) := by
          unfold stStep; rw [is_q]; rfl
        rw [e1, step_other x (start, some (pre.length + 1), acc) (pre.length + 1 + 1) ⟨#[41]⟩ (ne_q1 (by decide))]
        have e2 : stStep x (start, some (pre.length + 1), acc) (pre.length + 1 + 1 + 1, ⟨#[34]⟩) = (pre.length + 4, none, acc ++ [Txt.slice x (some (start : Int)) (some ((pre.length + 1 : Nat) : Int))]) := by
          unfold stStep; rw [is_q]
          show (_, _, if start = pre.length + 1 then _ else _) = _
          rw [if_neg (by omega)]
        rw [e2]
        have e3 : (pre ++ [c, 34, 41, 34]).length = pre.length + 1 + 1 + 1 + 1 := by rw [List.length_append]; rfl
        rw [e3] at f1
        exact f1
      · rw [f3, flat_app]
        have e4 : flat [Txt.slice x (some (start : Int)) (some ((pre.length + 1 : Nat) : Int))] = pre.drop start ++ [c] := by
          unfold flat
          rw [List.flatMap_cons, List.flatMap_nil, List.append_nil, slice_mid (by omega) (by omega), hx1, List.drop_append_of_le_length hs, List.take_append, List.length_drop]
          rw [List.take_of_length_le (by rw [List.length_drop]; omega)]
          rw [show pre.length + 1 - start - (pre.length - start) = 1 by omega]
          rfl
        have e5 : (pre ++ [c, 34, 41, 34]).drop (pre.length + 4) = [] := List.drop_of_length_le (by rw [List.length_append]; exact Nat.le_refl _)
        rw [e4, e5]
        show _ = flat acc ++ pre.drop start ++ (c :: ([] ++ cl qs))
        simp

theorem tx_noquote : ∀ qs : List (Nat × Nat), 34 ∉ tx qs → tx qs = cl qs
  | [], _ => rfl
  | (c, k) :: qs, h => by
    have h1 : 34 ∉ menuC k ∧ 34 ∉ tx qs := by
      have : 34 ∉ c :: (menuC k ++ tx qs) := h
      simp only [List.mem_cons, List.mem_append, not_or] at this
      exact ⟨this.2.1, this.2.2⟩
    show c :: (menuC k ++ tx qs) = c :: (cleanC k ++ cl qs)
    rw [tx_noquote qs h1.2]
    match k with
    | 0 => rfl
    | 1 => exact absurd (by simp [menuC]) h1.1
    | 2 => rfl
    | 3 => rfl
    | 4 => rfl
    | n + 5 => rfl

theorem strip_cells {x : Str} {qs : List (Nat × Nat)} (hx : x.cps.toList = tx qs) (hb : ∀ q ∈ qs, brk q.1) : (strip x).cps.toList = cl qs := by
  have e2 : Str.ofString "\"" = ⟨#[34]⟩ := by decide
  unfold strip
  by_cases hc : Txt.contains x (Str.ofString "\"") = true
  · rw [if_pos hc, join_flat]
    obtain ⟨s', a', f1, f2, f3⟩ := strip_fold x qs [] 0 [] hb (by simpa using hx) (Nat.le_refl _)
    have e : stAt x (pcs x.cps.toList 0 false) (pcs x.cps.toList 0 false).length = (s', none, a') := by
      unfold stAt
      rw [List.take_of_length_le (Nat.le_refl _), hx]
      exact f1
    unfold stripParts
    rw [e, flat_app]
    have f4 : flat a' ++ x.cps.toList.drop s' = cl qs := by simpa [flat] using f3
    rw [← f4]
    congr 1
    split
    · rename_i hlt
      unfold flat
      rw [List.flatMap_cons, List.flatMap_nil, List.append_nil, slice_from (Nat.le_of_lt hlt)]
    · rename_i hlt
      have : x.length = x.cps.toList.length := by rw [Array.length_toList]; rfl
      rw [List.drop_of_length_le (by have : ¬ s' < x.length := hlt; omega)]; rfl
  · rw [if_neg hc, hx]
    apply tx_noquote
    intro hm
    apply hc
    rw [e2]
    show (!(occurrences x ⟨#[34]⟩ 0 x.length 1).isEmpty) = true
    rw [StrLaws.found_one, hx]
    exact decide_eq_true hm

theorem verdict_cells {x : Str} {qs : List (Nat × Nat)} (hx : x.cps.toList = tx qs) (hb : ∀ q ∈ qs, brk q.1) : verdict x = chkC (qs.map (·.1)) 0 := by
  unfold verdict
  rw [strip_cells hx hb]
  exact chk_cl qs 0 0 hb
end

/-! # part N6 -/
section
open PySem.Builtin.Str
noncomputable def menuStr (k : Nat) : Str := menuS.getD k ⟨#[]⟩
theorem menuStr_list (k : Nat) : (menuStr k).cps.toList = menuC k := by
  match k with
  | 0 => decide
  | 1 => decide
  | 2 => decide
  | 3 => decide
  | 4 => decide
  | n + 5 => rfl
theorem menuC_len (k : Nat) : (menuC k).length ≤ 3 := by
  match k with
  | 0 => decide
  | 1 => decide
  | 2 => decide
  | 3 => decide
  | 4 => decide
  | n + 5 => exact Nat.zero_le _
theorem str_len (x : Str) : x.length = x.cps.toList.length := by rw [Array.length_toList]; rfl
noncomputable def cellStr (q : Nat × Nat) : Str := (⟨#[q.1]⟩ : Str) ++ menuStr q.2
theorem app_list (a b : Str) : (a ++ b).cps.toList = a.cps.toList ++ b.cps.toList := Array.toList_append
theorem cellStr_list (q : Nat × Nat) : (cellStr q).cps.toList = q.1 :: menuC q.2 := by
  unfold cellStr
  rw [app_list, menuStr_list]; rfl
theorem cellStr_len (q : Nat × Nat) : (cellStr q).length ≤ 4 := by
  rw [str_len, cellStr_list, List.length_cons]
  have := menuC_len q.2
  omega
theorem flat_cells (qs : List (Nat × Nat)) : flat (qs.map cellStr) = tx qs := by
  unfold flat tx
  rw [List.flatMap_map]
  congr 1
  funext q
  exact cellStr_list q
theorem tx_len : ∀ qs : List (Nat × Nat), (tx qs).length ≤ 4 * qs.length
  | [] => Nat.zero_le _
  | (c, k) :: qs => by
    show (c :: (menuC k ++ tx qs)).length ≤ _
    have h1 := menuC_len k
    have h2 := tx_len qs
    rw [List.length_cons, List.length_append, List.length_cons]
    omega

noncomputable def klOf (ts : List Int) : List Nat := onesL.map (fun q => (pieceNo ts q).toNat) ++ [0, 0, 0]
theorem pieces_kl (ts : List Int) : piecesOf ts = (klOf ts).map menuStr := by
  unfold piecesOf klOf
  rw [List.map_append, List.map_map]
  rfl
theorem kl_get (kl : List Nat) (k : Nat) : (kl.map menuStr).getD k ⟨#[]⟩ = menuStr (kl.getD k 0) := by
  rw [List.getD_eq_getElem?_getD, List.getD_eq_getElem?_getD, List.getElem?_map]
  cases kl[k]? with
  | some x => rfl
  | none => show (⟨#[]⟩ : Str) = menuStr 0; decide

noncomputable def rowQs (row : Str) (kl : List Nat) : List (Nat × Nat) := (List.range row.length).map fun k => (row.cps.getD k 0, kl.getD k 0)
theorem cells_qs (row : Str) (kl : List Nat) : cellsOf row (kl.map menuStr) = (rowQs row kl).map cellStr := by
  unfold cellsOf rowQs
  rw [List.map_map]
  apply List.map_congr_left
  intro k _
  rw [kl_get]; rfl
theorem rowQs_fst (row : Str) (kl : List Nat) : (rowQs row kl).map (·.1) = row.cps.toList := by
  unfold rowQs
  rw [List.map_map]
  apply List.ext_getElem
  · rw [List.length_map, List.length_range, str_len]
  · intro i h1 h2
    rw [List.getElem_map, List.getElem_range]
    show row.cps.getD i 0 = row.cps.toList[i]
    have hi : i < row.cps.size := by rw [← Array.length_toList]; exact h2
    rw [Array.getD_eq_getD_getElem?, Array.getElem?_eq_getElem hi]
    simp
theorem rowQs_len (row : Str) (kl : List Nat) : (rowQs row kl).length = row.length := by unfold rowQs; rw [List.length_map, List.length_range]

structure RowOK (row : Str) : Prop where
  br : ∀ c ∈ row.cps.toList, brk c
  l1 : 1 ≤ row.length
  l8 : row.length ≤ 8
  v0 : chkC row.cps.toList 0 = true
  v1 : chkC (40 :: row.cps.toList) 0 = false
  v2 : chkC (41 :: row.cps.toList) 0 = false
  v3 : chkC (row.cps.toList.drop 1 ++ row.cps.toList.take 1) 0 = false
  vj : ∀ j, 1 ≤ j → j < row.length → chkC (row.cps.toList.take (j + 1)) 0 = goodAt row j ∧ turnSz row j = true
theorem rowOK_of {row : Str} (h : rowB row = true) : RowOK row := by
  unfold rowB at h
  simp only [Bool.and_eq_true, List.all_eq_true, decide_eq_true_eq, Bool.or_eq_true, beq_iff_eq, Bool.not_eq_true'] at h
  obtain ⟨⟨⟨⟨⟨⟨⟨h1, h2⟩, h3⟩, h4⟩, h5⟩, h6⟩, h7⟩, h8⟩ := h
  refine ⟨h1, h2, h3, h4, h5, h6, h7, fun j a b => ?_⟩
  rcases h8 j (List.mem_range.mpr b) with q | q
  · omega
  · exact q

theorem qs_brk {row : Str} (h : RowOK row) (kl : List Nat) : ∀ q ∈ rowQs row kl, brk q.1 := fun q hq => h.br _ (by rw [← rowQs_fst row kl]; exact List.mem_map_of_mem hq)

/-- the texts that the law asks of -/
theorem v_row {row : Str} (h : RowOK row) (kl : List Nat) : verdict (rowText row (kl.map menuStr)) = true := by
  have e : (rowText row (kl.map menuStr)).cps.toList = tx (rowQs row kl) := by unfold rowText; rw [join_flat, cells_qs, flat_cells]
  rw [verdict_cells e (qs_brk h kl), rowQs_fst]; exact h.v0
theorem v_head {row : Str} (h : RowOK row) (kl : List Nat) (c : Nat) (y : Str) (hy : y = ⟨#[c]⟩) (hc : brk c) : verdict (y ++ rowText row (kl.map menuStr)) = chkC (c :: row.cps.toList) 0 := by
  subst hy
  have e : ((⟨#[c]⟩ : Str) ++ rowText row (kl.map menuStr)).cps.toList = tx ((c, 0) :: rowQs row kl) := by
    rw [app_list]
    unfold rowText
    rw [join_flat, cells_qs, flat_cells]; rfl
  rw [verdict_cells e (fun q hq => (List.mem_cons.mp hq).elim (fun e => e ▸ hc) (qs_brk h kl q)), List.map_cons, rowQs_fst]
theorem v_back {row : Str} (h : RowOK row) (kl : List Nat) : verdict (backText row (kl.map menuStr)) = false := by
  have e : (backText row (kl.map menuStr)).cps.toList = tx ((rowQs row kl).drop 1 ++ (rowQs row kl).take 1) := by
    unfold backText
    rw [join_flat, cells_qs, ← List.map_drop, ← List.map_take, ← List.map_append, flat_cells]
  rw [verdict_cells e (fun q hq => (List.mem_append.mp hq).elim (fun m => qs_brk h kl q (List.mem_of_mem_drop m)) (fun m => qs_brk h kl q (List.mem_of_mem_take m))), List.map_append, List.map_drop, List.map_take, rowQs_fst]
  exact h.v3
theorem v_turn {row : Str} (h : RowOK row) (kl : List Nat) {j : Nat} (h1 : 1 ≤ j) (h2 : j < row.length) : verdict (turnText row (kl.map menuStr) j) = goodAt row j := by
  have e : (turnText row (kl.map menuStr) j).cps.toList = tx ((rowQs row kl).take (j + 1)) := by
    unfold turnText
    rw [join_flat, cells_qs, ← List.map_take, flat_cells]
  rw [verdict_cells e (fun q hq => qs_brk h kl q (List.mem_of_mem_take hq)), List.map_take, rowQs_fst]
  exact (h.vj j h1 h2).1

/-! sizes -/
theorem pcs_len : ∀ (cs : List Nat) (i : Nat) (e : Bool), (pcs cs i e).length ≤ cs.length + 1
  | [], i, true => Nat.le_refl _
  | [], _, false => Nat.zero_le _
  | c :: cs, i, true => by
    show (pcs cs (i + 1) false).length + 1 ≤ _
    have := pcs_len cs (i + 1) false
    rw [List.length_cons]; omega
  | c :: cs, i, false => by
    show (if c = 92 then pcs cs (i + 1) true else _).length ≤ _
    have h1 := pcs_len cs (i + 1) true
    have h2 := pcs_len cs (i + 1) false
    rw [List.length_cons]
    split
    · omega
    · rw [List.length_cons]; omega
theorem stAt_le {x : Str} {ps : List (Nat × Str)} : ∀ i, ∀ y ∈ (stAt x ps i).2.2, y.length ≤ x.length
  | 0, y, h => by cases h
  | i + 1, y, h => by
    by_cases hl : i < ps.length
    · rw [stAt_succ hl] at h
      have ih := stAt_le (x := x) (ps := ps) i
      unfold stStep at h
      split at h
      · split at h
        · exact ih y h
        · dsimp only at h
          split at h
          · exact ih y h
          · rcases List.mem_append.mp h with h | h
            · exact ih y h
            · have e : y = _ := List.mem_singleton.mp h
              rw [e]; exact Txt.slice_le ..
      · exact ih y h
    · have e : stAt x ps (i + 1) = stAt x ps i := by
        unfold stAt
        rw [List.take_of_length_le (by omega), List.take_of_length_le (by omega)]
      rw [e] at h
      exact stAt_le i y h
theorem strip_joinOk {x : Str} (h : x.length ≤ 1000) : JoinOk (Str.ofString "") (stripParts x) = true := by
  have hp := pcs_len x.cps.toList 0 false
  rw [← str_len] at hp
  apply joinOk_of
  · intro y hy
    unfold stripParts at hy
    rcases List.mem_append.mp hy with hy | hy
    · exact Nat.le_trans (stAt_le _ y hy) (by omega)
    · split at hy
      · have e : y = _ := List.mem_singleton.mp hy
        rw [e]; exact Nat.le_trans (Txt.slice_le ..) (by omega)
      · cases hy
  · unfold stripParts
    rw [List.length_append]
    have h1 := stAt_len (x := x) (ps := pcs x.cps.toList 0 false) (pcs x.cps.toList 0 false).length
    split
    · rw [List.length_singleton]; omega
    · rw [List.length_nil]; omega

section
variable {K : Cx} {n : Nat}

theorem verdict_ok (Lb : Lib K) {x : Str} {b : Bool} (h : x.length ≤ 1000) (hb : verdict x = b) : FnSpec K (n + 4) (.ref Lb.f14) [.str x] (.bool b) := by
  have hp := pcs_len x.cps.toList 0 false
  rw [← str_len] at hp
  rw [← hb]
  apply verdict_spec (by rw [sizeLine_eq]; omega) (by rw [sizeLine_eq]; omega) (strip_joinOk h) Lb.glen Lb.g13 Lb.g12 Lb.genum Lb.o12 Lb.o13
  exact Lb.o14

theorem text_len {x : Str} {qs : List (Nat × Nat)} (hx : x.cps.toList = tx qs) (h : qs.length ≤ 20) : x.length ≤ 1000 := by
  rw [str_len, hx]
  have := tx_len qs
  omega

theorem pieces_len {kl : List Nat} : ∀ y ∈ kl.map menuStr, y.length ≤ 1000 := fun y hy => by
  obtain ⟨k, _, rfl⟩ := List.mem_map.mp hy
  rw [str_len, menuStr_list]
  have := menuC_len k
  omega
theorem cells_len {row : Str} {kl : List Nat} : ∀ y ∈ cellsOf row (kl.map menuStr), y.length ≤ 2000 := fun y hy => by
  rw [cells_qs] at hy
  obtain ⟨q, _, rfl⟩ := List.mem_map.mp hy
  have := cellStr_len q
  omega
theorem cells_count {row : Str} {pieces : List Str} : (cellsOf row pieces).length = row.length := by unfold cellsOf; rw [List.length_map, List.length_range]

theorem ans_of (Lb : Lib K) {row : Str} {ts : List Int} (h : RowOK row) : FnSpec K (n + 5) (.ref Lb.f18) [.str row, .list ((piecesOf ts).map .str)] ansD := by
  rw [pieces_kl]
  have hl := h.l8
  have e0 : (rowText row ((klOf ts).map menuStr)).cps.toList = tx (rowQs row (klOf ts)) := by unfold rowText; rw [join_flat, cells_qs, flat_cells]
  have l0 := text_len e0 (by rw [rowQs_len]; omega)
  have s1 : (Str.ofString "(" : Str) = ⟨#[40]⟩ := by decide
  have s2 : (Str.ofString ")" : Str) = ⟨#[41]⟩ := by decide
  have l1 : ∀ c, ((⟨#[c]⟩ : Str) ++ rowText row ((klOf ts).map menuStr)).length ≤ 1000 := fun c => by
    apply text_len (qs := (c, 0) :: rowQs row (klOf ts))
    · rw [app_list, e0]; rfl
    · rw [List.length_cons, rowQs_len]; omega
  have l3 : (backText row ((klOf ts).map menuStr)).length ≤ 1000 := by
    apply text_len (qs := (rowQs row (klOf ts)).drop 1 ++ (rowQs row (klOf ts)).take 1)
    · unfold backText
      rw [join_flat, cells_qs, ← List.map_drop, ← List.map_take, ← List.map_append, flat_cells]
    · rw [List.length_append, List.length_drop, List.length_take, rowQs_len]; omega
  have w1 := v_head h (klOf ts) 40 (Str.ofString "(") s1 (.inl rfl)
  have w2 := v_head h (klOf ts) 41 (Str.ofString ")") s2 (.inr rfl)
  rw [h.v1] at w1
  rw [h.v2] at w2
  apply answers_spec (n := n + 4) (m := n + 4) (b0 := true) (b1 := false) (b2 := false) (b3 := false) (Nat.le_refl _) h.l1 (by omega) ?_ pieces_len Lb.glen Lb.grange Lb.g14 Lb.o14.obj
  · apply verdict_ok Lb l0
    exact v_row h _
  · apply verdict_ok Lb (by rw [s1]; exact l1 40)
    exact w1
  · apply verdict_ok Lb (by rw [s2]; exact l1 41)
    exact w2
  · apply verdict_ok Lb l3
    exact v_back h _
  · exact joinOk_of cells_len (by rw [cells_count]; omega)
  · apply joinOk_of
    · intro y hy
      exact cells_len y ((List.mem_append.mp hy).elim List.mem_of_mem_drop List.mem_of_mem_take)
    · rw [List.length_append, List.length_drop, List.length_take, cells_count]; omega
  · omega
  · exact Lb.o18
  · rw [List.length_map]
    show row.length ≤ (onesL.map _ ++ [0, 0, 0]).length
    rw [List.length_append, List.length_map]
    exact hl

theorem turn_of (Lb : Lib K) {row : Str} {ts : List Int} (h : RowOK row) : FnSpec K (n + 5) (.ref Lb.f17) [.str row, .list ((piecesOf ts).map .str)] (.str (turnedP row)) := by
  rw [pieces_kl]
  have hl := h.l8
  apply turned_spec (n := n + 4) (m := n + 4) (Nat.le_refl _) h.l1 (by omega) ?_ pieces_len Lb.glen Lb.grange Lb.g14 Lb.o14.obj
  · intro j h1 h2
    apply verdict_ok Lb
    · apply text_len (qs := (rowQs row (klOf ts)).take (j + 1))
      · unfold turnText
        rw [join_flat, cells_qs, ← List.map_take, flat_cells]
      · rw [List.length_take, rowQs_len]; omega
    · exact v_turn h _ h1 h2
  · intro j h1 h2
    apply joinOk_of
    · intro y hy
      exact cells_len y (List.mem_of_mem_take hy)
    · rw [List.length_take, cells_count]; omega
  · intro j h1 h2
    exact (h.vj j h1 h2).2
  · exact Lb.o17
  · rw [List.length_map]
    show row.length ≤ (onesL.map _ ++ [0, 0, 0]).length
    rw [List.length_append, List.length_map]
    exact hl
end
end

/-! # part N7 -/
section
theorem ipow_mul (w m : Nat) : (2 : Int) ^ (w * m) = ((2 : Int) ^ w) ^ m := Int.pow_mul ..

theorem comp_val (w : Nat) : ∀ ds : List Nat, (∀ d ∈ ds, d < 2 ^ w) → valN w (ds.map fun d => 2 ^ w - 1 - d) + valN w ds + 1 = 2 ^ (w * ds.length)
  | [], _ => by simp [valN]
  | d :: ds, h => by
    have ih := comp_val w ds fun e he => h e (.tail _ he)
    have h1 := h d (.head _)
    show (2 ^ w - 1 - d + 2 ^ w * valN w (ds.map fun d => 2 ^ w - 1 - d)) + (d + 2 ^ w * valN w ds) + 1 = _
    rw [List.length_cons, Nat.mul_succ, Nat.add_comm (w * ds.length) w, Nat.pow_add, ← ih, Nat.mul_add, Nat.mul_add, Nat.mul_one]
    omega

theorem val_zeros (w : Nat) : ∀ z : Nat, valN w (List.replicate z 0) = 0
  | 0 => rfl
  | z + 1 => by rw [List.replicate_succ]; show 0 + 2 ^ w * valN w (List.replicate z 0) = 0; rw [val_zeros w z]; simp

/-- the digits of a number whose top digit is no nought -/
theorem digs_top {w : Nat} (hw : 0 < w) {init : List Nat} {t z : Nat} (ht : 0 < t) (hl : ∀ d ∈ init ++ [t], d < 2 ^ w) : digN w (cntD w (valN w ((init ++ [t]) ++ List.replicate z 0))) (valN w ((init ++ [t]) ++ List.replicate z 0)) = init ++ [t] := by
  rw [valN_app, val_zeros, Nat.mul_zero, Nat.add_zero]
  have h2 := valN_lt w _ hl
  rw [List.length_append, List.length_singleton] at h2
  have h1 : 2 ^ (w * init.length) ≤ valN w (init ++ [t]) := by
    rw [valN_app]
    have : valN w [t] = t := by simp [valN]
    rw [this]
    have := Nat.mul_le_mul (Nat.le_refl (2 ^ (w * init.length))) ht
    omega
  rw [cntD_eq hw h1 h2]
  have := digN_valN w (init ++ [t]) hl
  rw [List.length_append, List.length_singleton] at this
  exact this
theorem cnt_top {w : Nat} (hw : 0 < w) {ds : List Nat} (hl : ∀ d ∈ ds, d < 2 ^ w) : cntD w (valN w ds) ≤ ds.length := cntD_le hw (valN_lt w ds hl)

/-- what is known of the digits, by the number of pairs -/
structure DueOK (p : Nat) : Prop where
  len : (dueP p).length = 2 * p
  le : ∀ d ∈ dueP p, d ≤ 3
  top : ∃ init t z, pickL (dueP p) none (some (1 + maxN ((topK p (dueP p)).map fun (i : Nat) => (i : Int)))) none = init ++ [t] ∧ dueP p = (init ++ [t]) ++ List.replicate z 0 ∧ 0 < t
  pos : 0 < (topK p (dueP p)).length
  mx : 1 + maxN ((List.range (2 * p)).map fun (i : Nat) => (i : Int)) = 2 * p
  hd : ∃ a r, dueP p = a :: r ∧ 0 < a
theorem dueOK2 : DueOK 2 := ⟨by rw [due2]; rfl, by rw [due2]; decide, ⟨[1, 0], 1, 1, by rw [due2]; decide +kernel, by rw [due2]; rfl, by decide⟩, by rw [due2]; decide +kernel, by decide +kernel, ⟨1, _, due2, by decide⟩⟩
theorem dueOK3 : DueOK 3 := ⟨by rw [due3]; rfl, by rw [due3]; decide, ⟨[2, 0, 1, 1], 1, 1, by rw [due3]; decide +kernel, by rw [due3]; rfl, by decide⟩, by rw [due3]; decide +kernel, by decide +kernel, ⟨2, _, due3, by decide⟩⟩
theorem dueOK4 : DueOK 4 := ⟨by rw [due4]; rfl, by rw [due4]; decide, ⟨[3, 1, 2, 1, 3, 1, 2], 1, 0, by rw [due4]; decide +kernel, by rw [due4]; rfl, by decide⟩, by rw [due4]; decide +kernel, by decide +kernel, ⟨3, _, due4, by decide⟩⟩

/-- the quotient -/
structure PolyOK (p w : Nat) : Prop where
  ex : ∃ C Q : Int, abvAt p w (p - 1) = blwAt w (p - 1) * C ∧ C = (2 ^ (2 * p * w) - 1) * Q + (valN w (dueP p) : Int) ∧ 0 ≤ C

theorem valI (w : Nat) (d : Nat) (r : List Nat) : ((valN w (d :: r) : Nat) : Int) = (d : Int) + (2 : Int) ^ w * ((valN w r : Nat) : Int) := by
  show ((d + 2 ^ w * valN w r : Nat) : Int) = _
  rw [Int.natCast_add, Int.natCast_mul, Int.natCast_pow]; rfl
theorem valI0 (w : Nat) : ((valN w [] : Nat) : Int) = 0 := rfl

theorem poly2 (w : Nat) : PolyOK 2 w := by
  have hx : (0 : Int) < 2 ^ w := by exact_mod_cast Nat.two_pow_pos w
  refine ⟨1 + (2 ^ w) ^ 2, 0, ?_, ?_, ?_⟩
  · show 1 * ((2 : Int) ^ (w * (2 + (2 + 0))) - 1) = (1 * ((2 : Int) ^ (w * (2 + 0)) - 1)) * _
    rw [ipow_mul, ipow_mul]
    generalize (2 : Int) ^ w = x
    grind
  · rw [due2]
    simp only [valI, valI0]
    generalize (2 : Int) ^ w = x
    grind
  · have := Int.pow_pos (m := 2) hx
    omega
theorem poly3 (w : Nat) : PolyOK 3 w := by
  have hx : (0 : Int) < 2 ^ w := by exact_mod_cast Nat.two_pow_pos w
  refine ⟨1 + (2 ^ w) ^ 2 + (2 ^ w) ^ 3 + (2 ^ w) ^ 4 + (2 ^ w) ^ 6, 1, ?_, ?_, ?_⟩
  · show (1 * ((2 : Int) ^ (w * (3 + (2 + 0))) - 1)) * ((2 : Int) ^ (w * (3 + (2 + 1))) - 1) = ((1 * ((2 : Int) ^ (w * (2 + 0)) - 1)) * ((2 : Int) ^ (w * (2 + 1)) - 1)) * _
    rw [ipow_mul, ipow_mul, ipow_mul, ipow_mul]
    generalize (2 : Int) ^ w = x
    grind
  · rw [due3, show 2 * 3 * w = w * 6 by omega, ipow_mul]
    simp only [valI, valI0]
    generalize (2 : Int) ^ w = x
    grind
  · have := Int.pow_pos (m := 2) hx
    have := Int.pow_pos (m := 3) hx
    have := Int.pow_pos (m := 4) hx
    have := Int.pow_pos (m := 6) hx
    omega
theorem poly4 (w : Nat) : PolyOK 4 w := by
  have hx : (0 : Int) < 2 ^ w := by exact_mod_cast Nat.two_pow_pos w
  refine ⟨1 + (2 ^ w) ^ 2 + (2 ^ w) ^ 3 + 2 * (2 ^ w) ^ 4 + (2 ^ w) ^ 5 + 2 * (2 ^ w) ^ 6 + (2 ^ w) ^ 7 + 2 * (2 ^ w) ^ 8 + (2 ^ w) ^ 9 + (2 ^ w) ^ 10 + (2 ^ w) ^ 12, 2 + 2 ^ w + (2 ^ w) ^ 2 + (2 ^ w) ^ 4, ?_, ?_, ?_⟩
  · show ((1 * ((2 : Int) ^ (w * (4 + (2 + 0))) - 1)) * ((2 : Int) ^ (w * (4 + (2 + 1))) - 1)) * ((2 : Int) ^ (w * (4 + (2 + 2))) - 1) = (((1 * ((2 : Int) ^ (w * (2 + 0)) - 1)) * ((2 : Int) ^ (w * (2 + 1)) - 1)) * ((2 : Int) ^ (w * (2 + 2)) - 1)) * _
    rw [ipow_mul, ipow_mul, ipow_mul, ipow_mul, ipow_mul, ipow_mul]
    generalize (2 : Int) ^ w = x
    grind
  · rw [due4, show 2 * 4 * w = w * 8 by omega, ipow_mul]
    simp only [valI, valI0]
    generalize (2 : Int) ^ w = x
    grind
  · have := Int.pow_pos (m := 2) hx
    have := Int.pow_pos (m := 3) hx
    have := Int.pow_pos (m := 4) hx
    have := Int.pow_pos (m := 5) hx
    have := Int.pow_pos (m := 6) hx
    have := Int.pow_pos (m := 7) hx
    have := Int.pow_pos (m := 8) hx
    have := Int.pow_pos (m := 9) hx
    have := Int.pow_pos (m := 10) hx
    have := Int.pow_pos (m := 12) hx
    omega
end

/-! # part N8 -/
section
theorem abv_lt {p w : Nat} (hp : p ≤ 4) : ∀ i, i ≤ 3 → (abvAt p w i).natAbs < 2 ^ (w * (9 * i) + 1)
  | 0, _ => by show 1 < _; simp
  | i + 1, h => by
    have ih := abv_lt (w := w) hp i (by omega)
    show (abvAt p w i * (2 ^ (w * (p + (2 + i))) - 1)).natAbs < _
    rw [Int.natAbs_mul]
    have h2 : w * (p + (2 + i)) ≤ w * 9 := Nat.mul_le_mul (Nat.le_refl _) (by omega)
    have h3 : ((2 : Int) ^ (w * (p + (2 + i))) - 1).natAbs < 2 ^ (w * 9) := Nat.lt_of_lt_of_le (pow_natAbs _) (Nat.pow_le_pow_right (by decide) h2)
    rw [show w * (9 * (i + 1)) + 1 = (w * (9 * i) + 1) + w * 9 by rw [Nat.mul_succ, Nat.mul_add]; omega, Nat.pow_add]
    exact Nat.mul_lt_mul'' ih h3
theorem blw_lt {w : Nat} : ∀ i, i ≤ 3 → (blwAt w i).natAbs < 2 ^ (w * (4 * i) + 1)
  | 0, _ => by show 1 < _; simp
  | i + 1, h => by
    have ih := blw_lt (w := w) i (by omega)
    show (blwAt w i * (2 ^ (w * (2 + i)) - 1)).natAbs < _
    rw [Int.natAbs_mul]
    have h2 : w * (2 + i) ≤ w * 4 := Nat.mul_le_mul (Nat.le_refl _) (by omega)
    have h3 : ((2 : Int) ^ (w * (2 + i)) - 1).natAbs < 2 ^ (w * 4) := Nat.lt_of_lt_of_le (pow_natAbs _) (Nat.pow_le_pow_right (by decide) h2)
    rw [show w * (4 * (i + 1)) + 1 = (w * (4 * i) + 1) + w * 4 by rw [Nat.mul_succ, Nat.mul_add]; omega, Nat.pow_add]
    exact Nat.mul_lt_mul'' ih h3
theorem pow_cast (e : Nat) : ((2 : Int) ^ e) = ((2 ^ e : Nat) : Int) := by norm_cast
theorem pow_ge {e k : Nat} (h : k + 1 ≤ e) : ((2 ^ k : Nat) : Int) ≤ (2 : Int) ^ e - 1 := by
  rw [pow_cast]
  have h1 : 2 ^ (k + 1) ≤ 2 ^ e := Nat.pow_le_pow_right (by decide) h
  have h2 := Nat.two_pow_pos k
  rw [Nat.pow_succ] at h1
  omega
theorem blw_ge {w : Nat} (hw : 0 < w) : ∀ i, ((2 ^ (2 * w - 1) : Nat) : Int) ≤ blwAt w (i + 1)
  | 0 => by
    show _ ≤ 1 * ((2 : Int) ^ (w * (2 + 0)) - 1)
    rw [Int.one_mul]
    exact pow_ge (by omega)
  | i + 1 => by
    have ih := blw_ge hw i
    have h1 : ((2 ^ 0 : Nat) : Int) ≤ (2 : Int) ^ (w * (2 + (i + 1))) - 1 := pow_ge (by have := Nat.mul_le_mul hw (show 1 ≤ 2 + (i + 1) by omega); omega)
    have h0 : (0 : Int) ≤ blwAt w (i + 1) := Int.le_trans (Int.natCast_nonneg _) ih
    show _ ≤ blwAt w (i + 1) * ((2 : Int) ^ (w * (2 + (i + 1))) - 1)
    have h2 := Int.mul_le_mul_of_nonneg_left h1 h0
    have e : ((2 ^ 0 : Nat) : Int) = 1 := rfl
    rw [e, Int.mul_one] at h2
    exact Int.le_trans ih h2

theorem fmod_sign {wh pw od : Int} (hpw : 0 < pw) (hod : od = 1 ∨ od = -1) : od * wh.fmod (od * pw) = (od * wh).fmod pw := by
  rcases hod with rfl | rfl
  · rw [Int.one_mul, Int.one_mul, Int.one_mul]
  · have h := (fdm_neg (a := wh) (b := -1 * pw) (by omega)).2
    rw [← h]
    have e1 : -(-1 * pw) = pw := by omega
    have e2 : -1 * wh = -wh := by omega
    rw [e1, e2]
    omega

theorem signAbs {s x : Int} (h : s = 1 ∨ s = -1) : (s * x).natAbs = x.natAbs := by
  rcases h with rfl | rfl
  · rw [Int.one_mul]
  · rw [show -1 * x = -x by omega, Int.natAbs_neg]

theorem dmOk_of {a b : Int} {k m : Nat} (h0 : b ≠ 0) (h1 : b.natAbs < 2 ^ 2500) (h2 : 2 ^ k ≤ b.natAbs) (h3 : a.natAbs < 2 ^ m) (h4 : m ≤ (k + 1) * 20) : DmOk a b := by
  refine ⟨h0, bitN_le h1, fun x hx => ?_⟩
  have hk := lt_bitN_of h2
  apply cntD_le (by omega)
  refine Nat.lt_of_le_of_lt hx (Nat.lt_of_lt_of_le h3 (Nat.pow_le_pow_right (by decide) ?_))
  exact Nat.le_trans h4 (Nat.mul_le_mul hk (Nat.le_refl _))

structure NumsOK (p w : Nat) (sd od wh : Int) : Prop where
  d1 : DmOk (abvAt p w (p - 1)) (sd * blwAt w (p - 1))
  r0 : (abvAt p w (p - 1)).fmod (sd * blwAt w (p - 1)) = 0
  hwh : wh = (abvAt p w (p - 1)).fdiv (sd * blwAt w (p - 1))
  d2 : DmOk wh (od * (2 ^ (2 * p * w) - 1))
  hv : od * wh.fmod (od * (2 ^ (2 * p * w) - 1)) = ((valN w (dueW p w (!(sd != od))) : Nat) : Int)
  cnt : cntD w (valN w (dueW p w (!(sd != od)))) ≤ 20
  len : (dueW p w (!(sd != od))).length = 2 * p
  lt : ∀ d ∈ dueW p w (!(sd != od)), d < 2 ^ w
  top : 0 < (topK p (dueW p w (!(sd != od)))).length
  dig : digN w (cntD w (valN w (dueW p w (!(sd != od))))) (valN w (dueW p w (!(sd != od)))) = pickL (dueW p w (!(sd != od))) none (some (1 + maxN ((topK p (dueW p w (!(sd != od)))).map fun (i : Nat) => (i : Int)))) none
  ro : (wh.fdiv (od * (2 ^ (2 * p * w) - 1))).natAbs < 2 ^ 30000
  pw : ((2 : Int) ^ (2 * p * w) - 1).natAbs < 2 ^ 30000
  fin : wh.fdiv (od * (2 ^ (2 * p * w) - 1)) * od * (2 ^ (2 * p * w) - 1) + wh.fmod (od * (2 ^ (2 * p * w) - 1)) = wh

theorem pos_topK {p : Nat} {ds : List Nat} (hl : ds.length = 2 * p) (h : ∀ d ∈ ds, 0 < d) : topK p ds = List.range (2 * p) := by
  unfold topK
  apply List.filter_eq_self.mpr
  intro k hk
  have hk' : k < ds.length := by rw [hl]; exact List.mem_range.mp hk
  rw [decide_eq_true_eq, List.getD_eq_getElem?_getD, List.getElem?_eq_getElem hk']
  exact h _ (List.getElem_mem _)

theorem nums {p w : Nat} (hp2 : 2 ≤ p) (hp4 : p ≤ 4) (hw3 : 3 ≤ w) (hw : w ≤ 202) (hd : DueOK p) (hpo : PolyOK p w) {sd od : Int} (hsd : sd = 1 ∨ sd = -1) (hod : od = 1 ∨ od = -1) : ∃ wh, NumsOK p w sd od wh := by
  obtain ⟨C, Q, c1, c2, c3⟩ := hpo.ex
  have hA := abv_lt (w := w) hp4 (p - 1) (by omega)
  have hB := blw_lt (w := w) (p - 1) (by omega)
  have hBg : ((2 ^ (2 * w - 1) : Nat) : Int) ≤ blwAt w (p - 1) := by
    have := blw_ge (w := w) (by omega) (p - 2)
    rwa [show p - 2 + 1 = p - 1 by omega] at this
  have x8 : 8 ≤ 2 ^ w := Nat.le_trans (by decide : 8 ≤ 2 ^ 3) (Nat.pow_le_pow_right (by decide) hw3)
  have eA : w * (9 * (p - 1)) ≤ 27 * w := by rw [Nat.mul_comm 27]; exact Nat.mul_le_mul (Nat.le_refl _) (by omega)
  have eB : w * (4 * (p - 1)) ≤ 12 * w := by rw [Nat.mul_comm 12]; exact Nat.mul_le_mul (Nat.le_refl _) (by omega)
  have hA' : (abvAt p w (p - 1)).natAbs < 2 ^ (27 * w + 1) := Nat.lt_of_lt_of_le hA (Nat.pow_le_pow_right (by decide) (by omega))
  have p1 := Nat.two_pow_pos (2 * w - 1)
  have hB1 : (1 : Int) ≤ blwAt w (p - 1) := by omega
  generalize hBe : blwAt w (p - 1) = B at *
  generalize hAe : abvAt p w (p - 1) = A at *
  -- the power
  have e2p : 2 * p * w = w * (2 * p) := Nat.mul_comm _ _
  have hpwn : ((2 : Int) ^ (2 * p * w) - 1).natAbs < 2 ^ (2 * p * w) := pow_natAbs _
  have e8 : 2 * p * w ≤ 8 * w := Nat.mul_le_mul (by omega) (Nat.le_refl _)
  have e4 : 4 * w ≤ 2 * p * w := Nat.mul_le_mul (by omega) (Nat.le_refl _)
  have hpwg : ((2 ^ (4 * w - 1) : Nat) : Int) ≤ (2 : Int) ^ (2 * p * w) - 1 := pow_ge (by omega)
  have p3 := Nat.two_pow_pos (4 * w - 1)
  have lt0 : ∀ d ∈ dueP p, d < 2 ^ w := fun d h => by have := hd.le d h; omega
  have hcomp := comp_val w (dueP p) lt0
  rw [hd.len, ← e2p] at hcomp
  have hpwe : ((2 : Int) ^ (2 * p * w) - 1) = ((valN w (dueP p) : Nat) : Int) + ((valN w ((dueP p).map fun d => 2 ^ w - 1 - d) : Nat) : Int) := by
    rw [pow_cast]; omega
  obtain ⟨a, r, ha, ha0⟩ := hd.hd
  have R0 : 0 < valN w (dueP p) := by
    rw [ha]
    show 0 < a + _
    omega
  have posd : ∀ d ∈ (dueP p).map (fun d => 2 ^ w - 1 - d), 0 < d := fun d h => by
    obtain ⟨e, he, rfl⟩ := List.mem_map.mp h
    have := hd.le e he
    omega
  have ltd : ∀ d ∈ (dueP p).map (fun d => 2 ^ w - 1 - d), d < 2 ^ w := fun d h => by
    obtain ⟨e, he, rfl⟩ := List.mem_map.mp h
    omega
  have R1 : 0 < valN w ((dueP p).map fun d => 2 ^ w - 1 - d) := by
    have h1 : 2 ^ w - 1 - a ∈ (dueP p).map (fun d => 2 ^ w - 1 - d) := by rw [ha]; exact .head _
    have h2 := posd _ h1
    rw [ha]
    show 0 < (2 ^ w - 1 - a) + _
    omega
  -- C
  have hCA : C.natAbs < 2 ^ (27 * w + 1) := by
    refine Nat.lt_of_le_of_lt ?_ hA'
    rw [c1, Int.natAbs_mul]
    have : 1 ≤ B.natAbs := by omega
    have := Nat.mul_le_mul this (Nat.le_refl C.natAbs)
    omega
  have sq : ∀ {s : Int}, (s = 1 ∨ s = -1) → s * s = 1 := by rintro s (rfl | rfl) <;> rfl
  have hAs : A = (sd * B) * (sd * C) := by
    rw [c1, show sd * B * (sd * C) = (sd * sd) * (B * C) by grind, sq hsd, Int.one_mul]
  have hsB : sd * B ≠ 0 := by
    intro h
    have := congrArg Int.natAbs h
    rw [signAbs hsd] at this
    have : B.natAbs = 0 := this
    omega
  have hwh : A.fdiv (sd * B) = sd * C := by rw [hAs]; exact Int.mul_fdiv_cancel_left _ hsB
  have hr0 : A.fmod (sd * B) = 0 := by rw [hAs]; exact Int.mul_fmod_right _ _
  have hpw0 : (0 : Int) < 2 ^ (2 * p * w) - 1 := by omega
  generalize hpwE : (2 : Int) ^ (2 * p * w) - 1 = pw at *
  have hop : od * pw ≠ 0 := by
    intro h
    have := congrArg Int.natAbs h
    rw [signAbs hod] at this
    have : pw.natAbs = 0 := this
    omega
  have hfd := Int.mul_fdiv_add_fmod (sd * C) (od * pw)
  -- the rest
  have hv : od * (sd * C).fmod (od * pw) = ((valN w (dueW p w (!(sd != od))) : Nat) : Int) := by
    rw [fmod_sign hpw0 hod]
    by_cases hs : sd = od
    · have e : (!(sd != od)) = true := by rw [hs]; simp
      rw [e, hs, ← Int.mul_assoc, sq hod, Int.one_mul]
      exact (fdm_uniq hpw0 c2 (by omega) (by omega)).2
    · have e : (!(sd != od)) = false := by simpa using hs
      rw [e]
      have e3 : od * (sd * C) = -C := by
        rcases hsd with rfl | rfl <;> rcases hod with rfl | rfl
        · exact absurd rfl hs
        · omega
        · omega
        · exact absurd rfl hs
      rw [e3]
      show (-C).fmod pw = ((valN w ((dueP p).map fun one => 2 ^ w - 1 - one) : Nat) : Int)
      refine (fdm_uniq (q := -Q - 1) hpw0 ?_ (by omega) (by omega)).2
      rw [Int.mul_sub, Int.mul_neg, Int.mul_one, c2]
      omega
  have hlen : (dueW p w (!(sd != od))).length = 2 * p := by
    unfold dueW
    split
    · exact hd.len
    · rw [List.length_map]; exact hd.len
  have hlt : ∀ d ∈ dueW p w (!(sd != od)), d < 2 ^ w := by
    unfold dueW
    split
    · exact lt0
    · exact ltd
  have d1 : DmOk A (sd * B) := by
    refine dmOk_of (k := 2 * w - 1) (m := 27 * w + 1) hsB ?_ ?_ hA' (by omega)
    · rw [signAbs hsd]
      exact Nat.lt_of_lt_of_le hB (Nat.pow_le_pow_right (by decide) (by omega))
    · rw [signAbs hsd]; omega
  have d2 : DmOk (sd * C) (od * pw) := by
    refine dmOk_of (k := 4 * w - 1) (m := 27 * w + 1) hop ?_ ?_ (by rw [signAbs hsd]; exact hCA) (by omega)
    · rw [signAbs hod]
      exact Nat.lt_of_lt_of_le hpwn (Nat.pow_le_pow_right (by decide) (by omega))
    · rw [signAbs hod]; omega
  refine ⟨sd * C, ?_⟩
  refine ⟨by rw [hAe, hBe]; exact d1, by rw [hAe, hBe]; exact hr0, by rw [hAe, hBe]; exact hwh.symm, by rw [hpwE]; exact d2, by rw [hpwE]; exact hv, ?_, hlen, hlt, ?_, ?_, ?_, ?_, ?_⟩
  · have := cnt_top (w := w) (by omega) hlt
    omega
  · by_cases hs : sd = od
    · have e : (!(sd != od)) = true := by rw [hs]; simp
      rw [e]; exact hd.pos
    · have e : (!(sd != od)) = false := by simpa using hs
      rw [e] at hlen ⊢
      rw [pos_topK hlen posd, List.length_range]; omega
  · by_cases hs : sd = od
    · have e : (!(sd != od)) = true := by rw [hs]; simp
      rw [e]
      obtain ⟨init, t, z, t1, t2, t3⟩ := hd.top
      show digN w (cntD w (valN w (dueP p))) (valN w (dueP p)) = pickL (dueP p) none (some (1 + maxN ((topK p (dueP p)).map fun (i : Nat) => (i : Int)))) none
      rw [t1]
      have hl : ∀ d ∈ init ++ [t], d < 2 ^ w := fun d h => lt0 d (by rw [t2]; exact List.mem_append_left _ h)
      have := digs_top (w := w) (z := z) (by omega) t3 hl
      rw [← t2] at this
      exact this
    · have e : (!(sd != od)) = false := by simpa using hs
      rw [e] at hlen ⊢
      have e5 : dueW p w false = (dueP p).map fun d => 2 ^ w - 1 - d := rfl
      rw [e5] at hlen ⊢
      rw [pos_topK hlen posd, hd.mx]
      have e6 : ((2 : Int) * (p : Int)) = ((2 * p : Nat) : Int) := by omega
      rw [e6, pickL_toN, List.take_of_length_le (by omega)]
      generalize (dueP p).map (fun d => 2 ^ w - 1 - d) = ds at *
      rcases List.eq_nil_or_concat ds with rfl | ⟨init, t, rfl⟩
      · have : (0 : Nat) = 2 * p := hlen
        omega
      · have := digs_top (w := w) (z := 0) (by omega) (posd t (by simp)) (init := init) (by simpa using ltd)
        simpa using this
  · rw [hpwE]
    have h1 : (sd * C).fdiv (od * pw) * (od * pw) = sd * C - (sd * C).fmod (od * pw) := by rw [Int.mul_comm]; omega
    have h2 := congrArg Int.natAbs h1
    rw [Int.natAbs_mul, signAbs hod] at h2
    have h3 : 1 ≤ pw.natAbs := by omega
    have h4 := Nat.mul_le_mul (Nat.le_refl ((sd * C).fdiv (od * pw)).natAbs) h3
    have h5 : (sd * C - (sd * C).fmod (od * pw)).natAbs ≤ (sd * C).natAbs + ((sd * C).fmod (od * pw)).natAbs := Int.natAbs_sub_le _ _
    have h6 : ((sd * C).fmod (od * pw)).natAbs < 2 ^ (8 * w) := by
      have := congrArg Int.natAbs hv
      rw [signAbs hod, Int.natAbs_natCast] at this
      rw [this]
      have h7 := valN_lt w _ hlt
      rw [hlen] at h7
      exact Nat.lt_of_lt_of_le h7 (Nat.pow_le_pow_right (by decide) (by rw [Nat.mul_comm]; exact e8))
    rw [signAbs hsd] at h5
    have h8 : 2 ^ (8 * w) ≤ 2 ^ (27 * w + 1) := Nat.pow_le_pow_right (by decide) (by omega)
    have h9 : 2 ^ (27 * w + 1) + 2 ^ (27 * w + 1) ≤ 2 ^ 30000 := by
      have : 2 ^ (27 * w + 1) + 2 ^ (27 * w + 1) = 2 ^ (27 * w + 2) := by rw [Nat.pow_succ 2 (27 * w + 1)]; omega
      rw [this]
      exact Nat.pow_le_pow_right (by decide) (by omega)
    omega
  · rw [hpwE]
    exact Nat.lt_of_lt_of_le hpwn (Nat.pow_le_pow_right (by decide) (by omega))
  · rw [hpwE]
    have : (sd * C).fdiv (od * pw) * od * pw = od * pw * (sd * C).fdiv (od * pw) := by grind
    rw [this]
    exact hfd
end

/-! # part C0 -/
section
noncomputable def stB (i : Nat) : Stmt := PySem.Challenge.pw_rs0165_01.main.body.getD i (.Pass ⟨0, 0, 0, 0⟩)
noncomputable def parB (i : Nat) : Arguments := match stB i with
  | .FunctionDef _ a _ _ _ _ _ _ _ _ => a
  | _ => { posonlyargs := [], args := [], vararg := none, kwonlyargs := [], kw_defaults := [], kwarg := none, defaults := [] }
noncomputable def bodyB (i : Nat) : List Stmt := match stB i with
  | .FunctionDef _ _ b _ _ _ _ _ _ _ => b
  | _ => []
noncomputable def scopeB (i : Nat) : Scope := match stB i with
  | .FunctionDef _ _ _ _ _ _ s _ _ _ => s
  | _ => default

/-- the part of the heap behind the top that the walk reads -/
noncomputable def fragQ (P : Params) : Frag := [
  (3, { cls := Value.type "dict", data := Data.dict #[{ hash := PyData.keyHash P (Str.ofString "__name__"), key := Value.str (Str.ofString "__name__") 165, val := Value.str (Str.ofString "law_rs0165_01") 333 }, { hash := PyData.keyHash P (Str.ofString "__doc__"), key := Value.str (Str.ofString "__doc__") 166, val := Value.none }, { hash := PyData.keyHash P (Str.ofString "__package__"), key := Value.str (Str.ofString "__package__") 167, val := Value.none }, { hash := PyData.keyHash P (Str.ofString "__loader__"), key := Value.str (Str.ofString "__loader__") 168, val := Value.builtin "__main__.__loader__#opaque" }, { hash := PyData.keyHash P (Str.ofString "__spec__"), key := Value.str (Str.ofString "__spec__") 169, val := Value.none }, { hash := PyData.keyHash P (Str.ofString "__annotations__"), key := Value.str (Str.ofString "__annotations__") 170, val := Value.ref 6 }, { hash := PyData.keyHash P (Str.ofString "__builtins__"), key := Value.str (Str.ofString "__builtins__") 171, val := Value.ref 4 }, { hash := PyData.keyHash P (Str.ofString "__file__"), key := Value.str (Str.ofString "__file__") 173, val := Value.str (Str.ofString "/claim/cut.py") 172 }, { hash := PyData.keyHash P (Str.ofString "__cached__"), key := Value.str (Str.ofString "__cached__") 174, val := Value.none }, { hash := PyData.keyHash P (Str.ofString "_DIV_LIMIT"), key := Value.str (Str.ofString "_DIV_LIMIT") 190, val := Value.int 4000 189 }, { hash := PyData.keyHash P (Str.ofString "_div2n1n"), key := Value.str (Str.ofString "_div2n1n") 207, val := Value.ref 21 }, { hash := PyData.keyHash P (Str.ofString "_div3n2n"), key := Value.str (Str.ofString "_div3n2n") 221, val := Value.ref 28 }, { hash := PyData.keyHash P (Str.ofString "_int2digits"), key := Value.str (Str.ofString "_int2digits") 232, val := Value.ref 35 }, { hash := PyData.keyHash P (Str.ofString "_digits2int"), key := Value.str (Str.ofString "_digits2int") 243, val := Value.ref 42 }, { hash := PyData.keyHash P (Str.ofString "_divmod_pos"), key := Value.str (Str.ofString "_divmod_pos") 258, val := Value.ref 49 }, { hash := PyData.keyHash P (Str.ofString "int_divmod"), key := Value.str (Str.ofString "int_divmod") 268, val := Value.ref 56 }, { hash := PyData.keyHash P (Str.ofString "bisect_right"), key := Value.str (Str.ofString "bisect_right") 284, val := Value.ref 65 }, { hash := PyData.keyHash P (Str.ofString "bisect_left"), key := Value.str (Str.ofString "bisect_left") 298, val := Value.ref 74 }, { hash := PyData.keyHash P (Str.ofString "_iter_escaped_chars"), key := Value.str (Str.ofString "_iter_escaped_chars") 310, val := Value.ref 81 }, { hash := PyData.keyHash P (Str.ofString "_strip_quoted_realnames"), key := Value.str (Str.ofString "_strip_quoted_realnames") 322, val := Value.ref 88 }, { hash := PyData.keyHash P (Str.ofString "_check_parenthesis"), key := Value.str (Str.ofString "_check_parenthesis") 332, val := Value.ref 95 }, { hash := PyData.keyHash P (Str.ofString "_law_rows"), key := Value.str (Str.ofString "_law_rows") 340, val := Value.ref 100 }, { hash := PyData.keyHash P (Str.ofString "_law_turned"), key := Value.str (Str.ofString "_law_turned") 346, val := Value.ref 105 }, { hash := PyData.keyHash P (Str.ofString "_law_answers"), key := Value.str (Str.ofString "_law_answers") 352, val := Value.ref 110 }, { hash := PyData.keyHash P (Str.ofString "law"), key := Value.str (Str.ofString "law") 358, val := Value.ref 115 }] 25 }),
  (20, { cls := Value.type "code", data := Data.fields #[Value.str (Str.ofString "_div2n1n") 191, Value.str (Str.ofString "_div2n1n") 192, Value.str (Str.ofString "/claim/cut.py") 193, Value.int 3 0, Value.int 3 0, Value.int 0 0, Value.int 0 0, Value.int 3 0, Value.ref 15, Value.bool true, Value.int 181 0, Value.ref 16, Value.none, Value.ref 17, Value.ref 18, Value.ref 19, Value.int 205 0, Value.int 3 0, Value.str (Str.ofString "/claim/cut.py") 206] }),
  (21, { cls := Value.type "function", data := Data.func { name := Str.ofString "_div2n1n", qualname := Str.ofString "_div2n1n", params := parB 2, body := FuncBody.stmts (bodyB 2), scope := scopeB 2, globals := 3, closure := [], defaults := Value.none, kwdefaults := Value.none, doc := Value.none, pyModule := Value.str (Str.ofString "cpy313._pylong") 187, annotations := none, code := Value.ref 20, closureTuple := Value.none, builtins := 0 } }),
  (34, { cls := Value.type "code", data := Data.fields #[Value.str (Str.ofString "_int2digits") 222, Value.str (Str.ofString "_int2digits") 223, Value.str (Str.ofString "/claim/cut.py") 224, Value.int 29 0, Value.int 2 0, Value.int 0 0, Value.int 0 0, Value.int 3 0, Value.ref 29, Value.bool true, Value.int 181 0, Value.ref 30, Value.none, Value.ref 31, Value.ref 32, Value.ref 33, Value.int 230 0, Value.int 29 0, Value.str (Str.ofString "/claim/cut.py") 231] }),
  (35, { cls := Value.type "function", data := Data.func { name := Str.ofString "_int2digits", qualname := Str.ofString "_int2digits", params := parB 4, body := FuncBody.stmts (bodyB 4), scope := scopeB 4, globals := 3, closure := [], defaults := Value.none, kwdefaults := Value.none, doc := Value.none, pyModule := Value.str (Str.ofString "cpy313._pylong") 187, annotations := none, code := Value.ref 34, closureTuple := Value.none, builtins := 0 } }),
  (41, { cls := Value.type "code", data := Data.fields #[Value.str (Str.ofString "_digits2int") 233, Value.str (Str.ofString "_digits2int") 234, Value.str (Str.ofString "/claim/cut.py") 235, Value.int 45 0, Value.int 2 0, Value.int 0 0, Value.int 0 0, Value.int 3 0, Value.ref 36, Value.bool true, Value.int 181 0, Value.ref 37, Value.none, Value.ref 38, Value.ref 39, Value.ref 40, Value.int 241 0, Value.int 45 0, Value.str (Str.ofString "/claim/cut.py") 242] }),
  (42, { cls := Value.type "function", data := Data.func { name := Str.ofString "_digits2int", qualname := Str.ofString "_digits2int", params := parB 5, body := FuncBody.stmts (bodyB 5), scope := scopeB 5, globals := 3, closure := [], defaults := Value.none, kwdefaults := Value.none, doc := Value.none, pyModule := Value.str (Str.ofString "cpy313._pylong") 187, annotations := none, code := Value.ref 41, closureTuple := Value.none, builtins := 0 } }),
  (48, { cls := Value.type "code", data := Data.fields #[Value.str (Str.ofString "_divmod_pos") 244, Value.str (Str.ofString "_divmod_pos") 245, Value.str (Str.ofString "/claim/cut.py") 246, Value.int 54 0, Value.int 2 0, Value.int 0 0, Value.int 0 0, Value.int 3 0, Value.ref 43, Value.bool true, Value.int 181 0, Value.ref 44, Value.none, Value.ref 45, Value.ref 46, Value.ref 47, Value.int 256 0, Value.int 54 0, Value.str (Str.ofString "/claim/cut.py") 257] }),
  (49, { cls := Value.type "function", data := Data.func { name := Str.ofString "_divmod_pos", qualname := Str.ofString "_divmod_pos", params := parB 6, body := FuncBody.stmts (bodyB 6), scope := scopeB 6, globals := 3, closure := [], defaults := Value.none, kwdefaults := Value.none, doc := Value.none, pyModule := Value.str (Str.ofString "cpy313._pylong") 187, annotations := none, code := Value.ref 48, closureTuple := Value.none, builtins := 0 } }),
  (55, { cls := Value.type "code", data := Data.fields #[Value.str (Str.ofString "int_divmod") 259, Value.str (Str.ofString "int_divmod") 260, Value.str (Str.ofString "/claim/cut.py") 261, Value.int 65 0, Value.int 2 0, Value.int 0 0, Value.int 0 0, Value.int 3 0, Value.ref 50, Value.bool true, Value.int 181 0, Value.ref 51, Value.none, Value.ref 52, Value.ref 53, Value.ref 54, Value.int 266 0, Value.int 65 0, Value.str (Str.ofString "/claim/cut.py") 267] }),
  (56, { cls := Value.type "function", data := Data.func { name := Str.ofString "int_divmod", qualname := Str.ofString "int_divmod", params := parB 7, body := FuncBody.stmts (bodyB 7), scope := scopeB 7, globals := 3, closure := [], defaults := Value.none, kwdefaults := Value.none, doc := Value.none, pyModule := Value.str (Str.ofString "cpy313._pylong") 187, annotations := none, code := Value.ref 55, closureTuple := Value.none, builtins := 0 } }),
  (57, { cls := Value.type "tuple", data := Data.seq #[Value.int 0 271, Value.none] }),
  (58, { cls := Value.type "dict", data := Data.dict #[{ hash := PyData.keyHash P (Str.ofString "key"), key := Value.str (Str.ofString "key") 272, val := Value.none }] 1 }),
  (64, { cls := Value.type "code", data := Data.fields #[Value.str (Str.ofString "bisect_right") 273, Value.str (Str.ofString "bisect_right") 274, Value.str (Str.ofString "/claim/cut.py") 275, Value.int 77 0, Value.int 4 0, Value.int 0 0, Value.int 1 0, Value.int 3 0, Value.ref 59, Value.bool true, Value.int 181 0, Value.ref 60, Value.none, Value.ref 61, Value.ref 62, Value.ref 63, Value.int 282 0, Value.int 77 0, Value.str (Str.ofString "/claim/cut.py") 283] }),
  (65, { cls := Value.type "function", data := Data.func { name := Str.ofString "bisect_right", qualname := Str.ofString "bisect_right", params := parB 9, body := FuncBody.stmts (bodyB 9), scope := scopeB 9, globals := 3, closure := [], defaults := Value.ref 57, kwdefaults := Value.ref 58, doc := Value.none, pyModule := Value.str (Str.ofString "cpy313.bisect") 269, annotations := none, code := Value.ref 64, closureTuple := Value.none, builtins := 0 } }),
  (66, { cls := Value.type "tuple", data := Data.seq #[Value.int 0 285, Value.none] }),
  (67, { cls := Value.type "dict", data := Data.dict #[{ hash := PyData.keyHash P (Str.ofString "key"), key := Value.str (Str.ofString "key") 286, val := Value.none }] 1 }),
  (73, { cls := Value.type "code", data := Data.fields #[Value.str (Str.ofString "bisect_left") 287, Value.str (Str.ofString "bisect_left") 288, Value.str (Str.ofString "/claim/cut.py") 289, Value.int 97 0, Value.int 4 0, Value.int 0 0, Value.int 1 0, Value.int 3 0, Value.ref 68, Value.bool true, Value.int 181 0, Value.ref 69, Value.none, Value.ref 70, Value.ref 71, Value.ref 72, Value.int 296 0, Value.int 97 0, Value.str (Str.ofString "/claim/cut.py") 297] }),
  (74, { cls := Value.type "function", data := Data.func { name := Str.ofString "bisect_left", qualname := Str.ofString "bisect_left", params := parB 10, body := FuncBody.stmts (bodyB 10), scope := scopeB 10, globals := 3, closure := [], defaults := Value.ref 66, kwdefaults := Value.ref 67, doc := Value.none, pyModule := Value.str (Str.ofString "cpy313.bisect") 269, annotations := none, code := Value.ref 73, closureTuple := Value.none, builtins := 0 } }),
  (80, { cls := Value.type "code", data := Data.fields #[Value.str (Str.ofString "_iter_escaped_chars") 301, Value.str (Str.ofString "_iter_escaped_chars") 302, Value.str (Str.ofString "/claim/cut.py") 303, Value.int 118 0, Value.int 1 0, Value.int 0 0, Value.int 0 0, Value.int 35 0, Value.ref 75, Value.bool true, Value.int 181 0, Value.ref 76, Value.none, Value.ref 77, Value.ref 78, Value.ref 79, Value.int 308 0, Value.int 118 0, Value.str (Str.ofString "/claim/cut.py") 309] }),
  (81, { cls := Value.type "function", data := Data.func { name := Str.ofString "_iter_escaped_chars", qualname := Str.ofString "_iter_escaped_chars", params := parB 12, body := FuncBody.stmts (bodyB 12), scope := scopeB 12, globals := 3, closure := [], defaults := Value.none, kwdefaults := Value.none, doc := Value.none, pyModule := Value.str (Str.ofString "cpy313.email.utils") 299, annotations := none, code := Value.ref 80, closureTuple := Value.none, builtins := 0 } }),
  (87, { cls := Value.type "code", data := Data.fields #[Value.str (Str.ofString "_strip_quoted_realnames") 311, Value.str (Str.ofString "_strip_quoted_realnames") 312, Value.str (Str.ofString "/claim/cut.py") 313, Value.int 131 0, Value.int 1 0, Value.int 0 0, Value.int 0 0, Value.int 3 0, Value.ref 82, Value.bool true, Value.int 181 0, Value.ref 83, Value.none, Value.ref 84, Value.ref 85, Value.ref 86, Value.int 320 0, Value.int 131 0, Value.str (Str.ofString "/claim/cut.py") 321] }),
  (88, { cls := Value.type "function", data := Data.func { name := Str.ofString "_strip_quoted_realnames", qualname := Str.ofString "_strip_quoted_realnames", params := parB 13, body := FuncBody.stmts (bodyB 13), scope := scopeB 13, globals := 3, closure := [], defaults := Value.none, kwdefaults := Value.none, doc := Value.none, pyModule := Value.str (Str.ofString "cpy313.email.utils") 299, annotations := none, code := Value.ref 87, closureTuple := Value.none, builtins := 0 } }),
  (94, { cls := Value.type "code", data := Data.fields #[Value.str (Str.ofString "_check_parenthesis") 323, Value.str (Str.ofString "_check_parenthesis") 324, Value.str (Str.ofString "/claim/cut.py") 325, Value.int 149 0, Value.int 1 0, Value.int 0 0, Value.int 0 0, Value.int 3 0, Value.ref 89, Value.bool true, Value.int 181 0, Value.ref 90, Value.none, Value.ref 91, Value.ref 92, Value.ref 93, Value.int 330 0, Value.int 149 0, Value.str (Str.ofString "/claim/cut.py") 331] }),
  (95, { cls := Value.type "function", data := Data.func { name := Str.ofString "_check_parenthesis", qualname := Str.ofString "_check_parenthesis", params := parB 14, body := FuncBody.stmts (bodyB 14), scope := scopeB 14, globals := 3, closure := [], defaults := Value.none, kwdefaults := Value.none, doc := Value.none, pyModule := Value.str (Str.ofString "cpy313.email.utils") 299, annotations := none, code := Value.ref 94, closureTuple := Value.none, builtins := 0 } }),
  (99, { cls := Value.type "code", data := Data.fields #[Value.str (Str.ofString "_law_rows") 335, Value.str (Str.ofString "_law_rows") 336, Value.str (Str.ofString "/claim/cut.py") 337, Value.int 161 0, Value.int 1 0, Value.int 0 0, Value.int 0 0, Value.int 3 0, Value.ref 96, Value.bool true, Value.int 181 0, Value.ref 97, Value.none, Value.none, Value.none, Value.ref 98, Value.int 338 0, Value.int 161 0, Value.str (Str.ofString "/claim/cut.py") 339] }),
  (100, { cls := Value.type "function", data := Data.func { name := Str.ofString "_law_rows", qualname := Str.ofString "_law_rows", params := parB 16, body := FuncBody.stmts (bodyB 16), scope := scopeB 16, globals := 3, closure := [], defaults := Value.none, kwdefaults := Value.none, doc := Value.none, pyModule := Value.str (Str.ofString "law_rs0165_01") 333, annotations := none, code := Value.ref 99, closureTuple := Value.none, builtins := 0 } }),
  (104, { cls := Value.type "code", data := Data.fields #[Value.str (Str.ofString "_law_turned") 341, Value.str (Str.ofString "_law_turned") 342, Value.str (Str.ofString "/claim/cut.py") 343, Value.int 166 0, Value.int 2 0, Value.int 0 0, Value.int 0 0, Value.int 3 0, Value.ref 101, Value.bool true, Value.int 181 0, Value.ref 102, Value.none, Value.none, Value.none, Value.ref 103, Value.int 344 0, Value.int 166 0, Value.str (Str.ofString "/claim/cut.py") 345] }),
  (105, { cls := Value.type "function", data := Data.func { name := Str.ofString "_law_turned", qualname := Str.ofString "_law_turned", params := parB 17, body := FuncBody.stmts (bodyB 17), scope := scopeB 17, globals := 3, closure := [], defaults := Value.none, kwdefaults := Value.none, doc := Value.none, pyModule := Value.str (Str.ofString "law_rs0165_01") 333, annotations := none, code := Value.ref 104, closureTuple := Value.none, builtins := 0 } }),
  (109, { cls := Value.type "code", data := Data.fields #[Value.str (Str.ofString "_law_answers") 347, Value.str (Str.ofString "_law_answers") 348, Value.str (Str.ofString "/claim/cut.py") 349, Value.int 176 0, Value.int 2 0, Value.int 0 0, Value.int 0 0, Value.int 3 0, Value.ref 106, Value.bool true, Value.int 181 0, Value.ref 107, Value.none, Value.none, Value.none, Value.ref 108, Value.int 350 0, Value.int 176 0, Value.str (Str.ofString "/claim/cut.py") 351] }),
  (110, { cls := Value.type "function", data := Data.func { name := Str.ofString "_law_answers", qualname := Str.ofString "_law_answers", params := parB 18, body := FuncBody.stmts (bodyB 18), scope := scopeB 18, globals := 3, closure := [], defaults := Value.none, kwdefaults := Value.none, doc := Value.none, pyModule := Value.str (Str.ofString "law_rs0165_01") 333, annotations := none, code := Value.ref 109, closureTuple := Value.none, builtins := 0 } }),
  (114, { cls := Value.type "code", data := Data.fields #[Value.str (Str.ofString "law") 353, Value.str (Str.ofString "law") 354, Value.str (Str.ofString "/claim/cut.py") 355, Value.int 181 0, Value.int 1 0, Value.int 0 0, Value.int 0 0, Value.int 3 0, Value.ref 111, Value.bool true, Value.int 181 0, Value.ref 112, Value.none, Value.none, Value.none, Value.ref 113, Value.int 356 0, Value.int 181 0, Value.str (Str.ofString "/claim/cut.py") 357] }),
  (115, { cls := Value.type "function", data := Data.func { name := Str.ofString "law", qualname := Str.ofString "law", params := parB 19, body := FuncBody.stmts (bodyB 19), scope := scopeB 19, globals := 3, closure := [], defaults := Value.none, kwdefaults := Value.none, doc := Value.none, pyModule := Value.str (Str.ofString "law_rs0165_01") 333, annotations := none, code := Value.ref 114, closureTuple := Value.none, builtins := 0 } })]
noncomputable def addrsQ : List Addr := [3, 20, 21, 34, 35, 41, 42, 48, 49, 55, 56, 57, 58, 64, 65, 66, 67, 73, 74, 80, 81, 87, 88, 94, 95, 99, 100, 104, 105, 109, 110, 114, 115]
noncomputable def viewQ : Program := { PySem.Challenge.pw_rs0165_01 with main := { PySem.Challenge.pw_rs0165_01.main with body := [stB 1, stB 2, stB 3, stB 4, stB 5, stB 6, stB 7, stB 12, stB 13, stB 14, stB 16, stB 17, stB 18, stB 19] } }
noncomputable def hookQ : Hook := kmHook fragQ addrsQ (fun _ => by kernel_rfl) [37, 30]
end

/-! # part C1 -/
section
open PySem.Sem (wp)
/-- a function that stands in the written part -/
structure FIn (P : Params) (f : Addr) (scope : Scope) (body : List Stmt) (names : List Str) (dv : List Value) (c : Addr) (qn : Str) : Prop where
  ex : ∃ o fd, (fragQ P).lookup f = some o ∧ o.data = .func fd ∧ fd.scope = scope ∧ fd.globals = mainGlobals ∧ fd.builtins = builtinsNs ∧ fd.closure = [] ∧ fd.body = .stmts body ∧ fd.code = .ref c ∧ fd.qualname = qn ∧ codeIn (fragQ P) (.ref c) qn = true ∧
    ∀ vs : List Value, vs.length + dv.length = names.length → ∀ S, peek (fragQ P) S (bindArgs fd ⟨vs, []⟩) = some (names.zip (vs ++ dv))

set_option maxHeartbeats 1000000
theorem in2 (P : Params) : FIn P 21 (scopeA 2) (bodyA 2) ["a", "b", "n"] [] 20 "_div2n1n" := by
  refine ⟨_, _, rfl, rfl, ?_, rfl, rfl, rfl, ?_, rfl, rfl, ?_, ?_⟩
  · kernel_rfl
  · kernel_rfl
  · kernel_rfl
  · intro vs h S
    match vs, h with
    | [v0, v1, v2], _ => rfl
theorem in4 (P : Params) : FIn P 35 (scopeA 4) (bodyA 4) ["a", "n"] [] 34 "_int2digits" := by
  refine ⟨_, _, rfl, rfl, ?_, rfl, rfl, rfl, ?_, rfl, rfl, ?_, ?_⟩
  · kernel_rfl
  · kernel_rfl
  · kernel_rfl
  · intro vs h S
    match vs, h with
    | [v0, v1], _ => rfl
theorem in5 (P : Params) : FIn P 42 (scopeA 5) (bodyA 5) ["digits", "n"] [] 41 "_digits2int" := by
  refine ⟨_, _, rfl, rfl, ?_, rfl, rfl, rfl, ?_, rfl, rfl, ?_, ?_⟩
  · kernel_rfl
  · kernel_rfl
  · kernel_rfl
  · intro vs h S
    match vs, h with
    | [v0, v1], _ => rfl
theorem in6 (P : Params) : FIn P 49 (scopeA 6) (bodyA 6) ["a", "b"] [] 48 "_divmod_pos" := by
  refine ⟨_, _, rfl, rfl, ?_, rfl, rfl, rfl, ?_, rfl, rfl, ?_, ?_⟩
  · kernel_rfl
  · kernel_rfl
  · kernel_rfl
  · intro vs h S
    match vs, h with
    | [v0, v1], _ => rfl
theorem in7 (P : Params) : FIn P 56 (scopeA 7) (bodyA 7) ["a", "b"] [] 55 "int_divmod" := by
  refine ⟨_, _, rfl, rfl, ?_, rfl, rfl, rfl, ?_, rfl, rfl, ?_, ?_⟩
  · kernel_rfl
  · kernel_rfl
  · kernel_rfl
  · intro vs h S
    match vs, h with
    | [v0, v1], _ => rfl
theorem in12 (P : Params) : FIn P 81 (scopeA 12) (bodyA 12) ["addr"] [] 80 "_iter_escaped_chars" := by
  refine ⟨_, _, rfl, rfl, ?_, rfl, rfl, rfl, ?_, rfl, rfl, ?_, ?_⟩
  · kernel_rfl
  · kernel_rfl
  · kernel_rfl
  · intro vs h S
    match vs, h with
    | [v0], _ => rfl
theorem in13 (P : Params) : FIn P 88 (scopeA 13) (bodyA 13) ["addr"] [] 87 "_strip_quoted_realnames" := by
  refine ⟨_, _, rfl, rfl, ?_, rfl, rfl, rfl, ?_, rfl, rfl, ?_, ?_⟩
  · kernel_rfl
  · kernel_rfl
  · kernel_rfl
  · intro vs h S
    match vs, h with
    | [v0], _ => rfl
theorem in14 (P : Params) : FIn P 95 (scopeA 14) (bodyA 14) ["addr"] [] 94 "_check_parenthesis" := by
  refine ⟨_, _, rfl, rfl, ?_, rfl, rfl, rfl, ?_, rfl, rfl, ?_, ?_⟩
  · kernel_rfl
  · kernel_rfl
  · kernel_rfl
  · intro vs h S
    match vs, h with
    | [v0], _ => rfl
theorem in16 (P : Params) : FIn P 100 (scopeA 16) (bodyA 16) ["pairs"] [] 99 "_law_rows" := by
  refine ⟨_, _, rfl, rfl, ?_, rfl, rfl, rfl, ?_, rfl, rfl, ?_, ?_⟩
  · kernel_rfl
  · kernel_rfl
  · kernel_rfl
  · intro vs h S
    match vs, h with
    | [v0], _ => rfl
theorem in17 (P : Params) : FIn P 105 (scopeA 17) (bodyA 17) ["row", "pieces"] [] 104 "_law_turned" := by
  refine ⟨_, _, rfl, rfl, ?_, rfl, rfl, rfl, ?_, rfl, rfl, ?_, ?_⟩
  · kernel_rfl
  · kernel_rfl
  · kernel_rfl
  · intro vs h S
    match vs, h with
    | [v0, v1], _ => rfl
theorem in18 (P : Params) : FIn P 110 (scopeA 18) (bodyA 18) ["row", "pieces"] [] 109 "_law_answers" := by
  refine ⟨_, _, rfl, rfl, ?_, rfl, rfl, rfl, ?_, rfl, rfl, ?_, ?_⟩
  · kernel_rfl
  · kernel_rfl
  · kernel_rfl
  · intro vs h S
    match vs, h with
    | [v0, v1], _ => rfl
theorem in19 (P : Params) : FIn P 115 (scopeA 19) (bodyA 19) ["script"] [] 114 "law" := by
  refine ⟨_, _, rfl, rfl, ?_, rfl, rfl, rfl, ?_, rfl, rfl, ?_, ?_⟩
  · kernel_rfl
  · kernel_rfl
  · kernel_rfl
  · intro vs h S
    match vs, h with
    | [v0], _ => rfl
theorem in9 (P : Params) : FIn P 65 (scopeA 9) (bodyA 9) ["a", "x", "lo", "hi", "key"] [.int 0 271, .none, .none] 64 "bisect_right" := by
  refine ⟨_, _, rfl, rfl, ?_, rfl, rfl, rfl, ?_, rfl, rfl, ?_, ?_⟩
  · kernel_rfl
  · kernel_rfl
  · kernel_rfl
  · intro vs h S
    match vs, h with
    | [v0, v1], _ => rfl
theorem in10 (P : Params) : FIn P 74 (scopeA 10) (bodyA 10) ["a", "x", "lo", "hi", "key"] [.int 0 285, .none, .none] 73 "bisect_left" := by
  refine ⟨_, _, rfl, rfl, ?_, rfl, rfl, rfl, ?_, rfl, rfl, ?_, ?_⟩
  · kernel_rfl
  · kernel_rfl
  · kernel_rfl
  · intro vs h S
    match vs, h with
    | [v0, v1], _ => rfl

noncomputable def tabsL : List (Addr × Addr) := [(34, 30), (41, 37)]
noncomputable def pos4 : Pos := ⟨32, 4, 41, 28⟩
noncomputable def pos5 : Pos := ⟨47, 4, 52, 55⟩
noncomputable def q4 : Str := "_int2digits" ++ ".<locals>." ++ "inner"
noncomputable def q5 : Str := "_digits2int" ++ ".<locals>." ++ "inner"

/-- what a code's table may hold -/
noncomputable def TabSt (h : Heap) (T : Addr) (pos : Pos) (qual : Str) : Prop := ∃ ps, h.get? T = some (tabObj ps) ∧ (ps = #[] ∨ ∃ c', ps = #[rawInt pos.line, rawInt pos.col, .ref c'] ∧ CRec h c' qual)

theorem CRec.keep {h h' : Heap} {c' : Addr} {qual : Str} (x : CRec h c' qual) (k : ∀ o, h.get? c' = some o → Stays o → h'.get? c' = some o) : CRec h' c' qual := by
  obtain ⟨oc, vs, t, e1, e2, e3, e4⟩ := x
  exact ⟨oc, vs, t, k oc e1 (.inl ⟨e2, vs, e3⟩), e2, e3, e4⟩
theorem TabSt.keep {h h' : Heap} {T : Addr} {pos : Pos} {qual : Str} (x : TabSt h T pos qual) (kT : ∀ o, h.get? T = some o → h'.get? T = some o) (k : ∀ b o, h.get? b = some o → Stays o → h'.get? b = some o) : TabSt h' T pos qual := by
  obtain ⟨ps, e1, e2⟩ := x
  refine ⟨ps, kT _ e1, e2.imp id ?_⟩
  rintro ⟨c', e3, e4⟩
  exact ⟨c', e3, e4.keep (k c')⟩
theorem TabSt.facts {h : Heap} {T : Addr} {pos : Pos} {qual : Str} (x : TabSt h T pos qual) : ∃ ps, h.get? T = some (tabObj ps) ∧ TriplesOk ps.toList ∧ (codeAmong pos ps.toList = none ∨ ∃ c', codeAmong pos ps.toList = some (.ref c') ∧ CRec h c' qual) := by
  obtain ⟨ps, e1, e2⟩ := x
  refine ⟨ps, e1, ?_⟩
  rcases e2 with rfl | ⟨c', rfl, e3⟩
  · exact ⟨trivial, .inl rfl⟩
  · exact ⟨trivial, .inr ⟨c', by simp [codeAmong, rawInt], e3⟩⟩
theorem TabSt.step {h h' : Heap} {T : Addr} {pos : Pos} {qual : Str} {ps : Array Value} {c' : Addr} (x : TabSt h T pos qual) (e1 : h.get? T = some (tabObj ps)) (e2 : codeAmong pos ps.toList = none) (e3 : h'.get? T = some (tabObj (ps ++ #[rawInt pos.line, rawInt pos.col, .ref c']))) (e4 : CRec h' c' qual) : TabSt h' T pos qual := by
  obtain ⟨ps', f1, f2⟩ := x
  rw [e1] at f1
  have e : ps = ps' := by injection f1 with f1; injection f1 with _ _ f1; injection f1
  subst e
  rcases f2 with rfl | ⟨c2, rfl, f3⟩
  · exact ⟨_, e3, .inr ⟨c', by simp, e4⟩⟩
  · exfalso
    simp [codeAmong, rawInt] at e2

theorem tabsAt_of {P : Params} {h : Heap} (KX : Frag.In (fragQ P) h) (h8 : ∀ a ∈ ([37, 30] : List Addr), h.get? a = some (tabObj #[])) : TabsAt tabsL h := fun q hq => by
  unfold tabsL at hq
  simp only [List.mem_cons, List.not_mem_nil, or_false] at hq
  rcases hq with rfl | rfl
  · exact ⟨codeHd_of_K (c := 34) (P := 30) KX (by kernel_rfl), h8 30 (.tail _ (.head _))⟩
  · exact ⟨codeHd_of_K (c := 41) (P := 37) KX (by kernel_rfl), h8 37 (.head _)⟩

/-- the ground of the law's walk -/
noncomputable def theCx (w : World) (h₁ : Heap) (mg mb : Str → Option Value) (hT : TabsAt tabsL h₁) (hg : h₁.Ns mainGlobals mg) (hb : h₁.Ns builtinsNs mb) (hn : h₁.NoLimit) : Cx where
  w := w
  g0 := ghostOf h₁ tabsL
  mg := mg
  mb := mb
  hg := ghost_ns hT hg
  hb := ghost_ns hT hb
  nolim := let ⟨mc, a, r⟩ := hn; ⟨mc, ghost_ns hT a, r⟩
  Tb := fun a => a = 30 ∨ a = 37
  tab := fun h => TabSt h 30 pos4 q4 ∧ TabSt h 37 pos5 q5
  tbLow := fun a q => by
    rw [show (ghostOf h₁ tabsL).objs.size = h₁.objs.size from hideAll_size _ _]
    rcases q with rfl | rfl
    · exact Heap.lt_size (hT (34, 30) (.head _)).2
    · exact Heap.lt_size (hT (41, 37) (.tail _ (.head _))).2
  tbOut := fun a q => by
    rcases q with rfl | rfl
    · exact hideAll_none _ (.head _)
    · exact hideAll_none _ (.tail _ (.head _))
  tabKeep := fun h h' k x => ⟨x.1.keep (fun o e => k _ o e (.inl (.inl rfl))) fun b o e s => k b o e (.inr s), x.2.keep (fun o e => k _ o e (.inl (.inr rfl))) fun b o e s => k b o e (.inr s)⟩

section
variable {w : World} {h₁ : Heap} {mg mb : Str → Option Value} {hT : TabsAt tabsL h₁} {hg : h₁.Ns mainGlobals mg} {hb : h₁.Ns builtinsNs mb} {hn : h₁.NoLimit}

theorem theCx_tab4 (hbm : ∃ bm ob, mg "__builtins__" = some (.ref bm) ∧ bm ≠ builtinsNs ∧ h₁.get? bm = some ob ∧ ob.cls = .type "module" ∧ ob.dict = some builtinsNs ∧ ob.data = .plain) : TabFacts (theCx w h₁ mg mb hT hg hb hn) 34 30 ⟨32, 4, 41, 28⟩ ("_int2digits" ++ ".<locals>." ++ "inner") where
  hC := (ghost_code hT).1
  hB := by
    obtain ⟨bm, ob, a1, a2, a3, a4, a5, a6⟩ := hbm
    refine ⟨bm, ob, a1, a2, fun q => ?_, fun q => ?_, ghost_get hT a3 (fun q => by rw [q] at a4; cases a4), a4, a5, a6⟩
    · subst q
      obtain ⟨o, es, ep, e, hd, _⟩ := hg
      rw [a3] at e
      cases e
      rw [a6] at hd; cases hd
    · subst q
      rw [(hT (34, 30) (.head _)).2] at a3
      cases a3; cases a4
  hT := .inl rfl
  hgT := by decide
  htab := fun h x => x.1.facts
  hstep := fun h h' ps c' x hx e1 e2 e3 e4 => ⟨x.1.step e1 e2 e3 e4, x.2.keep (fun o e => hx _ o (by decide) e) fun b o e s => hx b o (fun q => by
    subst q
    rw [e1] at e; cases e
    rcases s with ⟨q, _⟩ | ⟨q, _⟩ <;> cases q) e⟩
theorem theCx_tab5 (hbm : ∃ bm ob, mg "__builtins__" = some (.ref bm) ∧ bm ≠ builtinsNs ∧ h₁.get? bm = some ob ∧ ob.cls = .type "module" ∧ ob.dict = some builtinsNs ∧ ob.data = .plain) : TabFacts (theCx w h₁ mg mb hT hg hb hn) 41 37 ⟨47, 4, 52, 55⟩ ("_digits2int" ++ ".<locals>." ++ "inner") where
  hC := (ghost_code hT).2.1
  hB := by
    obtain ⟨bm, ob, a1, a2, a3, a4, a5, a6⟩ := hbm
    refine ⟨bm, ob, a1, a2, fun q => ?_, fun q => ?_, ghost_get hT a3 (fun q => by rw [q] at a4; cases a4), a4, a5, a6⟩
    · subst q
      obtain ⟨o, es, ep, e, hd, _⟩ := hg
      rw [a3] at e
      cases e
      rw [a6] at hd; cases hd
    · subst q
      rw [(hT (41, 37) (.tail _ (.head _))).2] at a3
      cases a3; cases a4
  hT := .inr rfl
  hgT := by decide
  htab := fun h x => x.2.facts
  hstep := fun h h' ps c' x hx e1 e2 e3 e4 => ⟨x.1.keep (fun o e => hx _ o (by decide) e) (fun b o e s => hx b o (fun q => by
    subst q
    rw [e1] at e; cases e
    rcases s with ⟨q, _⟩ | ⟨q, _⟩ <;> cases q) e), x.2.step e1 e2 e3 e4⟩

theorem fnObj_in {P : Params} {f c : Addr} {qn : Str} {scope : Scope} {body : List Stmt} {names : List Str} {dv : List Value} (KX : Frag.In (fragQ P) (ghostOf h₁ tabsL)) (h : FIn P f scope body names dv c qn) : FnObjC (theCx w h₁ mg mb hT hg hb hn) f scope body names dv c qn := by
  obtain ⟨o, fd, e1, e2, e3, e4, e5, e6, e7, e8, e9, e10, e11⟩ := h.ex
  refine ⟨o, fd, KX _ _ e1, e2, e3, e4, e5, e6, e7, ?_, e8, e9, fun vs A Q E s hl hi hq => ?_⟩
  · rw [e8, e9]; exact codeRec_of KX e10
  · exact kp_binds (KX.keeps hi.keep) (e11 vs hl) _ _ _ _ hq
theorem FnObjC.plain {K : Cx} {f c : Addr} {qn : Str} {scope : Scope} {body : List Stmt} {names : List Str} {dv : List Value} (h : FnObjC K f scope body names dv c qn) : FnObj K f scope body names dv := by
  obtain ⟨o, fd, e1, e2, e3, e4, e5, e6, e7, e8, _, _, e11⟩ := h.ex
  exact ⟨o, fd, e1, e2, e3, e4, e5, e6, e7, e8, e11⟩

noncomputable def theLib {P : Params} (KX : Frag.In (fragQ P) h₁) (KX' : Frag.In (fragQ P) (ghostOf h₁ tabsL)) (hbm : ∃ bm ob, mg "__builtins__" = some (.ref bm) ∧ bm ≠ builtinsNs ∧ h₁.get? bm = some ob ∧ ob.cls = .type "module" ∧ ob.dict = some builtinsNs ∧ ob.data = .plain)
    (hbt : ∀ x : Str, x ≠ "__name__" → mb x = bootBuiltins x) : Lib (theCx w h₁ mg mb hT hg hb hn) where
  f2 := 21
  f4 := 35
  f5 := 42
  f6 := 49
  f7 := 56
  fR := 65
  fL := 74
  f12 := 81
  f13 := 88
  f14 := 95
  f16 := 100
  f17 := 105
  f18 := 110
  c4 := 34
  T4 := 30
  c5 := 41
  T5 := 37
  tD := 189
  tR := 271
  tL := 285
  g2 := .inl (mg_of KX hg (by kernel_rfl))
  g4 := .inl (mg_of KX hg (by kernel_rfl))
  g5 := .inl (mg_of KX hg (by kernel_rfl))
  g6 := .inl (mg_of KX hg (by kernel_rfl))
  g7 := .inl (mg_of KX hg (by kernel_rfl))
  gR := .inl (mg_of KX hg (by kernel_rfl))
  gL := .inl (mg_of KX hg (by kernel_rfl))
  g12 := .inl (mg_of KX hg (by kernel_rfl))
  g13 := .inl (mg_of KX hg (by kernel_rfl))
  g14 := .inl (mg_of KX hg (by kernel_rfl))
  g16 := .inl (mg_of KX hg (by kernel_rfl))
  g17 := .inl (mg_of KX hg (by kernel_rfl))
  g18 := .inl (mg_of KX hg (by kernel_rfl))
  gLim := .inl (mg_of KX hg (by kernel_rfl))
  gdm := .inr ⟨mg_none_of KX hg (by kernel_rfl), (hbt _ (by decide)).trans (by kernel_rfl)⟩
  glen := .inr ⟨mg_none_of KX hg (by kernel_rfl), (hbt _ (by decide)).trans (by kernel_rfl)⟩
  gsum := .inr ⟨mg_none_of KX hg (by kernel_rfl), (hbt _ (by decide)).trans (by kernel_rfl)⟩
  gmax := .inr ⟨mg_none_of KX hg (by kernel_rfl), (hbt _ (by decide)).trans (by kernel_rfl)⟩
  grange := .inr ⟨mg_none_of KX hg (by kernel_rfl), (hbt _ (by decide)).trans (by kernel_rfl)⟩
  genum := .inr ⟨mg_none_of KX hg (by kernel_rfl), (hbt _ (by decide)).trans (by kernel_rfl)⟩
  grev := .inr ⟨mg_none_of KX hg (by kernel_rfl), (hbt _ (by decide)).trans (by kernel_rfl)⟩
  o2 := (fnObj_in KX' (in2 P)).plain
  o4 := fnObj_in KX' (in4 P)
  o5 := fnObj_in KX' (in5 P)
  o6 := (fnObj_in KX' (in6 P)).plain
  o7 := (fnObj_in KX' (in7 P)).plain
  oR := (fnObj_in KX' (in9 P)).plain
  oL := (fnObj_in KX' (in10 P)).plain
  o12 := (fnObj_in KX' (in12 P)).plain
  o13 := (fnObj_in KX' (in13 P)).plain
  o14 := (fnObj_in KX' (in14 P)).plain
  o16 := (fnObj_in KX' (in16 P)).plain
  o17 := (fnObj_in KX' (in17 P)).plain
  o18 := (fnObj_in KX' (in18 P)).plain
  t4 := theCx_tab4 hbm
  t5 := theCx_tab5 hbm
end
end

/-! # part C2 -/
section
open PySem.Sem (wp)
theorem sign_get {i : Int} (h0 : 0 ≤ i) (h2 : i < 2) : ∃ s : Int, signs[i.toNat]? = some (.int s) ∧ (s = 1 ∨ s = -1) := by
  have : i = 0 ∨ i = 1 := by omega
  rcases this with rfl | rfl
  · exact ⟨1, rfl, .inl rfl⟩
  · exact ⟨-1, rfl, .inr rfl⟩

/-- what is known of a number of pairs -/
structure PairOK (p : Nat) : Prop where
  p2 : 2 ≤ p
  p4 : p ≤ 4
  facts : factsB p = true
  due : DueOK p
  s1 : Same (cutL p) (oneL p)
  s2 : Same (cutR p) (oneL p)
  poly : ∀ w, PolyOK p w
theorem pairOK {p : Nat} (h2 : 2 ≤ p) (h4 : p ≤ 4) : PairOK p := by
  have : p = 2 ∨ p = 3 ∨ p = 4 := by omega
  rcases this with rfl | rfl | rfl
  · exact ⟨h2, h4, facts2, dueOK2, sameB_ok same2.1, sameB_ok same2.2, poly2⟩
  · exact ⟨h2, h4, facts3, dueOK3, sameB_ok same3.1, sameB_ok same3.2, poly3⟩
  · exact ⟨h2, h4, facts4, dueOK4, sameB_ok same4.1, sameB_ok same4.2, poly4⟩

section
variable {K : Cx} {n : Nat}

set_option maxHeartbeats 8000000 in
theorem law_body (Lb : Lib K) {N0 : Addr → Prop} {L : Addr} {qual : Str} {f : Addr} {code : Value} {sc : List Int} (hsc : sc.length ≤ 63) :
    Blk K (39 + 1) (fFm (fEnv (scopeA 19) L [] qual f code) N0 no (lρ L { script := .val (.list (sc.map .int)) }) lgl) (bodyA 19) (fun o => o = .ret (.bool true)) := by
  -- the numbers drawn
  generalize htot : 1 + (sc.take 60).sum = tot
  have q3 : 0 ≤ tot.fmod 3 ∧ tot.fmod 3 < 3 := by
    rw [Int.fmod_eq_emod_of_nonneg _ (by decide)]; omega
  have q200 : 0 ≤ (tot.fdiv 3).fmod 200 ∧ (tot.fdiv 3).fmod 200 < 200 := by
    rw [Int.fmod_eq_emod_of_nonneg _ (by decide)]; omega
  have q6 : 0 ≤ (tot.fdiv 6).fmod 2 ∧ (tot.fdiv 6).fmod 2 < 2 := by
    rw [Int.fmod_eq_emod_of_nonneg _ (by decide)]; omega
  have q12 : 0 ≤ (tot.fdiv 12).fmod 2 ∧ (tot.fdiv 12).fmod 2 < 2 := by
    rw [Int.fmod_eq_emod_of_nonneg _ (by decide)]; omega
  obtain ⟨p, hp⟩ : ∃ p : Nat, (p : Int) = 2 + tot.fmod 3 := ⟨(2 + tot.fmod 3).toNat, by omega⟩
  obtain ⟨w, hw⟩ : ∃ w : Nat, (w : Int) = 3 + (tot.fdiv 3).fmod 200 := ⟨(3 + (tot.fdiv 3).fmod 200).toNat, by omega⟩
  obtain ⟨sd, hsd, hsd1⟩ := sign_get q6.1 q6.2
  obtain ⟨od, hod, hod1⟩ := sign_get q12.1 q12.2
  have hP := pairOK (p := p) (by omega) (by omega)
  have hw3 : 3 ≤ w := by omega
  have hw2 : w ≤ 202 := by omega
  clear q3 q200 q6 q12
  obtain ⟨wh, hN⟩ := nums hP.p2 hP.p4 hw3 hw2 hP.due (hP.poly w) hsd1 hod1
  have hF := hP.facts
  unfold factsB at hF
  simp only [Bool.and_eq_true, List.all_eq_true, decide_eq_true_eq, List.mem_range] at hF
  obtain ⟨⟨⟨⟨⟨⟨f1, f2⟩, f3⟩, f4⟩, f5⟩, f6⟩, f7⟩ := hF
  have hrow : ∀ row ∈ rowsP p, RowOK row := fun row hr => rowOK_of (f7 row hr)
  have hp2 := hP.p2
  have hp4 := hP.p4
  have hsz : ∀ x ∈ dueP p, x + 1 ≤ 2 ^ w := fun x hx => by
    have := hP.due.le x hx
    have : 8 ≤ 2 ^ w := Nat.le_trans (by decide : 8 ≤ 2 ^ 3) (Nat.pow_le_pow_right (by decide) hw3)
    omega
  show Blk K (39 + 1) (lF _ _ N0 L qual f code { script := .val (.list (sc.map .int)) }) lawB okP
  apply law_A Lb hsc htot.symm hp hw (fun i hi => f1 i (by omega)) hp4
  apply law_B1 Lb (m := 5) (by omega) f2 f3 (fun row hr => ?_)
  rotate_left
  · apply ans_of (n := 0) Lb
    exact hrow row hr
  apply law_B2 Lb (m := 5) (by omega) f3 (fun row hr => ?_) hP.s1
  rotate_left
  · apply turn_of (n := 0) Lb
    exact hrow row hr
  apply law_B3 Lb (m := 0) f3 hP.s2
  apply law_C Lb (fun a q => .inl q) hp4 f3 f4
  intro W N mE1 fE1
  apply law_D1 Lb hsd hod
  apply law_D2 Lb hp2 hp4 (by omega) (by omega) okRet
  apply law_D3 Lb hp2 hp4 (by omega) (by omega) (by omega) hN.d1 hN.r0 hN.hwh hN.d2 hsd1 hod1
  apply law_E1 Lb hp4 f5 f6
  apply law_E2 Lb (by omega) (by omega) hsz (by rw [hP.due.len]; omega)
  apply law_E3 Lb hp4 (by omega) (by omega) (by omega) hod1 hN.hv hN.cnt hN.len hN.lt hN.top hN.dig rfl hN.ro hN.pw
  exact hN.fin

theorem law_spec (Lb : Lib K) {f : Addr} {sc : List Int} (hsc : sc.length ≤ 63) (ho : FnObj K f (scopeA 19) (bodyA 19) ["script"] []) : FnSpec K 41 (.ref f) [.list (sc.map .int)] (.bool true) := by
  apply fn_spec (n := 39 + 1) (ds := [.list (sc.map .int)]) (sh := ⟨["script", "total", "k", "turned", "led", "place", "behind", "met", "first", "ring", "step", "above", "below", "side", "other", "whole", "rest", "power", "rounds", "left"], [("told", 0), ("pairs", 1), ("wide", 2), ("menu", 3), ("pieces", 4), ("rows", 5), ("rings", 6), ("due", 7)], []⟩) (gl := lgl) (dd := []) (ρ0 := fun L => lρ L { script := .val (.list (sc.map .int)) }) ho (fun N h => .nil) rfl rfl rfl (by decide +kernel) rfl
  · intro L
    exact .cons (.here nofun) .nil
  · intro N0 L qual code
    apply law_body Lb
    exact hsc
end
end

/-! # part C3 -/
section
open PySem.Sem (wp)
theorem items_ints {xs : List WData} (h : WShape.hasItems [] xs .int = true) : ∃ ns : List Int, xs = ns.map .int := by
  induction xs with
  | nil => exact ⟨[], rfl⟩
  | cons x r ih =>
    have h' : WShape.has [] x .int = true ∧ WShape.hasItems [] r .int = true := by simpa [WShape.hasItems] using h
    obtain ⟨i, rfl⟩ := hasW_int h'.1
    obtain ⟨ns, rfl⟩ := ih h'.2
    exact ⟨i :: ns, rfl⟩
theorem pre_args {args : List WData} (h : PySem.Challenge.rw_rs0165_01.row.toRowW.claim.pre args = true) : ∃ ns : List Int, args = [.list (ns.map .int)] ∧ ns.length ≤ 63 := by
  obtain ⟨h1, h2⟩ := pre_splitW h
  have h1' : WShape.hasAll [] args [.list .int] = true := h1
  obtain ⟨d, r, rfl, h3, h4⟩ := hasAllW_cons h1'
  have h5 := hasAllW_nil h4
  subst h5
  obtain ⟨xs, rfl, h6⟩ := hasW_list h3
  obtain ⟨ns, rfl⟩ := items_ints h6
  refine ⟨ns, rfl, ?_⟩
  have h7 : WTm.holds [] (OpenLaw.pre PySem.Challenge.rw_rs0165_01) { args := [.list (ns.map .int)] } = true := h2
  by_cases hl : ns.length ≤ 63
  · exact hl
  · exfalso
    have e : (63 : Int) < ((ns.map WData.int).length : Nat) := by rw [List.length_map]; omega
    revert h7
    show ¬ (WTm.holds [] (.and (.not (.lt (.lit (.int 63)) (.len (.arg 0)))) (.lit (.bool true))) { args := [.list (ns.map .int)] } = true)
    have e2 : less? (WData.int 63) (WData.int ((ns.length : Nat) : Int)) = some true := by
      show some (decide ((63 : Int) < ((ns.length : Nat) : Int))) = some true
      rw [decide_eq_true (by omega)]
    simp [WTm.holds, WTm.value, e2]
theorem well_ints {P : Params} {h : Heap} {N : Addr → Prop} : ∀ {ns : List Int} {vs : List Value}, WellAll P h vs (ns.map .int) → Reps N h (ns.map .int) vs
  | [], _, .nil => .nil
  | n :: ns, _, .cons a b => by
    cases a
    exact .cons (.int _ _) (well_ints b)

theorem tabKeeps {h : Heap} {T : Addr} {pos : Pos} {qual : Str} (x : TabSt h T pos qual) : ∃ ps, h.get? T = some (tabObj ps) := let ⟨ps, e, _⟩ := x; ⟨ps, e⟩

noncomputable def lawD : DefRec := { name := Str.ofString "law", params := parB 19, body := bodyB 19, scope := scopeB 19, pos := ⟨181, 0, 221, 92⟩ }

set_option maxHeartbeats 8000000 in
theorem theHead (call : WalkO viewQ [Str.ofString "bisect_right", Str.ofString "bisect_left"] (XL viewQ []) (Hook.says hookQ) PySem.Challenge.rw_rs0165_01.row.toRowW lawD [] fun f vs => PySem.call f vs) : PySem.Challenge.rw_rs0165_01.Holds := by
  w_on
  o_law
  refine holds_open (q := viewQ) (loose := [Str.ofString "bisect_right", Str.ofString "bisect_left"]) (Xt := fun s => xlAt viewQ [] s && recOk (RowW.records PySem.Challenge.rw_rs0165_01.row.toRowW) s) (XP := XL viewQ []) (Yf := Hook.obs hookQ) (Ya := Hook.val hookQ) (YP := Hook.says hookQ) (N := 1204) (d := lawD) (kwd := []) ?hl (Hook.of hookQ) (Hook.keeps hookQ)
    (fun s e => xl_of s (Bool.and_eq_true_iff.mp e).1) XL.keeps (by kernel_rfl) (by kernel_rfl) (by kernel_rfl) (fun s e => recFacts_of (Bool.and_eq_true_iff.mp e).2) (by rfl) (by first | assumption | decide +kernel) (by decide +kernel) ⟨rfl, rfl, rfl, rfl, rfl, by decide +kernel⟩ ?hw call
  case hw => w_witness2
  case hl =>
    intro w
    kernel_rfl

set_option maxHeartbeats 4000000 in
theorem theWalk : WalkO viewQ [Str.ofString "bisect_right", Str.ofString "bisect_left"] (XL viewQ []) (Hook.says hookQ) PySem.Challenge.rw_rs0165_01.row.toRowW lawD [] fun f vs => PySem.call f vs := by
  intro w s₀ s₁ mg mb G Y a o pm cd doc dV kV ho hd' hcd hD hmg hgens args vals as hpre hlay hrd hwl hlo
  have KX : Frag.In (fragQ w.params) s₁.heap := Y.1
  have h8 : ∀ P ∈ ([37, 30] : List Addr), s₁.heap.get? P = some (tabObj #[]) := Y.2
  have hT := tabsAt_of KX h8
  have KX' : Frag.In (fragQ w.params) (ghostOf s₁.heap tabsL) := ghost_K hT KX (by kernel_rfl)
  have e115 : mg "law" = some (.ref 115) := mg_of KX G.T.g (by kernel_rfl)
  have hfa : a = 115 := by
    have h1 : mg "law" = some (.ref a) := hmg
    rw [e115] at h1
    injection h1 with h1
    injection h1 with h1
    exact h1.symm
  subst hfa
  obtain ⟨ns, rfl, hlen⟩ := pre_args hpre
  -- the script
  cases hwl with
  | cons hw1 hw2 =>
  cases hw2
  cases hw1 with
  | list hl hwi =>
  rename_i l vs
  -- the ground
  have Lb := theLib (w := w) (hT := hT) (hg := G.T.g) (hb := G.T.b) (hn := G.T.nolimit) KX KX' G.T.bmain G.T.builtins
  have hob := (fnObj_in (w := w) (mb := mb) (hT := hT) (hg := G.T.g) (hb := G.T.b) (hn := G.T.nolimit) KX' (in19 w.params)).plain
  generalize hK : theCx w s₁.heap mg mb hT G.T.g G.T.b G.T.nolimit = K at Lb hob
  have hKg : K.g0 = ghostOf s₁.heap tabsL := by rw [← hK]; rfl
  have hKT : ∀ b, K.Tb b ↔ (b = 30 ∨ b = 37) := by intro b; rw [← hK]; exact Iff.rfl
  have hKt : ∀ h, K.tab h ↔ (TabSt h 30 pos4 q4 ∧ TabSt h 37 pos5 q5) := by intro h; rw [← hK]; exact Iff.rfl
  have hKM : K.M = model PySem.Challenge.rw_rs0165_01.row.prog w := by rw [← hK]; rfl
  have i1 : Inv K s₁ := by
    refine ⟨fun b o e => ?_, ?_, ?_, ?_⟩
    · rw [hKg] at e; exact of_hideAll _ e
    · rw [hKg, hideAll_size]; exact Nat.le_refl _
    · rw [hgens]; exact AllBare.empty
    · rw [hKt]
      exact ⟨⟨#[], h8 30 (.tail _ (.head _)), .inl rfl⟩, ⟨#[], h8 37 (.head _), .inl rfl⟩⟩
  have fin : FnIn K (fun b => K.Tb b) no s₁ := by
    refine ⟨i1, fun b q => q, fun b q => ?_, fun _ q => q.elim, fun _ q => q.elim⟩
    rcases (hKT b).mp q with rfl | rfl
    · exact Heap.lt_size (h8 30 (.tail _ (.head _)))
    · exact Heap.lt_size (h8 37 (.head _))
  have hlT : ¬ K.Tb l := fun q => by
    rcases (hKT l).mp q with rfl | rfl
    · rw [h8 30 (.tail _ (.head _))] at hl
      cases hl
    · rw [h8 37 (.head _)] at hl
      cases hl
  have hrep : Reps (fun b => K.Tb b) s₁.heap [.list (ns.map .int)] [.ref l] := .cons (.list hlT ⟨0, hl⟩ (well_ints hwi)) .nil
  have room : Room callerA 41 := ⟨rfl, by decide +kernel, by decide +kernel⟩
  show wpAny (model PySem.Challenge.rw_rs0165_01.row.prog w) callerA (PySem.call (.ref 115) [.ref l]) _ _ s₁
  rw [← hKM]
  refine law_spec Lb hlen hob room fin hrep fun v s' x r => ?_
  cases r
  have i2 := x.inv i1
  obtain ⟨t30, t37⟩ := (hKt _).mp i2.tab
  refine ⟨.inl ⟨.bool true, .bool true, [], rfl, fun _ => rfl, .bool true, by kernel_rfl, fun _ => ⟨.nil, fun _ q => nomatch q⟩⟩, ⟨fun b o e => ?_, fun b o e => ?_⟩, x.os, i2.bare⟩
  · by_cases h30 : b = 30
    · subst h30
      obtain ⟨ps, e2⟩ := tabKeeps t30
      rw [h8 30 (.tail _ (.head _))] at e
      cases e
      exact .inr (.inl ⟨((hT (34, 30) (.head _)).1.tab (hT (34, 30) (.head _)).2).isCodeTable, rfl, #[], ps, rfl, by rw [Array.empty_append]; exact e2⟩)
    · by_cases h37 : b = 37
      · subst h37
        obtain ⟨ps, e2⟩ := tabKeeps t37
        rw [h8 37 (.head _)] at e
        cases e
        exact .inr (.inl ⟨((hT (41, 37) (.tail _ (.head _))).1.tab (hT (41, 37) (.tail _ (.head _))).2).isCodeTable, rfl, #[], ps, rfl, by rw [Array.empty_append]; exact e2⟩)
      · exact .inl (x.heap b o (fun q => q) (fun q => ((hKT b).mp q).elim h30 h37) e)
  · by_cases h30 : b = 30
    · subst h30
      obtain ⟨ps, e2⟩ := tabKeeps t30
      exact ⟨_, e2⟩
    · by_cases h37 : b = 37
      · subst h37
        obtain ⟨ps, e2⟩ := tabKeeps t37
        exact ⟨_, e2⟩
      · exact ⟨o, x.heap b o (fun q => q) (fun q => ((hKT b).mp q).elim h30 h37) e⟩
theorem the_law : PySem.Challenge.rw_rs0165_01.Holds := theHead theWalk
end

end Mine

theorem PySem.Challenge.cw_rs0165_01_holds : PySem.Challenge.rw_rs0165_01.Holds :=
  Mine.the_law
