import PyProof.Rows.All
import Wide.All
import OpenK.AllK
import Wide.FinOn
import KE.KWords
import PyProof.StrLawsReplace
import Lean
import PySem.Challenge.RW_lo0003_02
open PySem PySem.W PyProof.Rows PyProof
set_option Elab.async false
set_option maxRecDepth 100000
namespace Mine
noncomputable abbrev G := Addr → Option Obj
noncomputable def G.In (g : G) (h : Heap) : Prop := ∀ b o, g b = some o → h.get? b = some o
noncomputable def Keep (h h' : Heap) : Prop := ∀ b o, h.get? b = some o → h'.get? b = some o
noncomputable def Le (g g' : G) : Prop := ∀ b o, g b = some o → g' b = some o
theorem Keep.refl (h : Heap) : Keep h h := fun _ _ e => e
theorem Keep.trans {a b c : Heap} (x : Keep a b) (y : Keep b c) : Keep a c := fun p o e => y p o (x p o e)
theorem Keep.push (h : Heap) (o : Obj) : Keep h (h.push o) := fun _ _ e => Heap.get?_push_of_some o e
theorem Keep.extBut {h h' : Heap} (x : Heap.ExtBut h.objs.size h h') : Keep h h' := fun b o e => x b o (Nat.ne_of_lt (Heap.lt_size e)) e
theorem Le.refl (g : G) : Le g g := fun _ _ e => e
theorem Le.trans {a b c : G} (x : Le a b) (y : Le b c) : Le a c := fun p o e => y p o (x p o e)
theorem G.In.keep {g : G} {h h' : Heap} (x : g.In h) (y : Keep h h') : g.In h' := fun b o e => y b o (x b o e)
noncomputable def G.add (g : G) (a : Addr) (o : Obj) : G := fun b => if b = a then some o else g b
theorem G.add_self (g : G) (a : Addr) (o : Obj) : g.add a o a = some o := by simp [G.add]
theorem G.add_ne {g : G} {a b : Addr} {o : Obj} (h : b ≠ a) : g.add a o b = g b := by simp [G.add, h]
theorem G.In.add {g : G} {h : Heap} {a : Addr} {o : Obj} (x : g.In h) (y : h.get? a = some o) : (g.add a o).In h := by
  intro b p e
  by_cases hb : b = a
  · subst hb; rw [G.add_self] at e; cases e; exact y
  · rw [G.add_ne hb] at e; exact x b p e
theorem Le.add {g : G} {a : Addr} {o : Obj} (h : g a = none) : Le g (g.add a o) := by
  intro b p e
  by_cases hb : b = a
  · subst hb; rw [h] at e; cases e
  · rw [G.add_ne hb]; exact e
theorem G.In.none_size {g : G} {h : Heap} (x : g.In h) : g h.objs.size = none := by
  cases e : g h.objs.size with
  | none => rfl
  | some o => exact absurd (Heap.lt_size (x _ _ e)) (Nat.lt_irrefl _)
noncomputable def G.or (g g' : G) : G := fun b => match g b with | some o => some o | none => g' b
theorem Le.or_left (g g' : G) : Le g (g.or g') := fun b o e => by simp [G.or, e]
theorem Le.or_right {g g' : G} {h : Heap} (x : g.In h) (y : g'.In h) : Le g' (g.or g') := fun b o e => by
  unfold G.or
  cases q : g b with
  | none => exact e
  | some p => have := x _ _ q; rw [y _ _ e] at this; exact this.symm
theorem G.In.or {g g' : G} {h : Heap} (x : g.In h) (y : g'.In h) : (g.or g').In h := fun b o e => by
  unfold G.or at e
  cases q : g b with
  | none => rw [q] at e; exact y _ _ e
  | some p => rw [q] at e; cases e; exact x _ _ q
theorem G.or_none {g g' : G} {b : Addr} (x : g b = none) (y : g' b = none) : (g.or g') b = none := by simp [G.or, x, y]
/-- plain data -/
inductive D where
  | none
  | bool (b : Bool)
  | int (i : Int)
  | str (x : Str)
  | list (ds : List D)
  | tup (ds : List D)
  | raw (v : Value)
noncomputable def D.strs (xs : List Str) : D := .list (xs.map .str)
noncomputable def D.ints (xs : List Int) : D := .list (xs.map .int)
mutual
inductive Rep (g : G) : Value → D → Prop where
  | none : Rep g .none .none
  | bool (b : Bool) : Rep g (.bool b) (.bool b)
  | int (i : Int) (t : Tok) : Rep g (.int i t) (.int i)
  | str (x : Str) (t : Tok) : Rep g (.str x t) (.str x)
  | list {a : Addr} {o : Obj} {vs : List Value} {n : Nat} {ds : List D} : g a = some o → o.cls = .type "list" → o.data = .seq vs.toArray n → Reps g vs ds → Rep g (.ref a) (.list ds)
  | tup {a : Addr} {o : Obj} {vs : List Value} {n : Nat} {ds : List D} : g a = some o → o.cls = .type "tuple" → o.data = .seq vs.toArray n → Reps g vs ds → Rep g (.ref a) (.tup ds)
  | raw (v : Value) : Rep g v (.raw v)
inductive Reps (g : G) : List Value → List D → Prop where
  | nil : Reps g [] []
  | cons {v : Value} {d : D} {vs : List Value} {ds : List D} : Rep g v d → Reps g vs ds → Reps g (v :: vs) (d :: ds)
end
mutual
theorem Rep.mono {g g' : G} (hl : Le g g') : ∀ {v : Value} {d : D}, Rep g v d → Rep g' v d
  | _, _, .none => .none
  | _, _, .bool b => .bool b
  | _, _, .int i t => .int i t
  | _, _, .str x t => .str x t
  | _, _, .list h1 h2 h3 h4 => .list (hl _ _ h1) h2 h3 (Reps.mono hl h4)
  | _, _, .tup h1 h2 h3 h4 => .tup (hl _ _ h1) h2 h3 (Reps.mono hl h4)
  | _, _, .raw v => .raw v
theorem Reps.mono {g g' : G} (hl : Le g g') : ∀ {vs : List Value} {ds : List D}, Reps g vs ds → Reps g' vs ds
  | _, _, .nil => .nil
  | _, _, .cons h1 h2 => .cons (h1.mono hl) (Reps.mono hl h2)
end
theorem Reps.length {g : G} : ∀ {vs : List Value} {ds : List D}, Reps g vs ds → vs.length = ds.length
  | _, _, .nil => rfl
  | _, _, .cons _ h2 => by simp [Reps.length h2]
theorem Reps.get {g : G} : ∀ {vs : List Value} {ds : List D}, Reps g vs ds → ∀ {i : Nat} {d : D}, ds[i]? = some d → ∃ v, vs[i]? = some v ∧ Rep g v d
  | _, _, .cons h1 _, 0, d, e => by simp at e; subst e; exact ⟨_, by simp, h1⟩
  | _, _, .cons _ h2, i + 1, d, e => by simpa using Reps.get h2 (i := i) (by simpa using e)
  | _, _, .nil, _, _, e => by simp at e
theorem Reps.append {g : G} : ∀ {vs us : List Value} {ds es : List D}, Reps g vs ds → Reps g us es → Reps g (vs ++ us) (ds ++ es)
  | _, _, _, _, .nil, h => h
  | _, _, _, _, .cons h1 h2, h => .cons h1 (h2.append h)
theorem Reps.drop {g : G} : ∀ {vs : List Value} {ds : List D}, Reps g vs ds → ∀ n, Reps g (vs.drop n) (ds.drop n)
  | _, _, h, 0 => by simpa using h
  | _, _, .cons _ h2, n + 1 => by simpa using h2.drop n
  | _, _, .nil, n + 1 => by simpa using Reps.nil
theorem Reps.take {g : G} : ∀ {vs : List Value} {ds : List D}, Reps g vs ds → ∀ n, Reps g (vs.take n) (ds.take n)
  | _, _, _, 0 => by simpa using Reps.nil
  | _, _, .cons h1 h2, n + 1 => by simpa using Reps.cons h1 (h2.take n)
  | _, _, .nil, n + 1 => by simpa using Reps.nil
/-- what a local name holds -/
inductive AV where
  | un
  | val (d : D)
  | own (ds : List D)
  | it (a : Addr) (ds : List D)
noncomputable abbrev Sig := List (Str × AV)
inductive Loc : Sig → Str → AV → Prop where
  | head {x v r} : Loc ((x, v) :: r) x v
  | tail {x v p r} : Loc r x v → Loc (p :: r) x v
inductive Upd : Sig → Str → AV → Sig → Prop where
  | head {x v u r} : Upd ((x, u) :: r) x v ((x, v) :: r)
  | tail {x v p r r'} : Upd r x v r' → Upd (p :: r) x v (p :: r')
theorem Loc.mem {σ : Sig} {x : Str} {v : AV} (h : Loc σ x v) : (x, v) ∈ σ := by
  induction h with
  | head => exact .head _
  | tail _ ih => exact .tail _ ih
theorem Upd.keys {σ σ' : Sig} {x : Str} {v : AV} (h : Upd σ x v σ') : σ'.map (·.1) = σ.map (·.1) := by
  induction h with
  | head => rfl
  | tail _ ih => simp [ih]
theorem Upd.key_mem {σ σ' : Sig} {x : Str} {v : AV} (h : Upd σ x v σ') : x ∈ σ.map (·.1) := by
  induction h with
  | head => simp
  | tail _ ih => simp only [List.map_cons, List.mem_cons]; exact .inr ih
theorem Upd.mem {σ σ' : Sig} {x : Str} {v : AV} (h : Upd σ x v σ') (nd : (σ.map (·.1)).Nodup) : ∀ {y u}, (y, u) ∈ σ' → (y = x ∧ u = v) ∨ (y ≠ x ∧ (y, u) ∈ σ) := by
  induction h with
  | head =>
    intro y w hm
    rw [List.map_cons, List.nodup_cons] at nd
    rcases List.mem_cons.mp hm with e | hm
    · cases e; exact .inl ⟨rfl, rfl⟩
    · exact .inr ⟨fun e => nd.1 (e ▸ List.mem_map_of_mem (f := (·.1)) hm), .tail _ hm⟩
  | @tail x' v' p r r' hu ih =>
    intro y w hm
    rw [List.map_cons, List.nodup_cons] at nd
    rcases List.mem_cons.mp hm with e | hm
    · refine .inr ⟨fun q => nd.1 ?_, e ▸ .head _⟩
      rw [← e]; rw [show (y, w).1 = x' from q]; exact hu.key_mem
    · exact (ih nd.2 hm).imp id fun ⟨a, b⟩ => ⟨a, .tail _ b⟩
structure Cfg where
  prog : Program
  w : World
  A : Around
  h₁ : Heap
  mg : Str → Option Value
  mb : Str → Option Value
  env : Env
  fp : List Addr
noncomputable abbrev Cfg.M (c : Cfg) : Model := model c.prog c.w
structure Stat (h₁ : Heap) (mg mb : Str → Option Value) : Prop where
  g : h₁.Ns mainGlobals mg
  b : h₁.Ns builtinsNs mb
  nolimit : h₁.NoLimit
  nodigits : ∃ mc, h₁.Ns cStatics mc ∧ mc "sys.int_max_str_digits" = none
  bi : ∀ x : Str, x ≠ "__name__" → mb x = bootBuiltins x
/-- what expressions want of a frame -/
structure Cfg.Ev (c : Cfg) : Prop where
  st : Stat c.h₁ c.mg c.mb
  hk : c.env.scope.kind = .function
  hg : c.env.globals = mainGlobals
  hb : c.env.builtins = builtinsNs
  hh : c.A.handled = none
  un : c.A.units + 64 < cLine
  dp : c.A.depth < recursionLimit
/-- what statements want -/
structure Cfg.Ok (c : Cfg) : Prop extends c.Ev where
  Lfp : c.env.locals ∈ c.fp
  full : ∀ x p, c.env.cells.lookup x = some p → p ∈ c.fp
  apart : ∀ x y p, c.env.cells.lookup x = some p → c.env.cells.lookup y = some p → x = y
  offL : ∀ x p, c.env.cells.lookup x = some p → p ≠ c.env.locals
noncomputable def listObj (vs : List Value) (n : Nat) : Obj := ⟨.type "list", none, .seq vs.toArray n, #[]⟩
/-- a list iterator, over a list of the immutable part -/
noncomputable def ItAt (g : G) (h : Heap) (a : Addr) (ds : List D) : Prop :=
  ∃ (l : Addr) (i : Nat) (o : Obj) (vs : List Value) (n : Nat), h.IsListIter a l i ∧ g l = some o ∧ o.cls = .type "list" ∧ o.data = .seq vs.toArray n ∧ i ≤ vs.length ∧ vs.length ≤ 16777216 ∧ Reps g (vs.drop i) ds
theorem ItAt.mono {g g' : G} {h : Heap} {a : Addr} {ds : List D} (x : ItAt g h a ds) (hl : Le g g') : ItAt g' h a ds := by
  obtain ⟨l, i, o, vs, n, h1, h2, h3, h4, h5, h6, h7⟩ := x; exact ⟨l, i, o, vs, n, h1, hl _ _ h2, h3, h4, h5, h6, h7.mono hl⟩
theorem ItAt.at' {g : G} {h h' : Heap} {a : Addr} {ds : List D} (x : ItAt g h a ds) (e : ∀ o, h.get? a = some o → h'.get? a = some o) : ItAt g h' a ds := by
  obtain ⟨l, i, o, vs, n, ⟨p, h1, h2⟩, r⟩ := x; exact ⟨l, i, o, vs, n, ⟨p, e _ h1, h2⟩, r⟩
theorem ItAt.live {g : G} {h : Heap} {a : Addr} {ds : List D} (x : ItAt g h a ds) : h.get? a ≠ none := by
  obtain ⟨l, i, o, vs, n, ⟨p, h1, h2⟩, r⟩ := x; rw [h1]; exact fun e => nomatch e
noncomputable def Holds (k g : G) (fp : List Addr) (m : Str → Option Value) (h : Heap) (x : Str) : AV → Prop
  | .un => True
  | .val d => ∃ u, m x = some u ∧ Rep g u d
  | .own ds => ∃ (a : Addr) (vs : List Value) (n : Nat), m x = some (.ref a) ∧ h.get? a = some (listObj vs n) ∧ Reps g vs ds ∧ k a = none ∧ g a = none ∧ a ∉ fp
  | .it a ds => m x = some (.ref a) ∧ ItAt g h a ds ∧ k a = none ∧ g a = none ∧ a ∉ fp
noncomputable def AV.free : AV → Bool
  | .own _ | .it _ _ => true
  | _ => false
/-- where the names of a frame are kept -/
structure FrameAt (env : Env) (m : Str → Option Value) (h : Heap) : Prop where
  ns : ∃ m₀, h.Ns env.locals m₀ ∧ ∀ x, env.kindOf x = some .local → m₀ x = m x
  cl : ∀ x p, env.kindOf x = some .cell → env.cells.lookup x = some p → h.IsCell p (m x)
theorem FrameAt.keep {env : Env} {m : Str → Option Value} {h h' : Heap} (x : FrameAt env m h) (k : Keep h h') : FrameAt env m h' :=
  ⟨let ⟨m₀, a, b⟩ := x.ns; ⟨m₀, a.keeps k, b⟩, fun y p h1 h2 => (x.cl y p h1 h2).keeps k⟩
structure W (c : Cfg) (k : G) (N : Addr → Prop) (g : G) (m : Str → Option Value) (σ : Sig) (h : Heap) : Prop where
  base : ∀ b o, c.h₁.get? b = some o → k b = some o
  kin : k.In h
  gin : g.In h
  fpk : ∀ p ∈ c.fp, k p = none ∧ g p = none
  fpl : ∀ p ∈ c.fp, h.get? p ≠ none
  nN : ∀ b, N b → k b ≠ none ∧ g b = none
  fr : FrameAt c.env m h
  cel : ∀ x p, c.env.cells.lookup x = some p → p ∈ c.fp ∨ k p ≠ none
  Lfp : c.env.locals ∈ c.fp
  nod : (σ.map (·.1)).Nodup
  lcl : ∀ x ∈ σ.map (·.1), (c.env.kindOf x = some .local ∨ (c.env.kindOf x = some .cell ∧ ∃ p, c.env.cells.lookup x = some p)) ∧ (x == ("__debug__" : Str)) = false
  loc : ∀ x v, (x, v) ∈ σ → Holds k g c.fp m h x v
  sep : ∀ x u y v a, (x, u) ∈ σ → (y, v) ∈ σ → u.free = true → v.free = true → m x = some (.ref a) → m y = some (.ref a) → x = y
theorem Holds.keep {k g : G} {fp : List Addr} {m : Str → Option Value} {h h' : Heap} {x : Str} {v : AV} (hv : Holds k g fp m h x v) (hk : Keep h h') : Holds k g fp m h' x v := by
  cases v with
  | un => trivial
  | val d => exact hv
  | own ds => obtain ⟨a, vs, n, h1, h2, r⟩ := hv; exact ⟨a, vs, n, h1, hk _ _ h2, r⟩
  | it a ds => obtain ⟨h1, h2, r⟩ := hv; exact ⟨h1, h2.at' fun o e => hk _ _ e, r⟩
theorem Keep.live {h h' : Heap} (k : Keep h h') {p : Addr} (x : h.get? p ≠ none) : h'.get? p ≠ none := by
  obtain ⟨o, e⟩ := Option.ne_none_iff_exists'.mp x
  rw [k _ _ e]; exact fun e => nomatch e
theorem W.keep {c : Cfg} {k g : G} {N : Addr → Prop} {m : Str → Option Value} {σ : Sig} {h h' : Heap} (w : W c k N g m σ h) (hk : Keep h h') : W c k N g m σ h' :=
  { w with kin := w.kin.keep hk, gin := w.gin.keep hk, fr := w.fr.keep hk, fpl := fun p hp => hk.live (w.fpl p hp), loc := fun x v hm => (w.loc x v hm).keep hk }
theorem Holds.ext {k g g' : G} {fp : List Addr} {m : Str → Option Value} {h : Heap} {x : Str} {v : AV} (hv : Holds k g fp m h x v) (hl : Le g g')
    (ha : ∀ a, m x = some (.ref a) → v.free = true → g a = none → k a = none → h.get? a ≠ none → a ∉ fp → g' a = none) : Holds k g' fp m h x v := by
  cases v with
  | un => trivial
  | val d => obtain ⟨u, h1, h2⟩ := hv; exact ⟨u, h1, h2.mono hl⟩
  | own ds =>
    obtain ⟨a, vs, n, h1, h2, h3, h4, h5, h6⟩ := hv
    exact ⟨a, vs, n, h1, h2, h3.mono hl, h4, ha a h1 rfl h5 h4 (by rw [h2]; exact fun e => nomatch e) h6, h6⟩
  | it a ds =>
    obtain ⟨h1, h2, h3, h4, h5⟩ := hv
    exact ⟨h1, h2.mono hl, h3, ha a h1 rfl h4 h3 h2.live h5, h5⟩
theorem W.grow {c : Cfg} {σ : Sig} {k g g' : G} {N : Addr → Prop} {m : Str → Option Value} {h h' : Heap} (w : W c k N g m σ h) (hk : Keep h h') (hin : g'.In h') (hle : Le g g') (hs : ∀ b, h.get? b ≠ none → g' b = g b) : W c k N g' m σ h' := by
  have w' := w.keep hk
  refine { w' with gin := hin, fpk := fun p hp => ⟨(w.fpk p hp).1, ?_⟩, nN := fun b hb => ⟨(w.nN b hb).1, ?_⟩, loc := fun x v hm => ?_ }
  · rw [hs p (w.fpl p hp)]; exact (w.fpk p hp).2
  · rw [hs]; exact (w.nN b hb).2
    cases q : k b with
    | none => exact absurd q (w.nN b hb).1
    | some p => rw [w.kin _ _ q]; exact fun e => nomatch e
  · have hv := w.loc x v hm
    refine (hv.ext hle fun b _ _ h1 _ h3 _ => ?_).keep hk
    rw [hs b h3]; exact h1
/-- a new object goes into the immutable part -/
theorem W.add {c : Cfg} {k g : G} {N : Addr → Prop} {m : Str → Option Value} {σ : Sig} {h : Heap} (w : W c k N g m σ h) {h' : Heap} {a : Addr} {o : Obj} (hk : Keep h h') (hn : h.get? a = none) (ha : h'.get? a = some o) :
    W c k N (g.add a o) m σ h' ∧ Le g (g.add a o) := by
  have hgn : g a = none := by
    cases e : g a with
    | none => rfl
    | some p => rw [w.gin _ _ e] at hn; cases hn
  have hle : Le g (g.add a o) := Le.add hgn
  exact ⟨w.grow hk ((w.gin.keep hk).add ha) hle fun b hb => G.add_ne fun e => hb (e ▸ hn), hle⟩
/-- an expression: it gives d and changes nothing -/
noncomputable def EV (c : Cfg) (σ : Sig) (e : Expr) (d : D) : Prop :=
  ∀ (k : G) (N : Addr → Prop) (g : G) (m : Str → Option Value) (s : Shared) (Q E : Value → Shared → Prop), W c k N g m σ s.heap →
    (∀ v h' g' tk, Keep s.heap h' → W c k N g' m σ h' → Le g g' → Rep g' v d → Q v { s with heap := h', toks := tk }) →
    wpAny c.M c.A (eval e c.env) Q E s
/-- a test -/
noncomputable def EVB (c : Cfg) (σ : Sig) (e : Expr) (b : Bool) : Prop :=
  ∀ (k : G) (N : Addr → Prop) (g : G) (m : Str → Option Value) (s : Shared) (Q : Bool → Shared → Prop) (E : Value → Shared → Prop), W c k N g m σ s.heap →
    (∀ h' g' tk, Keep s.heap h' → W c k N g' m σ h' → Le g g' → Q b { s with heap := h', toks := tk }) →
    wpAny c.M c.A (isTrue e c.env (eval e c.env)) Q E s
inductive AFlow where
  | next | brk | cont
  | ret (d : D)
inductive Flows (g : G) : Flow → AFlow → Prop where
  | next : Flows g .next .next
  | brk : Flows g .brk .brk
  | cont : Flows g .cont .cont
  | ret {v : Value} {d : D} : Rep g v d → Flows g (.ret v) (.ret d)
noncomputable def Fin (c : Cfg) (k : G) (N : Addr → Prop) (Φ : AFlow → Sig → Prop) (s : Shared) (f : Flow) (s' : Shared) : Prop :=
  ∃ h' tk g' m' σ' af, s' = { s with heap := h', toks := tk } ∧ W c k N g' m' σ' h' ∧ Flows g' f af ∧ Φ af σ'
/-- statements -/
noncomputable def SX (c : Cfg) (E : Value → Shared → Prop) (σ : Sig) (ss : List Stmt) (Φ : AFlow → Sig → Prop) : Prop :=
  ∀ (k : G) (N : Addr → Prop) (g : G) (m : Str → Option Value) (s : Shared), W c k N g m σ s.heap →
    wpAny c.M c.A (execs ss c.env) (Fin c k N Φ s) E s
noncomputable def seqT (c : Cfg) (E : Value → Shared → Prop) (rest : List Stmt) (Φ : AFlow → Sig → Prop) : AFlow → Sig → Prop
  | .next, σ => SX c E σ rest Φ
  | f, σ => Φ f σ
theorem Fin.trans {c : Cfg} {k : G} {N : Addr → Prop} {Φ : AFlow → Sig → Prop} {s : Shared} {h : Heap} {tk : Nat} {f : Flow} {s' : Shared} (x : Fin c k N Φ { s with heap := h, toks := tk } f s') : Fin c k N Φ s f s' := by
  obtain ⟨h', tk', g', m', σ', af, rfl, r⟩ := x
  exact ⟨h', tk', g', m', σ', af, rfl, r⟩
theorem SX.mono {c : Cfg} {E : Value → Shared → Prop} {σ : Sig} {ss : List Stmt} {Φ Ψ : AFlow → Sig → Prop} (x : SX c E σ ss Φ) (h : ∀ f σ', Φ f σ' → Ψ f σ') : SX c E σ ss Ψ :=
  fun k N g m s w => wpAny_mono (x k N g m s w) (fun _ _ ⟨h', tk, g', m', σ', af, e, w', fl, p⟩ => ⟨h', tk, g', m', σ', af, e, w', fl, h _ _ p⟩) fun _ _ e => e
theorem SX.anyE {c : Cfg} {E : Value → Shared → Prop} {σ : Sig} {ss : List Stmt} {Φ : AFlow → Sig → Prop} (x : SX c (fun _ _ => False) σ ss Φ) : SX c E σ ss Φ :=
  fun k N g m s w => wpAny_mono (x k N g m s w) (fun _ _ e => e) fun _ _ e => e.elim
/-- a step: from the first statement's end to the rest -/
theorem SX.step {c : Cfg} {E : Value → Shared → Prop} {σ : Sig} {st : Stmt} {rest : List Stmt} {Φ : AFlow → Sig → Prop}
    (h : ∀ k N g m s, W c k N g m σ s.heap → wpAny c.M c.A (exec st c.env) (Fin c k N (seqT c E rest Φ) s) E s) : SX c E σ (st :: rest) Φ := by
  intro k N g m s w
  refine wpAny_execs_cons (wpAny_mono (h k N g m s w) (fun f s' hf => ?_) fun _ _ e => e)
  obtain ⟨h', tk, g', m', σ', af, rfl, w', fl, p⟩ := hf
  cases fl with
  | next => exact wpAny_mono (p k N g' m' _ w') (fun _ _ q => q.trans) fun _ _ e => e
  | brk => exact ⟨h', tk, g', m', σ', _, rfl, w', .brk, p⟩
  | cont => exact ⟨h', tk, g', m', σ', _, rfl, w', .cont, p⟩
  | ret hv => exact ⟨h', tk, g', m', σ', _, rfl, w', .ret hv, p⟩
theorem SX.nil {c : Cfg} {E : Value → Shared → Prop} {σ : Sig} {Φ : AFlow → Sig → Prop} (h : Φ .next σ) : SX c E σ [] Φ :=
  fun _ _ g m s w => wpAny_execs_nil ⟨s.heap, s.toks, g, m, σ, .next, rfl, w, .next, h⟩
/-- an expression that moves iterators or changes own lists -/
noncomputable def EX (c : Cfg) (σ : Sig) (e : Expr) (d : D) (σ' : Sig) : Prop :=
  ∀ (k : G) (N : Addr → Prop) (g : G) (m : Str → Option Value) (s : Shared) (Q E : Value → Shared → Prop), W c k N g m σ s.heap →
    (∀ v h' g' tk, W c k N g' m σ' h' → Le g g' → Rep g' v d → Q v { s with heap := h', toks := tk }) →
    wpAny c.M c.A (eval e c.env) Q E s
noncomputable def EXB (c : Cfg) (σ : Sig) (e : Expr) (b : Bool) (σ' : Sig) : Prop :=
  ∀ (k : G) (N : Addr → Prop) (g : G) (m : Str → Option Value) (s : Shared) (Q : Bool → Shared → Prop) (E : Value → Shared → Prop), W c k N g m σ s.heap →
    (∀ h' g' tk, W c k N g' m σ' h' → Le g g' → Q b { s with heap := h', toks := tk }) →
    wpAny c.M c.A (isTrue e c.env (eval e c.env)) Q E s
theorem EV.toEX {c : Cfg} {σ : Sig} {e : Expr} {d : D} (h : EV c σ e d) : EX c σ e d σ := fun k N g m s Q E w q => h k N g m s Q E w fun v h' g' tk _ w' l' r' => q v h' g' tk w' l' r'
theorem EVB.toEXB {c : Cfg} {σ : Sig} {e : Expr} {b : Bool} (h : EVB c σ e b) : EXB c σ e b σ := fun k N g m s Q E w q => h k N g m s Q E w fun h' g' tk _ w' l' => q h' g' tk w' l'
end Mine
namespace Mine
section
variable {c : Cfg} {σ : Sig}
theorem W.name {k g : G} {N : Addr → Prop} {m : Str → Option Value} {h : Heap} {x : Str} {d : D} (w : W c k N g m σ h) (hl : Loc σ x (.val d)) : ∃ u, m x = some u ∧ Rep g u d := w.loc x _ hl.mem
theorem W.kind {k g : G} {N : Addr → Prop} {m : Str → Option Value} {h : Heap} {x : Str} {v : AV} (w : W c k N g m σ h) (hl : Loc σ x v) : c.env.kindOf x = some .local ∨ (c.env.kindOf x = some .cell ∧ ∃ p, c.env.cells.lookup x = some p) :=
  (w.lcl x (List.mem_map_of_mem (f := (·.1)) hl.mem)).1
theorem W.nodebug {k g : G} {N : Addr → Prop} {m : Str → Option Value} {h : Heap} {x : Str} {v : AV} (w : W c k N g m σ h) (hl : Loc σ x v) : (x == ("__debug__" : Str)) = false :=
  (w.lcl x (List.mem_map_of_mem (f := (·.1)) hl.mem)).2
theorem W.load (ok : c.Ev) {k g : G} {N : Addr → Prop} {m : Str → Option Value} {s : Shared} {x : Str} {v : AV} {u : Value} {Q E : Value → Shared → Prop} (w : W c k N g m σ s.heap) (hl : Loc σ x v) (hm : m x = some u) (h : Q u s) : wpAny c.M c.A (loadName c.env x) Q E s := by
  rcases w.kind hl with hk | ⟨hk, p, hp⟩
  · obtain ⟨m₀, h1, h2⟩ := w.fr.ns
    exact wpAny_loadName_local ok.hk hk h1 ((h2 x hk).trans hm) h
  · have h1 := w.fr.cl x p hk hp
    rw [hm] at h1
    exact wpAny_loadName_cell ok.hk hk hp h1 h
theorem EV.const_str {x : Str} {kk : Nat} {pos : Pos} : EV c σ (.Constant (.str x) kk pos) (.str x) :=
  fun _ _ g _ s _ _ w h => Calls.Constant_str (h _ s.heap g _ (Keep.refl _) w (Le.refl _) (.str _ _))
theorem EV.const_int {i : Int} {kk : Nat} {pos : Pos} : EV c σ (.Constant (.int i) kk pos) (.int i) :=
  fun _ _ g _ s _ _ w h => wpAny_Constant_int (h _ s.heap g _ (Keep.refl _) w (Le.refl _) (.int _ _))
theorem EV.const_bool {b : Bool} {kk : Nat} {pos : Pos} : EV c σ (.Constant (.bool b) kk pos) (.bool b) :=
  fun _ _ g _ s _ _ w h => wpAny_pure (h _ s.heap g s.toks (Keep.refl _) w (Le.refl _) (.bool _))
theorem EV.const_none {kk : Nat} {pos : Pos} : EV c σ (.Constant .none kk pos) .none :=
  fun _ _ g _ s _ _ w h => wpAny_pure (h _ s.heap g s.toks (Keep.refl _) w (Le.refl _) .none)
theorem EV.name (ok : c.Ev) {x : Str} {pos : Pos} {d : D} (hl : Loc σ x (.val d)) : EV c σ (.Name x pos) d := by
  intro k N g m s Q E w h
  obtain ⟨u, hu, hr⟩ := w.name hl
  exact wpAny_Name (w.load ok hl hu (h u s.heap g s.toks (Keep.refl _) w (Le.refl _) hr)) (w.nodebug hl)
/-- an operation on two data -/
noncomputable def OP2 (c : Cfg) (t : Value → Value → Sem Value) (d₁ d₂ d : D) : Prop :=
  ∀ (g : G) (s : Shared) (v₁ v₂ : Value) (Q E : Value → Shared → Prop), g.In s.heap → Rep g v₁ d₁ → Rep g v₂ d₂ →
    (∀ v h' g' tk, Keep s.heap h' → g'.In h' → Le g g' → (∀ b, s.heap.get? b ≠ none → g' b = g b) → Rep g' v d → Q v { s with heap := h', toks := tk }) → wpAny c.M c.A (t v₁ v₂) Q E s
theorem EV.binop {l r : Expr} {op : Operator} {pos : Pos} {d₁ d₂ d : D} (hl : EV c σ l d₁) (hr : EV c σ r d₂) (ho : OP2 c (binaryOp op) d₁ d₂ d) : EV c σ (.BinOp l op r pos) d := by
  intro k N g m s Q E w h
  refine wpAny_BinOp (hl k N g m s _ E w fun v₁ h₁ g₁ t₁ k₁ w₁ l₁ r₁ => ?_)
  refine hr k N g₁ m _ _ E w₁ fun v₂ h₂ g₂ t₂ k₂ w₂ l₂ r₂ => ?_
  refine ho g₂ _ v₁ v₂ _ E w₂.gin (r₁.mono l₂) r₂ fun v h₃ g₃ t₃ k₃ i₃ l₃ s₃ r₃ => ?_
  exact h v h₃ g₃ t₃ (k₁.trans (k₂.trans k₃)) (w₂.grow k₃ i₃ l₃ s₃) (l₁.trans (l₂.trans l₃)) r₃
theorem EV.compare {l r : Expr} {op : CmpOp} {pos : Pos} {d₁ d₂ d : D} (hl : EV c σ l d₁) (hr : EV c σ r d₂) (ho : OP2 c (compareOp op) d₁ d₂ d) (hm : behindInMarks op r = false) : EV c σ (.Compare l [op] [r] pos) d := by
  intro k N g m s Q E w h
  refine wpAny_Compare1 (hl k N g m s _ E w fun v₁ h₁ g₁ t₁ k₁ w₁ l₁ r₁ => ?_) hm
  refine hr k N g₁ m _ _ E w₁ fun v₂ h₂ g₂ t₂ k₂ w₂ l₂ r₂ => ?_
  refine ho g₂ _ v₁ v₂ _ E w₂.gin (r₁.mono l₂) r₂ fun v h₃ g₃ t₃ k₃ i₃ l₃ s₃ r₃ => ?_
  exact h v h₃ g₃ t₃ (k₁.trans (k₂.trans k₃)) (w₂.grow k₃ i₃ l₃ s₃) (l₁.trans (l₂.trans l₃)) r₃
/-- truth of a datum -/
noncomputable def TR (c : Cfg) (d : D) (b : Bool) : Prop :=
  ∀ (g : G) (s : Shared) (v : Value) (Q : Bool → Shared → Prop) (E : Value → Shared → Prop), g.In s.heap → Rep g v d → (∀ tk, Q b { s with toks := tk }) → wpAny c.M c.A (truthy v) Q E s
theorem TR.bool {b : Bool} : TR c (.bool b) b := fun g s v Q E _ hr h => by cases hr; exact wpAny_pure (h s.toks)
theorem TR.str {x : Str} (hx : x.length ≤ 16777216) : TR c (.str x) (x.length != 0) := fun g s v Q E _ hr h => by
  cases hr
  refine PySem.P.truthy_str (by omega) ?_
  have e : ((x.length : Int) != 0) = (x.length != 0) := by
    cases h0 : x.length with
    | zero => rfl
    | succ n => have : ((n + 1 : Nat) : Int) ≠ 0 := by omega
                rw [bne_iff_ne.mpr this, bne_iff_ne.mpr (by omega)]
  rw [e]; exact h _
theorem EVB.compare {l r : Expr} {op : CmpOp} {pos : Pos} {d₁ d₂ : D} {b : Bool} (hl : EV c σ l d₁) (hr : EV c σ r d₂) (ho : OP2 c (compareOp op) d₁ d₂ (.bool b)) (hm : behindInMarks op r = false) : EVB c σ (.Compare l [op] [r] pos) b := by
  intro k N g m s Q E w h
  refine wpAny_isTrue_Compare1 (hl k N g m s _ E w fun v₁ h₁ g₁ t₁ k₁ w₁ l₁ r₁ => ?_) hm
  refine hr k N g₁ m _ _ E w₁ fun v₂ h₂ g₂ t₂ k₂ w₂ l₂ r₂ => ?_
  refine ho g₂ _ v₁ v₂ _ E w₂.gin (r₁.mono l₂) r₂ fun v h₃ g₃ t₃ k₃ i₃ l₃ s₃ r₃ => ?_
  refine TR.bool g₃ _ v _ E i₃ r₃ fun tk => ?_
  exact h h₃ g₃ tk (k₁.trans (k₂.trans k₃)) (w₂.grow k₃ i₃ l₃ s₃) (l₁.trans (l₂.trans l₃))
theorem EVB.not {e : Expr} {pos : Pos} {b : Bool} (h : EVB c σ e b) : EVB c σ (.UnaryOp .Not e pos) (!b) :=
  fun k N g m s Q E w q => isTrue_not (h k N g m s _ E w q)
theorem EVB.and_nil {pos : Pos} : EVB c σ (.BoolOp .And [] pos) true := fun _ _ g _ s _ _ w q => isTrue_and_nil (q s.heap g s.toks (Keep.refl _) w (Le.refl _))
theorem EVB.or_nil {pos : Pos} : EVB c σ (.BoolOp .Or [] pos) false := fun _ _ g _ s _ _ w q => isTrue_or_nil (q s.heap g s.toks (Keep.refl _) w (Le.refl _))
theorem isTrue_whole_and {rest : List Expr} {pos : Pos} {env : Env} (a b : Sem Value) : isTrue (.BoolOp .And rest pos) env a = isTrue (.BoolOp .And rest pos) env b := rfl
theorem EVB.and {e : Expr} {rest : List Expr} {pos : Pos} {b b' : Bool} (h : EVB c σ e b) (h' : b = true → EVB c σ (.BoolOp .And rest pos) b') : EVB c σ (.BoolOp .And (e :: rest) pos) (b && b') := by
  intro k N g m s Q E w q
  refine isTrue_and (h k N g m s _ E w fun h₁ g₁ t₁ k₁ w₁ l₁ => ?_)
  cases b with
  | false => rw [if_neg Bool.false_ne_true]; exact q h₁ g₁ t₁ k₁ w₁ l₁
  | true => rw [if_pos rfl]; exact h' rfl k N g₁ m _ Q E w₁ fun h₂ g₂ t₂ k₂ w₂ l₂ => q h₂ g₂ t₂ (k₁.trans k₂) w₂ (l₁.trans l₂)
theorem EVB.or {e : Expr} {rest : List Expr} {pos : Pos} {b b' : Bool} (h : EVB c σ e b) (h' : b = false → EVB c σ (.BoolOp .Or rest pos) b') : EVB c σ (.BoolOp .Or (e :: rest) pos) (b || b') := by
  intro k N g m s Q E w q
  refine isTrue_or (h k N g m s _ E w fun h₁ g₁ t₁ k₁ w₁ l₁ => ?_)
  cases b with
  | true => rw [if_pos rfl]; exact q h₁ g₁ t₁ k₁ w₁ l₁
  | false => rw [if_neg Bool.false_ne_true]; exact h' rfl k N g₁ m _ Q E w₁ fun h₂ g₂ t₂ k₂ w₂ l₂ => q h₂ g₂ t₂ (k₁.trans k₂) w₂ (l₁.trans l₂)
theorem EVB.plain {e : Expr} {d : D} {b : Bool} (h : EV c σ e d) (ht : TR c d b) (he : isTrue e c.env (eval e c.env) = (do let v ← eval e c.env; standAt e.pos; holding [v] (truthy v))) : EVB c σ e b := by
  intro k N g m s Q E w q
  refine isTrue_plain (h k N g m s _ E w fun v h₁ g₁ t₁ k₁ w₁ l₁ r₁ => ?_) he
  exact ht g₁ _ v _ E w₁.gin r₁ fun tk => q h₁ g₁ tk k₁ w₁ l₁
/-- and, or, not as values -/
theorem EV.and1 {e : Expr} {pos : Pos} {d : D} (h : EV c σ e d) : EV c σ (.BoolOp .And [e] pos) d := h
theorem EV.or1 {e : Expr} {pos : Pos} {d : D} (h : EV c σ e d) : EV c σ (.BoolOp .Or [e] pos) d := h
theorem EV.and {e f : Expr} {rest : List Expr} {pos : Pos} {b b' : Bool} (h : EV c σ e (.bool b)) (h' : b = true → EV c σ (.BoolOp .And (f :: rest) pos) (.bool b')) : EV c σ (.BoolOp .And (e :: f :: rest) pos) (.bool (b && b')) := by
  intro k N g m s Q E w q
  show wpAny _ _ (do
    let v ← eval e c.env
    standAt pos
    let t ← holding [v] (truthy v)
    match BoolOp.And, t with
    | .And, false | .Or, true => pure v
    | _, _ => boolOp pos .And (evalEach (f :: rest) c.env)) Q E s
  refine wpAny_bind (h k N g m s _ E w fun v h₁ g₁ t₁ k₁ w₁ l₁ r₁ => ?_)
  refine wpAny_bind (wpAny_standAt (wpAny_bind (wpAny_holding (TR.bool g₁ _ v _ E w₁.gin r₁ fun tk => ?_))))
  cases b with
  | false => exact wpAny_pure (q v h₁ g₁ tk k₁ w₁ l₁ r₁)
  | true => exact h' rfl k N g₁ m _ Q E w₁ fun v h₂ g₂ t₂ k₂ w₂ l₂ r₂ => q v h₂ g₂ t₂ (k₁.trans k₂) w₂ (l₁.trans l₂) r₂
theorem EV.or {e f : Expr} {rest : List Expr} {pos : Pos} {b b' : Bool} (h : EV c σ e (.bool b)) (h' : b = false → EV c σ (.BoolOp .Or (f :: rest) pos) (.bool b')) : EV c σ (.BoolOp .Or (e :: f :: rest) pos) (.bool (b || b')) := by
  intro k N g m s Q E w q
  show wpAny _ _ (do
    let v ← eval e c.env
    standAt pos
    let t ← holding [v] (truthy v)
    match BoolOp.Or, t with
    | .And, false | .Or, true => pure v
    | _, _ => boolOp pos .Or (evalEach (f :: rest) c.env)) Q E s
  refine wpAny_bind (h k N g m s _ E w fun v h₁ g₁ t₁ k₁ w₁ l₁ r₁ => ?_)
  refine wpAny_bind (wpAny_standAt (wpAny_bind (wpAny_holding (TR.bool g₁ _ v _ E w₁.gin r₁ fun tk => ?_))))
  cases b with
  | true => exact wpAny_pure (q v h₁ g₁ tk k₁ w₁ l₁ r₁)
  | false => exact h' rfl k N g₁ m _ Q E w₁ fun v h₂ g₂ t₂ k₂ w₂ l₂ r₂ => q v h₂ g₂ t₂ (k₁.trans k₂) w₂ (l₁.trans l₂) r₂
theorem EV.not {e : Expr} {pos : Pos} {d : D} {b : Bool} (h : EV c σ e d) (ht : TR c d b) : EV c σ (.UnaryOp .Not e pos) (.bool (!b)) := by
  intro k N g m s Q E w q
  show wpAny _ _ (do let v ← eval e c.env; standAt pos; holding [v] (unaryOp .Not v)) Q E s
  refine wpAny_bind (h k N g m s _ E w fun v h₁ g₁ t₁ k₁ w₁ l₁ r₁ => ?_)
  refine wpAny_bind (wpAny_standAt (wpAny_holding (not_of (ht g₁ _ v _ E w₁.gin r₁ fun tk => ?_))))
  exact q _ h₁ g₁ tk k₁ w₁ l₁ (.bool _)
theorem EV.neg {i : Int} {e : Expr} {pos : Pos} (h : EV c σ e (.int i)) : EV c σ (.UnaryOp .USub e pos) (.int (-i)) := by
  intro k N g m s Q E w q
  show wpAny _ _ (do let v ← eval e c.env; standAt pos; holding [v] (unaryOp .USub v)) Q E s
  refine wpAny_bind (h k N g m s _ E w fun v h₁ g₁ t₁ k₁ w₁ l₁ r₁ => ?_)
  cases r₁
  exact wpAny_bind (wpAny_standAt (wpAny_holding (PySem.P.neg_int (q _ h₁ g₁ _ k₁ w₁ l₁ (.int _ _)))))
/-- operations that make nothing on the heap -/
theorem OP2.of {t : Value → Value → Sem Value} {d₁ d₂ d : D} (h : ∀ (s : Shared) (g : G) (v₁ v₂ : Value) (Q E : Value → Shared → Prop), g.In s.heap → Rep g v₁ d₁ → Rep g v₂ d₂ → (∀ v tk, Rep g v d → Q v { s with toks := tk }) → wpAny c.M c.A (t v₁ v₂) Q E s) : OP2 c t d₁ d₂ d :=
  fun g s v₁ v₂ Q E hg h1 h2 q => h s g v₁ v₂ Q E hg h1 h2 fun v tk hr => q v s.heap g tk (Keep.refl _) hg (Le.refl _) (fun _ _ => rfl) hr
theorem OP2.eq_str {x y : Str} : OP2 c (compareOp .Eq) (.str x) (.str y) (.bool (x == y)) := .of fun s g v₁ v₂ Q E _ h1 h2 q => by
  cases h1; cases h2; exact PyProof.Rows.eq_str (q _ s.toks (.bool _))
theorem OP2.ne_str {x y : Str} : OP2 c (compareOp .NotEq) (.str x) (.str y) (.bool (x != y)) := .of fun s g v₁ v₂ Q E _ h1 h2 q => by
  cases h1; cases h2; exact PyProof.Rows.ne_str (q _ s.toks (.bool _))
theorem OP2.eq_int {x y : Int} : OP2 c (compareOp .Eq) (.int x) (.int y) (.bool (x == y)) := .of fun s g v₁ v₂ Q E _ h1 h2 q => by
  cases h1; cases h2; exact PySem.P.eq_int (q _ s.toks (.bool _))
theorem OP2.ne_int {x y : Int} : OP2 c (compareOp .NotEq) (.int x) (.int y) (.bool (x != y)) := .of fun s g v₁ v₂ Q E _ h1 h2 q => by
  cases h1; cases h2; exact PySem.P.ne_int (q _ s.toks (.bool _))
theorem OP2.lt_int {x y : Int} : OP2 c (compareOp .Lt) (.int x) (.int y) (.bool (decide (x < y))) := .of fun s g v₁ v₂ Q E _ h1 h2 q => by
  cases h1; cases h2; exact PySem.P.lt_int (q _ s.toks (.bool _))
theorem OP2.le_int {x y : Int} : OP2 c (compareOp .LtE) (.int x) (.int y) (.bool (decide (x ≤ y))) := .of fun s g v₁ v₂ Q E _ h1 h2 q => by
  cases h1; cases h2; exact PySem.P.le_int (q _ s.toks (.bool _))
theorem OP2.gt_int {x y : Int} : OP2 c (compareOp .Gt) (.int x) (.int y) (.bool (decide (y < x))) := .of fun s g v₁ v₂ Q E _ h1 h2 q => by
  cases h1; cases h2; exact PySem.P.gt_int (q _ s.toks (.bool _))
theorem OP2.ge_int {x y : Int} : OP2 c (compareOp .GtE) (.int x) (.int y) (.bool (decide (y ≤ x))) := .of fun s g v₁ v₂ Q E _ h1 h2 q => by
  cases h1; cases h2; exact PySem.P.ge_int (q _ s.toks (.bool _))
theorem OP2.add_int {x y : Int} : OP2 c (binaryOp .Add) (.int x) (.int y) (.int (x + y)) := .of fun s g v₁ v₂ Q E _ h1 h2 q => by
  cases h1; cases h2; exact PySem.P.add_int (q _ _ (.int _ _))
theorem OP2.sub_int {x y : Int} : OP2 c (binaryOp .Sub) (.int x) (.int y) (.int (x - y)) := .of fun s g v₁ v₂ Q E _ h1 h2 q => by
  cases h1; cases h2; exact PySem.P.sub_int (q _ _ (.int _ _))
theorem OP2.mod_int {x y : Int} (hy : y ≠ 0) : OP2 c (binaryOp .Mod) (.int x) (.int y) (.int (x.fmod y)) := .of fun s g v₁ v₂ Q E _ h1 h2 q => by
  cases h1; cases h2; exact mod_int' hy (q _ _ (.int _ _))
theorem OP2.add_str {x y : Str} (hs : x.length + y.length ≤ 16777216) : OP2 c (binaryOp .Add) (.str x) (.str y) (.str (x ++ y)) := .of fun s g v₁ v₂ Q E _ h1 h2 q => by
  cases h1; cases h2; exact PyProof.Rows.add_str (fun t' tk => q _ tk (.str _ t')) hs
theorem OP2.iadd_str {x y : Str} (hs : x.length + y.length ≤ 16777216) : OP2 c (inplaceOp .Add) (.str x) (.str y) (.str (x ++ y)) := .of fun s g v₁ v₂ Q E _ h1 h2 q => by
  cases h1; cases h2; exact PyProof.Rows.iadd_str (fun t' tk => q _ tk (.str _ t')) hs
theorem OP2.iadd_int {x y : Int} : OP2 c (inplaceOp .Add) (.int x) (.int y) (.int (x + y)) := .of fun s g v₁ v₂ Q E _ h1 h2 q => by
  cases h1; cases h2; exact PySem.P.iadd_int (q _ _ (.int _ _))
theorem OP2.isub_int {x y : Int} : OP2 c (inplaceOp .Sub) (.int x) (.int y) (.int (x - y)) := .of fun s g v₁ v₂ Q E _ h1 h2 q => by
  cases h1; cases h2; exact PySem.P.isub_int (q _ _ (.int _ _))
/-- lists and tuples: display -/
inductive EVs (c : Cfg) (σ : Sig) : List Expr → List D → Prop where
  | nil : EVs c σ [] []
  | cons {e : Expr} {d : D} {es : List Expr} {ds : List D} : EV c σ e d → (∀ env, backTo default (starEach (e :: es) env) = (false, eval e env) :: backTo default (starEach es env)) → EVs c σ es ds → EVs c σ (e :: es) (d :: ds)
theorem backTo_pos (pos pos' : Pos) : ∀ (l : List (Bool × Sem Value)), l.any (·.1) = false → backTo pos l = backTo pos' l
  | [], _ => rfl
  | (b, t) :: r, h => by
    simp only [List.any_cons, Bool.or_eq_false_iff] at h
    have hb : b = false := h.1
    subst hb
    have := backTo_pos pos pos' r h.2
    simp only [backTo, List.map_cons, Bool.false_eq_true, if_false] at this ⊢
    rw [this]
theorem EVs.plain {es : List Expr} {ds : List D} (h : EVs c σ es ds) : ∀ pos env, backTo pos (starEach es env) = es.map fun e => (false, eval e env) := by
  induction h with
  | nil => intro _ _; rfl
  | @cons e d es ds _ h2 _ ih =>
    intro pos env
    have h3 := h2 env
    rw [ih] at h3
    have h4 : (starEach (e :: es) env).any (·.1) = false := by
      have h5 : (backTo default (starEach (e :: es) env)).any (·.1) = false := by rw [h3]; simp
      simpa [backTo, List.any_map, Function.comp_def] using h5
    rw [backTo_pos pos default _ h4, h3]; rfl
theorem EVs.splice {es : List Expr} {ds : List D} (h : EVs c σ es ds) : ∀ (k : G) (N : Addr → Prop) (g : G) (m : Str → Option Value) (s : Shared) (Q : List Value → Shared → Prop) (E : Value → Shared → Prop), W c k N g m σ s.heap →
    (∀ vs h' g' tk, Keep s.heap h' → W c k N g' m σ h' → Le g g' → Reps g' vs ds → Q vs { s with heap := h', toks := tk }) →
    wpAny c.M c.A (spliced (es.map fun e => (false, eval e c.env))) Q E s := by
  induction h with
  | nil => intro k N g m s Q E w q; exact Calls.spliced_nil (q [] s.heap g s.toks (Keep.refl _) w (Le.refl _) .nil)
  | @cons e d es ds h1 _ _ ih =>
    intro k N g m s Q E w q
    refine Calls.spliced_cons (h1 k N g m s _ E w fun v h₁ g₁ t₁ k₁ w₁ l₁ r₁ => ?_)
    refine ih k N g₁ m _ _ E w₁ fun vs h₂ g₂ t₂ k₂ w₂ l₂ r₂ => ?_
    exact q _ h₂ g₂ t₂ (k₁.trans k₂) w₂ (l₁.trans l₂) (.cons (r₁.mono l₂) r₂)
theorem EVs.length {es : List Expr} {ds : List D} (h : EVs c σ es ds) : es.length = ds.length := by
  induction h with
  | nil => rfl
  | cons _ _ _ ih => simp [ih]
theorem EV.list {es : List Expr} {ds : List D} {pos : Pos} (h : EVs c σ es ds) (hn : ds.length ≤ 16777216) : EV c σ (.List es pos) (.list ds) := by
  intro k N g m s Q E w q
  refine List_ ?_
  rw [h.plain]
  refine h.splice k N g m s _ E w fun vs h₁ g₁ t₁ k₁ w₁ l₁ r₁ => ?_
  refine wpAny_newList ?_ (by rw [r₁.length]; exact hn)
  have hsz := Heap.get?_none_of_le (h := h₁) (Nat.le_refl _)
  have ha : (h₁.push (listObj vs 0)).get? h₁.objs.size = some (listObj vs 0) := Heap.get?_push_size _ rfl
  obtain ⟨w₂, l₂⟩ := w₁.add (Keep.push h₁ (listObj vs 0)) hsz ha
  exact q _ _ _ _ (k₁.trans (Keep.push _ _)) w₂ (l₁.trans l₂) (.list (G.add_self _ _ _) rfl rfl (r₁.mono l₂))
theorem EV.tuple {es : List Expr} {ds : List D} {kk : Nat} {pos : Pos} (h : EVs c σ es ds) (hn : ds.length ≤ 16777216) : EV c σ (.Tuple es kk pos) (.tup ds) := by
  intro k N g m s Q E w q
  refine Tuple_ ?_
  rw [h.plain]
  refine h.splice k N g m s _ E w fun vs h₁ g₁ t₁ k₁ w₁ l₁ r₁ => ?_
  refine wpAny_newTuple ?_ (by rw [r₁.length]; exact hn)
  have hsz := Heap.get?_none_of_le (h := h₁) (Nat.le_refl _)
  have ha : (h₁.push { cls := .type "tuple", data := .seq vs.toArray }).get? h₁.objs.size = some { cls := .type "tuple", data := .seq vs.toArray } := Heap.get?_push_size _ rfl
  obtain ⟨w₂, l₂⟩ := w₁.add (Keep.push h₁ _) hsz ha
  exact q _ _ _ _ (k₁.trans (Keep.push _ _)) w₂ (l₁.trans l₂) (.tup (G.add_self _ _ _) rfl rfl (r₁.mono l₂))
end
end Mine
namespace Mine
section
variable {c : Cfg} {σ σ' : Sig} {E : Value → Shared → Prop} {Φ : AFlow → Sig → Prop} {rest : List Stmt}
/-- stores into the frame leave all else -/
noncomputable def OffFp (fp : List Addr) (h h' : Heap) : Prop := ∀ b, b ∉ fp → h'.get? b = h.get? b
theorem Holds.offFp {k g : G} {fp : List Addr} {m m' : Str → Option Value} {h h' : Heap} {y : Str} {v : AV} (hv : Holds k g fp m h y v) (hs : OffFp fp h h') (hm : m' y = m y) : Holds k g fp m' h' y v := by
  cases v with
  | un => trivial
  | val d => obtain ⟨u, h1, h2⟩ := hv; exact ⟨u, hm.trans h1, h2⟩
  | own ds => obtain ⟨a, vs, n, h1, h2, h3, h4, h5, h6⟩ := hv; exact ⟨a, vs, n, hm.trans h1, (hs a h6).trans h2, h3, h4, h5, h6⟩
  | it a ds => obtain ⟨h1, h2, h3, h4, h5⟩ := hv; exact ⟨hm.trans h1, h2.at' fun o e => (hs a h5).trans e, h3, h4, h5⟩
theorem W.class_free (ok : c.Ev) : (c.env.scope.kind == .class || (c.env.scope.kind == .module && c.env.locals != c.env.globals)) = false := by
  rw [ok.hk]; rfl
theorem W.not_interactive (ok : c.Ev) : interactive c.env = false := by
  show (c.env.scope.kind == .module && _) = false
  rw [ok.hk]; rfl
theorem Upd.loc {x : Str} {v : AV} (h : Upd σ x v σ') : ∃ u, Loc σ x u := by
  induction h with
  | head => exact ⟨_, .head⟩
  | tail _ ih => obtain ⟨u, hu⟩ := ih; exact ⟨u, .tail hu⟩
theorem SameBut.live {p b : Addr} {h h' : Heap} (hs : Heap.SameBut p h h') (hp : h'.get? p ≠ none) (x : h.get? b ≠ none) : h'.get? b ≠ none := by
  by_cases e : b = p
  · rw [e]; exact hp
  · rw [hs.2 b e]; exact x
/-- a local name is stored: what it held is forgotten, what it holds is said by hx -/
theorem W.store (ok : c.Ok) {k g : G} {N : Addr → Prop} {m : Str → Option Value} {s : Shared} {x : Str} {u : Value} {v : AV} {Q : Unit → Shared → Prop} (w : W c k N g m σ s.heap) (hu : Upd σ x v σ')
    (hx : ∀ h', OffFp c.fp s.heap h' → Holds k g c.fp (fun y => if y = x then some u else m y) h' x v)
    (hsep : v.free = true → ∀ y w a, (y, w) ∈ σ → w.free = true → y ≠ x → m y = some (.ref a) → u ≠ .ref a)
    (q : ∀ h' tk, OffFp c.fp s.heap h' → W c k N g (fun y => if y = x then some u else m y) σ' h' → Q () { s with heap := h', toks := tk }) : wpAny c.M c.A (storeName c.env x u) Q E s := by
  have fin : ∀ h' p, p ∈ c.fp → Heap.SameBut p s.heap h' → h'.get? p ≠ none → FrameAt c.env (fun y => if y = x then some u else m y) h' → OffFp c.fp s.heap h' ∧ W c k N g (fun y => if y = x then some u else m y) σ' h' := by
    intro h' p hp hs hlive hfr
    have off : OffFp c.fp s.heap h' := fun b hb => hs.2 b fun e => hb (e ▸ hp)
    refine ⟨off, { base := w.base, kin := fun b o e => ?_, gin := fun b o e => ?_, fpk := w.fpk, fpl := fun q hq => SameBut.live hs hlive (w.fpl q hq), nN := w.nN, fr := hfr, cel := w.cel, Lfp := w.Lfp, nod := by rw [hu.keys]; exact w.nod, lcl := by rw [hu.keys]; exact w.lcl, loc := fun y a hm => ?_, sep := fun y a z b p h1 h2 h3 h4 h5 h6 => ?_ }⟩
    · rw [off b (fun q => by rw [(w.fpk b q).1] at e; cases e)]; exact w.kin b o e
    · rw [off b (fun q => by rw [(w.fpk b q).2] at e; cases e)]; exact w.gin b o e
    · rcases hu.mem w.nod hm with ⟨rfl, rfl⟩ | ⟨hne, hm'⟩
      · exact hx h' off
      · exact (w.loc y a hm').offFp off (if_neg hne)
    · rcases hu.mem w.nod h1 with ⟨rfl, rfl⟩ | ⟨n1, m1⟩ <;> rcases hu.mem w.nod h2 with ⟨rfl, rfl⟩ | ⟨n2, m2⟩
      · rfl
      · simp only [if_true, if_neg n2] at h5 h6
        exact absurd (Option.some.inj h5) (hsep h3 z b p m2 h4 n2 h6)
      · simp only [if_true, if_neg n1] at h5 h6
        exact absurd (Option.some.inj h6) (hsep h4 y a p m1 h3 n1 h5)
      · rw [if_neg n1] at h5; rw [if_neg n2] at h6
        exact w.sep y a z b p m1 m2 h3 h4 h5 h6
  obtain ⟨v₀, hl⟩ := hu.loc
  rcases w.kind hl with hk | ⟨hk, p, hp⟩
  · obtain ⟨m₀, h1, h2⟩ := w.fr.ns
    refine wpAny_storeName_local hk h1 (fun h' hn hs => ?_) (W.class_free ok.toEv)
    obtain ⟨a, b⟩ := fin h' _ ok.Lfp hs (by obtain ⟨o, _, _, e, _⟩ := hn; rw [e]; exact fun e => nomatch e) ⟨⟨_, hn, fun y hy => by by_cases e : y = x <;> simp [e, h2 y hy]⟩, fun y p hy hp => by
      have hne : y ≠ x := fun e => by rw [e, hk] at hy; cases hy
      simp only [if_neg hne]
      exact (w.fr.cl y p hy hp).sameBut hs (ok.offL y p hp)⟩
    exact q h' _ a b
  · refine wpAny_storeName_cell ok.hk hk hp (w.fr.cl x p hk hp) fun h' hc hs => ?_
    obtain ⟨a, b⟩ := fin h' p (ok.full x p hp) hs (by obtain ⟨o, e, _⟩ := hc; rw [e]; exact fun e => nomatch e) ⟨by
      obtain ⟨m₀, h1, h2⟩ := w.fr.ns
      refine ⟨m₀, h1.sameBut hs (Ne.symm (ok.offL x p hp)), fun y hy => ?_⟩
      have hne : y ≠ x := fun e => by rw [e, hk] at hy; cases hy
      rw [h2 y hy, if_neg hne], fun y p' hy hp' => by
      by_cases e : y = x
      · subst e; rw [hp] at hp'; cases hp'; simpa using hc
      · simp only [if_neg e]
        exact (w.fr.cl y p' hy hp').sameBut hs fun e' => e (ok.apart y x p' hp' (e' ▸ hp))⟩
    exact q h' _ a b
/-- store a datum into a local name -/
theorem W.put (ok : c.Ok) {k g : G} {N : Addr → Prop} {m : Str → Option Value} {s : Shared} {x : Str} {u : Value} {d : D} {Q : Unit → Shared → Prop} (w : W c k N g m σ s.heap) (hr : Rep g u d) (hu : Upd σ x (.val d) σ')
    (h : ∀ h' tk, W c k N g (fun y => if y = x then some u else m y) σ' h' → Q () { s with heap := h', toks := tk }) : wpAny c.M c.A (storeName c.env x u) Q E s :=
  w.store ok hu (fun _ _ => ⟨u, if_pos rfl, hr⟩) (fun e => nomatch e) fun h' tk _ w' => h h' tk w'
theorem SX.assign (ok : c.Ok) {x : Str} {e : Expr} {p p' : Pos} {d : D} (he : EV c σ e d) (hu : Upd σ x (.val d) σ') (hs : swapsWith e (some (.Name x p')) p.line c.env = pure false) (k : SX c E σ' rest Φ) : SX c E σ (.Assign [.Name x p'] e p :: rest) Φ := by
  refine SX.step fun kk N g m s w => wpAny_Assign_Name (he kk N g m s _ E w fun v h₁ g₁ t₁ k₁ w₁ l₁ r₁ => ?_) hs
  refine W.put ok w₁ r₁ hu fun h' tk w' => ?_
  exact ⟨h', tk, g₁, _, σ', .next, rfl, w', .next, k⟩
theorem SX.aug (ok : c.Ok) {x : Str} {e : Expr} {op : Operator} {p p' : Pos} {d₀ d₁ d : D} (hl : Loc σ x (.val d₀)) (he : EV c σ e d₁) (ho : OP2 c (inplaceOp op) d₀ d₁ d) (hu : Upd σ x (.val d) σ') (k : SX c E σ' rest Φ) : SX c E σ (.AugAssign (.Name x p') op e p :: rest) Φ := by
  refine SX.step fun kk N g m s w => wpAny_AugAssign_Name ?_
  obtain ⟨u, hm, hr⟩ := w.name hl
  refine w.load ok.toEv hl hm ?_
  refine he kk N g m s _ E w fun v h₁ g₁ t₁ k₁ w₁ l₁ r₁ => ?_
  refine ho g₁ _ u v _ E w₁.gin (hr.mono l₁) r₁ fun v h₂ g₂ t₂ k₂ i₂ l₂ s₂ r₂ => ?_
  refine W.put ok (w₁.grow k₂ i₂ l₂ s₂) r₂ hu fun h' tk w' => ?_
  exact ⟨h', tk, g₂, _, σ', .next, rfl, w', .next, k⟩
theorem SX.ite {t : Expr} {b : Bool} {body orelse : List Stmt} {p : Pos} (ht : EVB c σ t b) (h1 : b = true → SX c E σ body (seqT c E rest Φ)) (h2 : b = false → SX c E σ orelse (seqT c E rest Φ)) : SX c E σ (.If t body orelse p :: rest) Φ := by
  refine SX.step fun kk N g m s w => wpAny_If (ht kk N g m s _ E w fun h₁ g₁ t₁ k₁ w₁ l₁ => ?_)
  cases b with
  | true => rw [if_pos rfl]; exact wpAny_mono (h1 rfl kk N g₁ m _ w₁) (fun _ _ q => q.trans) fun _ _ e => e
  | false => rw [if_neg Bool.false_ne_true]; exact wpAny_mono (h2 rfl kk N g₁ m _ w₁) (fun _ _ q => q.trans) fun _ _ e => e
theorem SX.ret {e : Expr} {d : D} {p : Pos} (he : EV c σ e d) (h : Φ (.ret d) σ) : SX c E σ (.Return (some e) p :: rest) Φ := by
  refine SX.step fun kk N g m s w => wpAny_Return_some (he kk N g m s _ E w fun v h₁ g₁ t₁ k₁ w₁ l₁ r₁ => ?_)
  exact ⟨h₁, t₁, g₁, m, σ, .ret d, rfl, w₁, .ret r₁, h⟩
theorem SX.brk {p : Pos} (h : Φ .brk σ) : SX c E σ (.Break p :: rest) Φ :=
  SX.step fun _ _ g m s w => wpAny_Break ⟨s.heap, s.toks, g, m, σ, .brk, rfl, w, .brk, h⟩
/-- own lists -/
theorem SX.newlist (ok : c.Ok) {x : Str} {es : List Expr} {ds : List D} {p p' pl : Pos} (he : EVs c σ es ds) (hn : ds.length ≤ 16777216) (hu : Upd σ x (.own ds) σ') (k : SX c E σ' rest Φ) : SX c E σ (.Assign [.Name x p'] (.List es pl) p :: rest) Φ := by
  refine SX.step fun kk N g m s w => wpAny_Assign_Name ?_ rfl
  refine List_ ?_
  rw [he.plain]
  refine he.splice kk N g m s _ E w fun vs h₁ g₁ t₁ k₁ w₁ l₁ r₁ => ?_
  refine wpAny_newList ?_ (by rw [r₁.length]; exact hn)
  have hsz := Heap.get?_none_of_le (h := h₁) (Nat.le_refl _)
  have ha : (h₁.push (listObj vs 0)).get? h₁.objs.size = some (listObj vs 0) := Heap.get?_push_size _ rfl
  have w₂ := w₁.keep (Keep.push h₁ (listObj vs 0))
  have hL : h₁.objs.size ∉ c.fp := fun hp => w₁.fpl _ hp hsz
  refine W.store (v := .own ds) (σ' := σ') ok w₂ hu (fun h' off => ⟨h₁.objs.size, vs, 0, if_pos rfl, (off _ hL).trans ha, r₁, w₁.kin.none_size, w₁.gin.none_size, hL⟩) (fun _ y v a hy hf _ hm e => ?_) fun h' tk off w' => ⟨h', tk, g₁, _, σ', .next, rfl, w', .next, k⟩
  cases e
  have hv := w₁.loc y v hy
  cases v with
  | own ds => obtain ⟨a, _, _, q1, q2, _⟩ := hv; rw [hm] at q1; cases q1; exact absurd (Heap.lt_size q2) (Nat.lt_irrefl _)
  | it a ds => obtain ⟨q1, q2, _⟩ := hv; rw [hm] at q1; cases q1; exact q2.live hsz
  | un => cases hf
  | val d => cases hf
/-- the object that an own name holds is exchanged -/
theorem W.exch {k g : G} {N : Addr → Prop} {m : Str → Option Value} {h h' : Heap} {x : Str} {a : Addr} {v u : AV} (w : W c k N g m σ h) (hl : Loc σ x v) (hf : v.free = true) (hu : Upd σ x u σ') (hm : m x = some (.ref a)) (hka : k a = none) (hga : g a = none) (hL : a ∉ c.fp)
    (hs : ∀ b o, b ≠ a → h.get? b = some o → h'.get? b = some o) (hx : Holds k g c.fp m h' x u) : W c k N g m σ' h' := by
  have oth : ∀ y w', (y, w') ∈ σ → y ≠ x → Holds k g c.fp m h' y w' := fun y w' hy hne => by
    have hv := w.loc y w' hy
    cases w' with
    | un => trivial
    | val d => exact hv
    | own ds =>
      obtain ⟨b, vs, n, h1, h2, h3, h4, h5, h6⟩ := hv
      have hab : b ≠ a := fun q => hne (w.sep y _ x _ a hy hl.mem rfl hf (q ▸ h1) hm)
      exact ⟨b, vs, n, h1, hs b _ hab h2, h3, h4, h5, h6⟩
    | it b ds =>
      obtain ⟨h1, h2, h3, h4, h5⟩ := hv
      have hab : b ≠ a := fun q => hne (w.sep y _ x _ a hy hl.mem rfl hf (q ▸ h1) hm)
      exact ⟨h1, h2.at' fun o e => hs b _ hab e, h3, h4, h5⟩
  have hne : ∀ p, h.get? p ≠ none → p ≠ a → h'.get? p ≠ none := fun p hp hpa => by
    obtain ⟨o, e⟩ := Option.ne_none_iff_exists'.mp hp
    rw [hs p o hpa e]; exact fun e => nomatch e
  refine { base := w.base, kin := fun b o e => hs b o (fun q => by rw [q, hka] at e; cases e) (w.kin b o e), gin := fun b o e => hs b o (fun q => by rw [q, hga] at e; cases e) (w.gin b o e), fpk := w.fpk, fpl := fun p hp => hne p (w.fpl p hp) fun e => hL (e ▸ hp), nN := w.nN, fr := ⟨?_, fun y p h1 h2 => ?_⟩, cel := w.cel, Lfp := w.Lfp, nod := by rw [hu.keys]; exact w.nod, lcl := by rw [hu.keys]; exact w.lcl, loc := fun y b hy => ?_, sep := fun y a₁ z b p h1 h2 h3 h4 h5 h6 => ?_ }
  · obtain ⟨m₀, h1, h2⟩ := w.fr.ns
    exact ⟨m₀, h1.extBut (fun b o hb e => hs b o hb e) (fun e => hL (e ▸ w.Lfp)), h2⟩
  · obtain ⟨o, e1, e2⟩ := w.fr.cl y p h1 h2
    refine ⟨o, hs p o (fun q => ?_) e1, e2⟩
    subst q
    rcases w.cel y p h2 with q | q
    · exact hL q
    · exact q hka
  · rcases hu.mem w.nod hy with ⟨rfl, rfl⟩ | ⟨n1, m1⟩
    · exact hx
    · exact oth y b m1 n1
  · rcases hu.mem w.nod h1 with ⟨rfl, rfl⟩ | ⟨n1, m1⟩ <;> rcases hu.mem w.nod h2 with ⟨rfl, rfl⟩ | ⟨n2, m2⟩
    · rfl
    · exact w.sep _ _ _ _ p hl.mem m2 hf h4 h5 h6
    · exact w.sep _ _ _ _ p m1 hl.mem h3 hf h5 h6
    · exact w.sep _ _ _ _ p m1 m2 h3 h4 h5 h6
theorem isList_listObj {h : Heap} {a : Addr} {vs : List Value} {n : Nat} (e : h.get? a = some (listObj vs n)) : h.IsList a vs.toArray := ⟨_, e, rfl, n, rfl⟩
theorem plainList_listObj {h : Heap} {a : Addr} {vs : List Value} {n : Nat} (e : h.get? a = some (listObj vs n)) : h.PlainList a vs.toArray := ⟨n, e⟩
/-- x.append(e) -/
theorem SX.append (ok : c.Ok) {x : Str} {e : Expr} {ds : List D} {d : D} {p p1 p2 p3 : Pos} (hl : Loc σ x (.own ds)) (he : EV c σ e d) (hu : Upd σ x (.own (ds ++ [d])) σ') (hn : ds.length ≤ 16777216)
    (hbase : attributeBase (.Name x p1) "append" c.env (eval (.Name x p1) c.env) = eval (.Name x p1) c.env) (hline : (p2.endLine == p3.line) = true)
    (htrees : backTo p3 (starEach [e] c.env) = [(false, eval e c.env)]) (k : SX c E σ' rest Φ) : SX c E σ (.Expr (.Call (.Attribute (.Name x p1) "append" p2) [e] [] p3) p :: rest) Φ := by
  refine SX.step fun kk N g m s w => wpAny_Expr ?_ (W.not_interactive ok.toEv) rfl
  obtain ⟨a, vs, n, hm, ho, hr, hka, hga, hL⟩ := w.loc x _ hl.mem
  refine wpAny_Call_append hbase (by rw [htrees]; rfl) hline htrees (wpAny_Name (w.load ok.toEv hl hm ?_) (w.nodebug hl))
  refine ⟨a, vs.toArray, rfl, ⟨_, n, ho, rfl, rfl, rfl⟩, ?_⟩
  refine he kk N g m s _ E w fun v h₁ g₁ t₁ k₁ w₁ l₁ r₁ => ?_
  have ho₁ := k₁ _ _ ho
  have hga₁ : g₁ a = none := by
    obtain ⟨a', vs', n', hm', _, _, _, hga', _⟩ := w₁.loc x _ hl.mem
    rw [hm] at hm'; cases hm'; exact hga'
  refine wpAny_list_append_plain (plainList_listObj ho₁) (fun h₂ hp₂ hs₂ => ?_) (by rw [List.size_toArray, hr.length]; exact hn)
  obtain ⟨n₂, ho₂⟩ := hp₂
  refine ⟨h₂, t₁, g₁, m, σ', .next, rfl, w₁.exch hl rfl hu hm hka hga₁ hL (fun b o hb e => (hs₂.2 b hb).trans e) ⟨a, vs ++ [v], n₂, hm, ?_, (hr.mono l₁).append (.cons r₁ .nil), hka, hga₁, hL⟩, .next, k⟩
  rw [ho₂]; simp [listObj]
/-- return of an own list: it becomes a datum -/
theorem W.freeze {k g : G} {N : Addr → Prop} {m : Str → Option Value} {h : Heap} {x : Str} {ds : List D} (w : W c k N g m σ h) (hl : Loc σ x (.own ds)) (hu : Upd σ x (.val (.list ds)) σ') :
    ∃ a vs n, m x = some (.ref a) ∧ h.get? a = some (listObj vs n) ∧ Le g (g.add a (listObj vs n)) ∧ W c k N (g.add a (listObj vs n)) m σ' h ∧ Rep (g.add a (listObj vs n)) (.ref a) (.list ds) := by
  obtain ⟨a, vs, n, hm, ho, hr, hka, hga, hL⟩ := w.loc x _ hl.mem
  have hle : Le g (g.add a (listObj vs n)) := Le.add hga
  have hrep : Rep (g.add a (listObj vs n)) (.ref a) (.list ds) := .list (G.add_self _ _ _) rfl rfl (hr.mono hle)
  refine ⟨a, vs, n, hm, ho, hle, ?_, hrep⟩
  refine { base := w.base, kin := w.kin, gin := w.gin.add ho, fpk := fun p hp => ⟨(w.fpk p hp).1, ?_⟩, fpl := w.fpl, nN := fun b hb => ⟨(w.nN b hb).1, ?_⟩, fr := w.fr, cel := w.cel, Lfp := w.Lfp, nod := by rw [hu.keys]; exact w.nod, lcl := by rw [hu.keys]; exact w.lcl, loc := fun y b hy => ?_, sep := fun y a₁ z b p h1 h2 h3 h4 h5 h6 => ?_ }
  · rw [G.add_ne (fun (e : p = a) => hL (e ▸ hp))]; exact (w.fpk p hp).2
  · rw [G.add_ne]; exact (w.nN b hb).2
    intro q; exact (w.nN b hb).1 (q ▸ hka)
  · rcases hu.mem w.nod hy with ⟨rfl, rfl⟩ | ⟨n1, m1⟩
    · exact ⟨_, hm, hrep⟩
    · refine (w.loc y b m1).ext hle fun a' hm' hf hg' _ _ _ => ?_
      rw [G.add_ne]; exact hg'
      intro q; exact n1 (w.sep y _ x _ a m1 hl.mem hf rfl (q ▸ hm') hm)
  · rcases hu.mem w.nod h1 with ⟨rfl, rfl⟩ | ⟨n1, m1⟩
    · cases h3
    · rcases hu.mem w.nod h2 with ⟨rfl, rfl⟩ | ⟨n2, m2⟩
      · cases h4
      · exact w.sep _ _ _ _ p m1 m2 h3 h4 h5 h6
theorem SX.freeze {x : Str} {ds : List D} {ss : List Stmt} (hl : Loc σ x (.own ds)) (hu : Upd σ x (.val (.list ds)) σ') (k : SX c E σ' ss Φ) : SX c E σ ss Φ := by
  intro kk N g m s w
  obtain ⟨a, vs, n, _, _, _, w', _⟩ := w.freeze hl hu
  exact k kk N _ m s w'
/-- a scalar datum -/
inductive D.Scalar : D → Prop where
  | none : Scalar .none
  | bool (b) : Scalar (.bool b)
  | int (i) : Scalar (.int i)
  | str (x) : Scalar (.str x)
theorem Rep.any {g g' : G} {v : Value} {d : D} (h : Rep g v d) (hs : d.Scalar) : Rep g' v d := by
  cases hs <;> cases h
  · exact .none
  · exact .bool _
  · exact .int _ _
  · exact .str _ _
/-- an own list may be read as a datum where a scalar comes out -/
theorem EV.frozen {x : Str} {ds : List D} {e : Expr} {d : D} (hl : Loc σ x (.own ds)) (hu : Upd σ x (.val (.list ds)) σ') (hs : d.Scalar) (h : EV c σ' e d) : EV c σ e d := by
  intro k N g m s Q E w q
  obtain ⟨a, vs, n, _, _, _, w', _⟩ := w.freeze hl hu
  exact h k N _ m s Q E w' fun v h₁ g₁ t₁ k₁ _ _ r₁ => q v h₁ g t₁ k₁ (w.keep k₁) (Le.refl _) (r₁.any hs)
theorem EVB.frozen {x : Str} {ds : List D} {e : Expr} {b : Bool} (hl : Loc σ x (.own ds)) (hu : Upd σ x (.val (.list ds)) σ') (h : EVB c σ' e b) : EVB c σ e b := by
  intro k N g m s Q E w q
  obtain ⟨a, vs, n, _, _, _, w', _⟩ := w.freeze hl hu
  exact h k N _ m s Q E w' fun h₁ g₁ t₁ k₁ _ _ => q h₁ g t₁ k₁ (w.keep k₁) (Le.refl _)
end
end Mine
namespace Mine
mutual
noncomputable def D.toPy : D → PyData
  | .none => .none
  | .bool b => .bool b
  | .int i => .int i
  | .str x => .str x
  | .list ds => .list (D.toPys ds)
  | .tup ds => .tuple (D.toPys ds)
  | .raw _ => .none
noncomputable def D.toPys : List D → List PyData
  | [] => []
  | d :: ds => d.toPy :: D.toPys ds
end
mutual
noncomputable def D.pure : D → Bool
  | .list ds | .tup ds => D.pures ds
  | .raw _ => false
  | .str x => PyData.strOk x
  | .none | .bool _ | .int _ => true
noncomputable def D.pures : List D → Bool
  | [] => true
  | d :: ds => d.pure && D.pures ds
end
mutual
theorem Rep.reads {g : G} {h : Heap} (hg : g.In h) : ∀ {v : Value} {d : D}, Rep g v d → d.pure = true → ∃ as, Reads h v d.toPy as
  | _, _, .none, _ => ⟨_, by unfold D.toPy; exact .none⟩
  | _, _, .bool b, _ => ⟨_, by unfold D.toPy; exact .bool b⟩
  | _, _, .int i t, _ => ⟨_, by unfold D.toPy; exact .int i t⟩
  | _, _, .str x t, _ => ⟨_, by unfold D.toPy; exact .str x t⟩
  | _, _, .list h1 h2 h3 h4, hp => by
    unfold D.pure at hp
    obtain ⟨as, hr⟩ := Reps.reads hg h4 hp
    exact ⟨_, by unfold D.toPy; exact .list (hg _ _ h1) h2 h3 (by simpa using hr)⟩
  | _, _, .tup h1 h2 h3 h4, hp => by
    unfold D.pure at hp
    obtain ⟨as, hr⟩ := Reps.reads hg h4 hp
    exact ⟨_, by unfold D.toPy; exact .tuple (hg _ _ h1) h2 h3 (by simpa using hr)⟩
  | _, _, .raw _, hp => by unfold D.pure at hp; cases hp
theorem Reps.reads {g : G} {h : Heap} (hg : g.In h) : ∀ {vs : List Value} {ds : List D}, Reps g vs ds → D.pures ds = true → ∃ as, ReadsAll h vs (D.toPys ds) as
  | _, _, .nil, _ => ⟨_, by unfold D.toPys; exact .nil⟩
  | _, _, .cons h1 h2, hp => by
    unfold D.pures at hp
    rw [Bool.and_eq_true] at hp
    obtain ⟨as, h3⟩ := Rep.reads hg h1 hp.1
    obtain ⟨bs, h4⟩ := Reps.reads hg h2 hp.2
    exact ⟨_, by unfold D.toPys; exact .cons h3 h4⟩
end
mutual
theorem D.canLay : ∀ d : D, d.pure = true → d.toPy.canLay0 = true
  | .none, _ | .bool _, _ | .int _, _ => by unfold D.toPy PyData.canLay0; rfl
  | .str x, h => by unfold D.pure at h; unfold D.toPy PyData.canLay0; exact h
  | .list ds, h => by unfold D.pure at h; unfold D.toPy PyData.canLay0; exact D.canLays ds h
  | .tup ds, h => by unfold D.pure at h; unfold D.toPy PyData.canLay0; exact D.canLays ds h
  | .raw _, h => by unfold D.pure at h; cases h
theorem D.canLays : ∀ ds : List D, D.pures ds = true → PyData.canLayAll0 (D.toPys ds) = true
  | [], _ => by unfold D.toPys PyData.canLayAll0; rfl
  | d :: ds, h => by unfold D.pures at h; rw [Bool.and_eq_true] at h; unfold D.toPys PyData.canLayAll0; rw [D.canLay d h.1, D.canLays ds h.2]; rfl
end
noncomputable def GL (c : Cfg) (x : Str) (v : Option Value) : Prop := c.env.kindOf x = some .globalImplicit ∧ (x == ("__debug__" : Str)) = false ∧ c.mg x = v
noncomputable def GTab (c : Cfg) (T : List (Str × Option Value)) : Prop := ∀ p ∈ T, GL c p.1 p.2
structure Cfg.Is (c : Cfg) (prog : Program) (w : World) (h₁ : Heap) (mg : Str → Option Value) : Prop where
  prog : c.prog = prog
  w : c.w = w
  h : c.h₁ = h₁
  mg : c.mg = mg
theorem GTab.of {c : Cfg} {prog : Program} {w : World} {h₁ : Heap} {mg : Str → Option Value} {sc : Scope} {T : List (Str × Option Value)} (is : c.Is prog w h₁ mg) (hs : c.env.scope = sc)
    (h1 : (T.all fun p => decide (sc.names.lookup p.1 = some .globalImplicit) && !(p.1 == ("__debug__" : Str))) = true) (h2 : ∀ p ∈ T, mg p.1 = p.2) : GTab c T := by
  intro p hp
  have h3 := List.all_eq_true.mp h1 p hp
  rw [Bool.and_eq_true, Bool.not_eq_true'] at h3
  exact ⟨by unfold Env.kindOf; rw [hs]; exact of_decide_eq_true h3.1, h3.2, by rw [is.mg]; exact h2 p hp⟩
section
variable {c : Cfg} {σ σ' : Sig} {E : Value → Shared → Prop} {Φ : AFlow → Sig → Prop} {rest : List Stmt}
theorem W.keep₁ {k g : G} {N : Addr → Prop} {m : Str → Option Value} {h : Heap} (w : W c k N g m σ h) : Keep c.h₁ h := fun b o e => w.kin _ _ (w.base b o e)
theorem W.global (ok : c.Ev) {k g : G} {N : Addr → Prop} {m : Str → Option Value} {s : Shared} {x : Str} {v : Value} {pos : Pos} {Q : Value → Shared → Prop} (w : W c k N g m σ s.heap) (hx : GL c x (some v)) (h : Q v s) : wpAny c.M c.A (eval (.Name x pos) c.env) Q E s :=
  Calls.Name_function_global ok.hk hx.1 (Calls.loadGlobal_global (by rw [ok.hg]; exact ok.st.g.keeps w.keep₁) hx.2.2 h) hx.2.1
theorem W.builtin (ok : c.Ev) {k g : G} {N : Addr → Prop} {m : Str → Option Value} {s : Shared} {x : Str} {v : Value} {pos : Pos} {Q : Value → Shared → Prop} (w : W c k N g m σ s.heap) (hx : GL c x none) (hb : bootBuiltins x = some v) (hn : x ≠ "__name__") (h : Q v s) : wpAny c.M c.A (eval (.Name x pos) c.env) Q E s :=
  Calls.Name_function_global ok.hk hx.1 (Calls.loadGlobal_builtin (by rw [ok.hg]; exact ok.st.g.keeps w.keep₁) hx.2.2 (by rw [ok.hb]; exact ok.st.b.keeps w.keep₁) ((ok.st.bi x hn).trans hb) h) hx.2.1
/-- arguments of a call -/
theorem EVs.args {e : Expr} {es : List Expr} {ds : List D} {f : Value} {pos : Pos} (h : EVs c σ (e :: es) ds) (k : G) (N : Addr → Prop) (g : G) (m : Str → Option Value) (s : Shared) (Q : Args → Shared → Prop) (w : W c k N g m σ s.heap)
    (q : ∀ vs h' g' tk, Keep s.heap h' → W c k N g' m σ h' → Le g g' → Reps g' vs ds → Q ⟨vs, []⟩ { s with heap := h', toks := tk }) : wpAny c.M c.A (evalArgs f true (backTo pos (starEach (e :: es) c.env)) []) Q E s := by
  rw [h.plain]
  have := h.splice k N g m s (fun vs s' => Q ⟨vs, []⟩ s') E w q
  exact Calls.evalArgs_plain this
theorem EVs.noStar {es : List Expr} {ds : List D} {pos : Pos} (h : EVs c σ es ds) : (backTo pos (starEach es c.env)).any (·.1) = false := by
  rw [h.plain]; simp
/-- what a def of the text gives -/
noncomputable def FN (prog : Program) (w : World) (h₁ : Heap) (f : Addr) (n : Nat) (args : List D) (r : D) : Prop :=
  ∀ (A : Around) (s : Shared) (g : G) (vs : List Value) (Q E : Value → Shared → Prop), A.handled = none → A.depth + n < recursionLimit → A.units + 8 * n + 64 < cLine → Keep h₁ s.heap → g.In s.heap → Reps g vs args →
    (∀ v h' g' tk, Keep s.heap h' → g'.In h' → Le g g' → (∀ b, s.heap.get? b ≠ none → g' b = g b) → Rep g' v r → Q v { s with heap := h', toks := tk }) → wpAny (model prog w) A (call (.ref f) vs) Q E s
noncomputable def IsFn (h₁ : Heap) (f : Addr) : Prop := ∃ o fd, h₁.get? f = some o ∧ o.data = .func fd
theorem EV.call {prog : Program} {w : World} {h₁ : Heap} {mg : Str → Option Value} (ok : c.Ev) (is : c.Is prog w h₁ mg) {x : Str} {p pos : Pos} {e : Expr} {es : List Expr} {ds : List D} {f : Addr} {n : Nat} {r : D} (hx : GL c x (some (.ref f))) (hf : IsFn h₁ f) (hs : EVs c σ (e :: es) ds) (hF : FN prog w h₁ f n ds r)
    (hdp : c.A.depth + n < recursionLimit) (hun : c.A.units + 8 * n + 64 < cLine) : EV c σ (.Call (.Name x p) (e :: es) [] pos) r := by
  obtain ⟨rfl, rfl, rfl, rfl⟩ := is
  intro k N g m s Q E w q
  refine wpAny_Call_NameR (W.global ok w hx ?_)
  obtain ⟨o, fd, ho, hfd⟩ := hf
  refine Calls.callWith_function (o := o) (fd := fd) (hs.args k N g m s _ w fun vs h₁ g₁ t₁ k₁ w₁ l₁ r₁ => ⟨⟨w₁.keep₁ _ _ ho, hfd⟩, ?_⟩)
  refine hF c.A _ g₁ vs _ E ok.hh hdp hun w₁.keep₁ w₁.gin r₁ fun v h₂ g₂ t₂ k₂ i₂ l₂ s₂ r₂ => ?_
  exact q v h₂ g₂ t₂ (k₁.trans k₂) (w₁.grow k₂ i₂ l₂ s₂) (l₁.trans l₂) r₂
theorem Rep.isList {g : G} {s : Shared} {v : Value} {ds : List D} (hr : Rep g v (.list ds)) (hg : g.In s.heap) : ∃ a vs, v = .ref a ∧ s.heap.IsList a vs.toArray ∧ Reps g vs ds := by
  cases hr with
  | list h1 h2 h3 h4 => exact ⟨_, _, rfl, ⟨_, hg _ _ h1, h2, _, h3⟩, h4⟩
theorem Rep.isTup {g : G} {s : Shared} {v : Value} {ds : List D} (hr : Rep g v (.tup ds)) (hg : g.In s.heap) : ∃ a vs, v = .ref a ∧ IsTup s.heap a vs.toArray ∧ Reps g vs ds := by
  cases hr with
  | tup h1 h2 h3 h4 => exact ⟨_, _, rfl, ⟨_, hg _ _ h1, h2, _, h3⟩, h4⟩
/-- len of a list -/
theorem EV.len (ok : c.Ev) {p pos : Pos} {e : Expr} {ds : List D} (hx : GL c "len" none) (he : EVs c σ [e] [.list ds]) (hn : ds.length ≤ 16777216) : EV c σ (.Call (.Name "len" p) [e] [] pos) (.int ds.length) := by
  intro k N g m s Q E w q
  refine wpAny_Call_NameR (W.builtin ok w hx (v := .builtin "len") (by decide +kernel) (by decide) ?_)
  refine Calls.callWith_builtin he.noStar (he.args k N g m s _ w fun vs h₁ g₁ t₁ k₁ w₁ l₁ r₁ => ?_)
  cases r₁ with
  | cons r₁ r₂ =>
    cases r₂
    obtain ⟨a, us, rfl, hl, hr⟩ := r₁.isList w₁.gin (s := { s with heap := h₁, toks := t₁ })
    refine Calls.call_len_list hl (by rw [List.size_toArray, hr.length]; omega) ?_
    rw [List.size_toArray, hr.length]
    exact q _ h₁ g₁ _ k₁ w₁ l₁ (.int _ _)
theorem EV.len_str (ok : c.Ev) {p pos : Pos} {e : Expr} {x : Str} (hx : GL c "len" none) (he : EVs c σ [e] [.str x]) (hn : x.length ≤ 16777216) : EV c σ (.Call (.Name "len" p) [e] [] pos) (.int x.length) := by
  intro k N g m s Q E w q
  refine wpAny_Call_NameR (W.builtin ok w hx (v := .builtin "len") (by decide +kernel) (by decide) ?_)
  refine Calls.callWith_builtin he.noStar (he.args k N g m s _ w fun vs h₁ g₁ t₁ k₁ w₁ l₁ r₁ => ?_)
  cases r₁ with
  | cons r₁ r₂ =>
    cases r₂; cases r₁
    exact PySem.P.len_str (by omega) (q _ h₁ g₁ _ k₁ w₁ l₁ (.int _ _))
/-- items -/
noncomputable def idx (i : Int) (n : Nat) : Nat := (if i < 0 then i + n else i).toNat
theorem EV.item {e i : Expr} {pos : Pos} {ds : List D} {j : Int} {d : D} (he : EV c σ e (.list ds)) (hi : EV c σ i (.int j)) (h1 : -(ds.length : Int) ≤ j) (h2 : j < ds.length) (hn : ds.length ≤ 16777216) (hd : ds[idx j ds.length]? = some d)
    (hs : ∀ o k, subscripted i false o k = operate [o, k] (getItem o k)) : EV c σ (.Subscript e i pos) d := by
  intro k N g m s Q E w q
  refine Subscript_ (he k N g m s _ E w fun v₁ h₁ g₁ t₁ k₁ w₁ l₁ r₁ => ?_)
  refine hi k N g₁ m _ _ E w₁ fun v₂ h₂ g₂ t₂ k₂ w₂ l₂ r₂ => ?_
  cases r₂
  obtain ⟨a, us, rfl, hl, hr⟩ := (r₁.mono l₂).isList w₂.gin (s := { s with heap := h₂, toks := t₂ })
  obtain ⟨u, hu, hru⟩ := hr.get hd
  have hq := q u h₂ g₂ t₂ (k₁.trans k₂) w₂ (l₁.trans l₂) hru
  have hsz : us.toArray.size = ds.length := by rw [List.size_toArray, hr.length]
  refine tail_any hl.typeIs slot_list_getitem.lookup ?_ (hs _ _)
  by_cases h0 : j < 0
  · refine wpAny_getItem_list_neg hl h0 (by rw [hsz]; exact h1) (by omega) ?_ hq
    rw [hsz]; simp only [idx, if_pos h0] at hu; simpa using hu
  · refine wpAny_getItem_list hl (by omega) (by omega) ?_ hq
    simp only [idx, if_neg h0] at hu; simpa using hu
theorem EV.item_tup {e i : Expr} {pos : Pos} {ds : List D} {j : Int} {d : D} (he : EV c σ e (.tup ds)) (hi : EV c σ i (.int j)) (h1 : 0 ≤ j) (h2 : j < ds.length) (hn : ds.length ≤ 16777216) (hd : ds[j.toNat]? = some d)
    (hs : ∀ o k, subscripted i false o k = operate [o, k] (getItem o k)) : EV c σ (.Subscript e i pos) d := by
  intro k N g m s Q E w q
  refine Subscript_ (he k N g m s _ E w fun v₁ h₁ g₁ t₁ k₁ w₁ l₁ r₁ => ?_)
  refine hi k N g₁ m _ _ E w₁ fun v₂ h₂ g₂ t₂ k₂ w₂ l₂ r₂ => ?_
  cases r₂
  obtain ⟨a, us, rfl, hl, hr⟩ := (r₁.mono l₂).isTup w₂.gin (s := { s with heap := h₂, toks := t₂ })
  obtain ⟨u, hu, hru⟩ := hr.get hd
  have hq := q u h₂ g₂ t₂ (k₁.trans k₂) w₂ (l₁.trans l₂) hru
  refine item_tupleT (j := j.toNat) hl (by omega) (by omega) ?_ hu hq (hs _ _)
  rw [hr.length]; unfold seqIndex?
  have : ¬ j < 0 := by omega
  simp [this]; omega
/-- equality of data -/
theorem OP2.eq_data (ok : c.Ev) {d₁ d₂ : D} (h1 : d₁.pure = true) (h2 : d₂.pure = true) (hd : min d₁.toPy.depth d₂.toPy.depth ≤ 64) : OP2 c (compareOp .Eq) d₁ d₂ (.bool (PyData.eqv d₁.toPy d₂.toPy)) := .of fun s g v₁ v₂ Q E hg r1 r2 q => by
  obtain ⟨as, ra⟩ := r1.reads hg h1
  obtain ⟨bs, rb⟩ := r2.reads hg h2
  exact SeqAt.compareEq_reads ra rb (d₁.canLay h1) (d₂.canLay h2) (by have := ok.un; omega) (q _ s.toks (.bool _))
theorem OP2.ne_data (ok : c.Ev) {d₁ d₂ : D} (h1 : d₁.pure = true) (h2 : d₂.pure = true) (hd : min d₁.toPy.depth d₂.toPy.depth ≤ 64) : OP2 c (compareOp .NotEq) d₁ d₂ (.bool (!PyData.eqv d₁.toPy d₂.toPy)) := .of fun s g v₁ v₂ Q E hg r1 r2 q => by
  obtain ⟨as, ra⟩ := r1.reads hg h1
  obtain ⟨bs, rb⟩ := r2.reads hg h2
  exact SeqAt.compareNe_reads ra rb (d₁.canLay h1) (d₂.canLay h2) (by have := ok.un; omega) (q _ s.toks (.bool _))
theorem pures_strs : ∀ xs : List Str, (∀ x ∈ xs, PyData.strOk x = true) → D.pures (xs.map .str) = true
  | [], _ => rfl
  | x :: xs, h => by simp only [List.map_cons, D.pures, D.pure, pures_strs xs fun y hy => h y (.tail _ hy), h x (.head _)]; rfl
theorem pures_ints : ∀ xs : List Int, D.pures (xs.map .int) = true
  | [] => rfl
  | x :: xs => by simp only [List.map_cons, D.pures, D.pure, pures_ints xs]; rfl
theorem toPys_strs : ∀ xs : List Str, D.toPys (xs.map .str) = xs.map .str
  | [] => rfl
  | x :: xs => by simp only [List.map_cons, D.toPys, D.toPy, toPys_strs xs]
theorem toPys_ints : ∀ xs : List Int, D.toPys (xs.map .int) = xs.map .int
  | [] => rfl
  | x :: xs => by simp only [List.map_cons, D.toPys, D.toPy, toPys_ints xs]
theorem depthAll_scalar {α : Type} (f : α → PyData) (hf : ∀ a, (f a).depth = 0) : ∀ xs : List α, PyData.depthAll (xs.map f) = 0
  | [] => by simp [PyData.depthAll]
  | x :: xs => by simp only [List.map_cons, PyData.depthAll, hf, depthAll_scalar f hf xs]; rfl
/-- a list compared with [] -/
theorem OP2.eq_nil (ok : c.Ev) {ds : List D} : OP2 c (compareOp .Eq) (.list ds) (.list []) (.bool ds.isEmpty) := .of fun s g v₁ v₂ Q E hg r1 r2 q => by
  obtain ⟨a, us, rfl, hl, hr⟩ := r1.isList hg (s := s)
  obtain ⟨b, ws, rfl, hl', hr'⟩ := r2.isList hg (s := s)
  cases hr'
  have hu : c.A.units < cLine := by have := ok.un; omega
  have hq := q (.bool ds.isEmpty) s.toks (.bool _)
  cases hr with
  | nil => exact SeqAt.RcAt.lists (e := fun _ => true) hl hl' rfl hu (fun j h => absurd h (Nat.not_lt_zero _)) c.prog c.w E Q (by simpa using hq)
  | cons _ _ => exact SeqAt.RcAt.lists_lengths hl hl' (by simp) hu c.prog c.w E Q hq
theorem OP2.ne_nil (ok : c.Ev) {ds : List D} : OP2 c (compareOp .NotEq) (.list ds) (.list []) (.bool (!ds.isEmpty)) := .of fun s g v₁ v₂ Q E hg r1 r2 q => by
  obtain ⟨a, us, rfl, hl, hr⟩ := r1.isList hg (s := s)
  obtain ⟨b, ws, rfl, hl', hr'⟩ := r2.isList hg (s := s)
  cases hr'
  have hu : c.A.units < cLine := by have := ok.un; omega
  have hq := q (.bool (!ds.isEmpty)) s.toks (.bool _)
  cases hr with
  | nil => exact SeqAt.RcNeAt.lists (e := fun _ => true) hl hl' rfl hu (fun j h => absurd h (Nat.not_lt_zero _)) c.prog c.w E Q (by simpa using hq)
  | cons _ _ => exact SeqAt.RcNeAt.lists_lengths hl hl' (by simp) hu c.prog c.w E Q hq
theorem Reps.strs {g : G} : ∀ {vs : List Value} {xs : List Str}, Reps g vs (xs.map .str) → StrsAre vs xs
  | _, [], .nil => .nil
  | _, x :: xs, .cons h1 h2 => by cases h1; exact .cons _ _ (Reps.strs h2)
/-- in -/
theorem OP2.in_strs {x : Str} {ys : List Str} : OP2 c (compareOp .In) (.str x) (.list (ys.map .str)) (.bool (ys.any (· == x))) := .of fun s g v₁ v₂ Q E hg r1 r2 q => by
  cases r1
  obtain ⟨a, us, rfl, hl, hr⟩ := r2.isList hg (s := s)
  exact in_list_strs hl hr.strs (q _ s.toks (.bool _))
theorem OP2.in_tup_strs {x : Str} {ys : List Str} : OP2 c (compareOp .In) (.str x) (.tup (ys.map .str)) (.bool (ys.any (· == x))) := .of fun s g v₁ v₂ Q E hg r1 r2 q => by
  cases r1
  obtain ⟨a, us, rfl, hl, hr⟩ := r2.isTup hg (s := s)
  exact in_tuple_strs hl (by simpa using hr.strs) (q _ s.toks (.bool _))
end
end Mine
namespace Mine
section
variable {c : Cfg} {σ σ' : Sig} {E : Value → Shared → Prop} {Φ : AFlow → Sig → Prop} {rest : List Stmt}
/-- something that a for goes over -/
noncomputable def IT (c : Cfg) (σ : Sig) (iter : Expr) (ds : List D) : Prop :=
  ∀ (k : G) (N : Addr → Prop) (g : G) (m : Str → Option Value) (s : Shared) (Q E : Value → Shared → Prop), W c k N g m σ s.heap →
    (∀ I fp n P St h' g' tk, Keep s.heap h' → W c k N g' m σ h' → Le g g' → Walks c.prog c.w c.A I fp [I] n P St → St 0 h' → h'.get? I ≠ none → s.heap.get? I = none → g' I = none → (∀ b ∈ fp, b = I ∨ g' b ≠ none) → n = ds.length →
      (∀ i v d, P i v → ds[i]? = some d → Rep g' v d) → (∀ i h, St i h → h.get? I ≠ none) → Q (.ref I) { s with heap := h', toks := tk }) →
    wpAny c.M c.A (eval iter c.env) (fun x s₁ => wpAny c.M c.A (pyIter x) Q E s₁) E s
theorem IT.list (ok : c.Ev) {e : Expr} {ds : List D} (he : EV c σ e (.list ds)) : IT c σ e ds := by
  intro k N g m s Q E w q
  refine he k N g m s _ E w fun v h₁ g₁ t₁ k₁ w₁ l₁ r₁ => ?_
  cases r₁ with
  | @list a o vs n _ h1 h2 h3 h4 =>
    have hl : h₁.IsList a vs.toArray := ⟨_, w₁.gin _ _ h1, h2, _, h3⟩
    refine wpAny_pyIter_list hl ?_
    have hsz := Heap.get?_none_of_le (h := h₁) (Nat.le_refl _)
    have hne : a ≠ h₁.objs.size := Nat.ne_of_lt (Heap.lt_size (w₁.gin _ _ h1))
    have hI : (h₁.push { cls := .type "list_iterator", data := .fields #[.ref a, .int 0 0] }).get? h₁.objs.size = some { cls := .type "list_iterator", data := .fields #[.ref a, .int 0 0] } := Heap.get?_push_size _ rfl
    refine q h₁.objs.size _ _ _ _ _ g₁ t₁ (k₁.trans (Keep.push _ _)) (w₁.keep (Keep.push _ _)) l₁ (Walks.list ok.hh h₁.objs.size a hne vs.toArray) ⟨⟨_, hI, rfl, rfl⟩, hl.push _⟩ (by rw [hI]; exact fun e => nomatch e) ?_ w₁.gin.none_size ?_ (by simp [h4.length]) ?_ ?_
    · cases e : s.heap.get? h₁.objs.size with
      | none => rfl
      | some o => rw [k₁ _ _ e] at hsz; cases hsz
    · intro b hb
      rcases List.mem_cons.mp hb with rfl | hb
      · exact .inl rfl
      · rw [List.mem_singleton.mp hb, h1]; exact .inr fun e => nomatch e
    · intro i v d hP hd
      obtain ⟨u, hu, hr⟩ := h4.get hd
      have : vs[i]? = some v := by simpa using hP
      rw [hu] at this; cases this; exact hr
    · intro i h ⟨⟨o, e, _⟩, _⟩; rw [e]; exact fun e => nomatch e
theorem IT.tuple (ok : c.Ev) {e : Expr} {ds : List D} (he : EV c σ e (.tup ds)) : IT c σ e ds := by
  intro k N g m s Q E w q
  refine he k N g m s _ E w fun v h₁ g₁ t₁ k₁ w₁ l₁ r₁ => ?_
  cases r₁ with
  | @tup a o vs n _ h1 h2 h3 h4 =>
    have hl : h₁.IsTuple a vs.toArray := ⟨_, w₁.gin _ _ h1, h2, _, h3⟩
    refine wpAny_pyIter_tuple hl ?_
    have hsz := Heap.get?_none_of_le (h := h₁) (Nat.le_refl _)
    have hne : a ≠ h₁.objs.size := Nat.ne_of_lt (Heap.lt_size (w₁.gin _ _ h1))
    have hI : (h₁.push { cls := .type "tuple_iterator", data := .fields #[.ref a, .int 0 0] }).get? h₁.objs.size = some { cls := .type "tuple_iterator", data := .fields #[.ref a, .int 0 0] } := Heap.get?_push_size _ rfl
    refine q h₁.objs.size _ _ _ _ _ g₁ t₁ (k₁.trans (Keep.push _ _)) (w₁.keep (Keep.push _ _)) l₁ (Walks.tuple ok.hh h₁.objs.size a hne vs.toArray) ⟨⟨_, hI, rfl, rfl⟩, ⟨_, Keep.push _ _ _ _ (w₁.gin _ _ h1), h2, _, h3⟩⟩ (by rw [hI]; exact fun e => nomatch e) ?_ w₁.gin.none_size ?_ (by simp [h4.length]) ?_ ?_
    · cases e : s.heap.get? h₁.objs.size with
      | none => rfl
      | some o => rw [k₁ _ _ e] at hsz; cases hsz
    · intro b hb
      rcases List.mem_cons.mp hb with rfl | hb
      · exact .inl rfl
      · rw [List.mem_singleton.mp hb, h1]; exact .inr fun e => nomatch e
    · intro i v d hP hd
      obtain ⟨u, hu, hr⟩ := h4.get hd
      have : vs[i]? = some v := by simpa using hP
      rw [hu] at this; cases this; exact hr
    · intro i h ⟨⟨o, e, _⟩, _⟩; rw [e]; exact fun e => nomatch e
noncomputable def upto (n : Nat) : List D := (List.range n).map fun (i : Nat) => .int (i : Int)
theorem IT.range (ok : c.Ev) {p pos : Pos} {e : Expr} {n : Nat} (hx : GL c "range" none) (he : EVs c σ [e] [.int n]) (hn : n ≤ 16777216) : IT c σ (.Call (.Name "range" p) [e] [] pos) (upto n) := by
  intro k N g m s Q E w q
  refine wpAny_Call_NameR (W.builtin ok w hx (v := .type "range") (by decide +kernel) (by decide) ?_)
  refine PySem.callWith_type he.noStar (he.args k N g m s _ w fun vs h₁ g₁ t₁ k₁ w₁ l₁ r₁ => ?_)
  cases r₁ with
  | cons r₁ r₂ =>
    cases r₂; cases r₁; rename_i tn
    refine call_range_1 ?_
    have hR : IsRange (h₁.push { cls := .type "range", data := .fields #[.int 0 t₁, .int n tn, .int 1 (t₁ + 1)] }) h₁.objs.size 0 n 1 t₁ tn (t₁ + 1) := Heap.get?_push_size _ rfl
    have hsize : Builtin.Range.rangeSize 0 (n : Int) 1 = n := by
      unfold Builtin.Range.rangeSize; simp; omega
    have hsmall : Builtin.Range.small 0 (n : Int) 1 = true := by
      unfold Builtin.Range.small
      rw [hsize]
      simp [Builtin.Range.rangeFitsLong]; omega
    refine wpAny_pyIter_range hR hsmall ?_
    dsimp only
    rw [hsize]
    generalize hh₂ : (h₁.push { cls := .type "range", data := .fields #[.int 0 t₁, .int n tn, .int 1 (t₁ + 1)] }) = h₂
    have k₂ : Keep h₁ h₂ := hh₂ ▸ Keep.push _ _
    have w₂ := w₁.keep k₂
    have hsz := Heap.get?_none_of_le (h := h₂) (Nat.le_refl _)
    have hI : (h₂.push { cls := .type "range_iterator", data := .fields #[rawInt 0, rawInt n, rawInt 1] }).get? h₂.objs.size = some { cls := .type "range_iterator", data := .fields #[rawInt 0, rawInt n, rawInt 1] } := Heap.get?_push_size _ rfl
    refine q h₂.objs.size _ _ _ _ _ g₁ _ (k₁.trans (k₂.trans (Keep.push _ _))) (w₂.keep (Keep.push _ _)) l₁ (Walks.range ok.hh h₂.objs.size 0 1 n) ?_ (by rw [hI]; exact fun e => nomatch e) ?_ w₂.gin.none_size ?_ (by simp [upto]) ?_ ?_
    · simpa using hI
    · cases e : s.heap.get? h₂.objs.size with
      | none => rfl
      | some o => rw [k₂ _ _ (k₁ _ _ e)] at hsz; cases hsz
    · intro b hb; exact .inl (List.mem_singleton.mp hb)
    · intro i v d ⟨t, hv⟩ hd
      subst hv
      simp only [upto, List.getElem?_map, Option.map_eq_some_iff] at hd
      obtain ⟨j, hj, rfl⟩ := hd
      have : j = i := by
        rw [List.getElem?_range (by have := List.getElem?_eq_some_iff.mp hj; obtain ⟨h, _⟩ := this; simpa using h)] at hj
        exact (Option.some.inj hj).symm
      subst this
      simpa using Rep.int _ _
    · intro i h e; rw [show h.get? _ = _ from e]; exact fun e => nomatch e
/-- the frame of a loop: all data stay, I stays out of the data -/
theorem W.into {k g : G} {N : Addr → Prop} {m : Str → Option Value} {h : Heap} {I : Addr} {o : Obj} (w : W c k N g m σ h) (hI : h.get? I = some o) (hgI : g I = none) (hkI : k I = none) (hIL : I ∉ c.fp) (hIo : ∀ x v, (x, v) ∈ σ → v.free = true → m x ≠ some (.ref I)) :
    W c ((k.or g).add I o) (fun b => N b ∨ b = I) g m σ h := by
  have hk : Le k ((k.or g).add I o) := (Le.or_left k g).trans (Le.add (G.or_none hkI hgI))
  have hne : ∀ b, k b ≠ none → ((k.or g).add I o) b ≠ none := fun b hb => by
    cases q : k b with
    | none => exact absurd q hb
    | some p => rw [hk _ _ q]; exact fun e => nomatch e
  refine { w with base := fun b o e => hk _ _ (w.base b o e), kin := (w.kin.or w.gin).add hI, fpk := fun p hp => ⟨?_, (w.fpk p hp).2⟩, nN := fun b hb => ?_, cel := fun x p h => (w.cel x p h).imp id (hne p), loc := fun x v hm => ?_ }
  · rw [G.add_ne (fun (e : p = I) => hIL (e ▸ hp))]; exact G.or_none (w.fpk p hp).1 (w.fpk p hp).2
  · rcases hb with hb | rfl
    · exact ⟨hne b (w.nN b hb).1, (w.nN b hb).2⟩
    · refine ⟨?_, hgI⟩; rw [G.add_self]; exact fun e => nomatch e
  · have hv := w.loc x v hm
    cases v with
    | un => trivial
    | val d => exact hv
    | own ds =>
      obtain ⟨a, vs, n, h1, h2, h3, h4, h5, h6⟩ := hv
      exact ⟨a, vs, n, h1, h2, h3, by rw [G.add_ne (fun (q : a = I) => hIo x _ hm rfl (q ▸ h1))]; exact G.or_none h4 h5, h5, h6⟩
    | it a ds =>
      obtain ⟨h1, h2, h3, h4, h5⟩ := hv
      exact ⟨h1, h2, by rw [G.add_ne (fun (q : a = I) => hIo x _ hm rfl (q ▸ h1))]; exact G.or_none h3 h4, h4, h5⟩
theorem G.none_of_le {k k' : G} (hl : Le k k') {b : Addr} (e : k' b = none) : k b = none := by
  cases q : k b with
  | none => rfl
  | some o => rw [hl _ _ q] at e; cases e
theorem W.out {k k' g g₁ : G} {N N' : Addr → Prop} {m : Str → Option Value} {h : Heap} (w : W c k' N' g m σ h) (hb : ∀ b o, c.h₁.get? b = some o → k b = some o) (hl : Le k k') (hg : Le g₁ k') (hN : ∀ b, N b → N' b) (hNk : ∀ b, N b → k b ≠ none ∧ g₁ b = none)
    (hcel : ∀ x p, c.env.cells.lookup x = some p → p ∈ c.fp ∨ k p ≠ none) :
    W c k N (g.or g₁) m σ h ∧ Le g₁ (g.or g₁) ∧ Le g (g.or g₁) := by
  have hin : g₁.In h := fun b o e => w.kin b o (hg _ _ e)
  refine ⟨{ w with base := hb, kin := fun b o e => w.kin b o (hl _ _ e), gin := w.gin.or hin, fpk := fun p hp => ⟨G.none_of_le hl (w.fpk p hp).1, G.or_none (w.fpk p hp).2 (G.none_of_le hg (w.fpk p hp).1)⟩, nN := fun b hb => ⟨(hNk b hb).1, G.or_none (w.nN b (hN b hb)).2 (hNk b hb).2⟩, cel := hcel, loc := fun x v hm => ?_ }, Le.or_right w.gin hin, Le.or_left _ _⟩
  have hv := w.loc x v hm
  cases v with
  | un => trivial
  | val d => obtain ⟨u, h1, h2⟩ := hv; exact ⟨u, h1, h2.mono (Le.or_left _ _)⟩
  | own ds => obtain ⟨a, vs, n, h1, h2, h3, h4, h5, h6⟩ := hv; exact ⟨a, vs, n, h1, h2, h3.mono (Le.or_left _ _), G.none_of_le hl h4, G.or_none h5 (G.none_of_le hg h4), h6⟩
  | it a ds => obtain ⟨h1, h2, h3, h4, h5⟩ := hv; exact ⟨h1, h2.mono (Le.or_left _ _), G.none_of_le hl h3, G.or_none h4 (G.none_of_le hg h3), h5⟩
/-- what a turn of a loop must end in -/
noncomputable def turnT (c : Cfg) (E : Value → Shared → Prop) (rest : List Stmt) (Φ : AFlow → Sig → Prop) (J : Sig → Prop) : AFlow → Sig → Prop
  | .next, σ | .cont, σ => J σ
  | .brk, σ => SX c E σ rest Φ
  | .ret d, σ => Φ (.ret d) σ
theorem W.free_ne {k g : G} {N : Addr → Prop} {m : Str → Option Value} {h : Heap} {x : Str} {v : AV} {a : Addr} (w : W c k N g m σ h) (hm : (x, v) ∈ σ) (hf : v.free = true) (hx : m x = some (.ref a)) : h.get? a ≠ none ∧ k a = none ∧ g a = none := by
  have hv := w.loc x v hm
  cases v with
  | un => cases hf
  | val d => cases hf
  | own ds => obtain ⟨a', _, _, h1, h2, _, h4, h5, _⟩ := hv; rw [hx] at h1; cases h1; refine ⟨?_, h4, h5⟩; rw [h2]; exact fun e => nomatch e
  | it a' ds => obtain ⟨h1, h2, h3, h4, h5⟩ := hv; rw [hx] at h1; cases h1; exact ⟨h2.live, h3, h4⟩
theorem SX.forIn (ok : c.Ok) {x : Str} {px pos : Pos} {iter : Expr} {body : List Stmt} {ds : List D} (J : Nat → Sig → Prop) (hi : IT c σ iter ds) (h0 : J 0 σ)
    (turn : ∀ i d σ₁, ds[i]? = some d → J i σ₁ → ∃ σ₂, Upd σ₁ x (.val d) σ₂ ∧ SX c (fun _ _ => False) σ₂ body (turnT c E rest Φ (J (i + 1))))
    (done : ∀ σ₁, J ds.length σ₁ → SX c E σ₁ rest Φ) (hs : ∀ v, foldedSetIterable iter c.env v = pure v) : SX c E σ (.For (.Name x px) iter body [] pos :: rest) Φ := by
  refine SX.step fun k N g m s w => wpAny_For (hi k N g m s _ E w fun I fp n P St h₁ g₁ t₁ k₁ w₁ l₁ Wk st₁ hI hIn hgI hfp hlen hP hlive => ?_) hs
  subst hlen
  have hIk : k I = none := by
    cases q : k I with
    | none => rfl
    | some o => rw [w.kin _ _ q] at hIn; cases hIn
  have hIL : I ∉ c.fp := fun e => w.fpl I e hIn
  refine codeAny_forLoop
    (fun n s' => ∃ h' tk g' m' σ' i, s' = { s with heap := h', toks := tk } ∧ W c k N g' m' σ' h' ∧ Le g₁ g' ∧ St i h' ∧ J i σ' ∧ i ≤ ds.length ∧ n = ds.length + 1 - i ∧ g' I = none ∧ (∀ x v, (x, v) ∈ σ' → v.free = true → m' x ≠ some (.ref I)))
    ?_ (ds.length + 1) ⟨h₁, t₁, g₁, m, σ, 0, rfl, w₁, Le.refl _, st₁, h0, Nat.zero_le _, rfl, hgI, ?_⟩
  · rintro n s' ⟨h', tk, g', m', σ', i, rfl, w', l', st', hJ, hle, rfl, hgI', hIo⟩
    have step : ∀ {h₂ : Heap}, (∀ b o, b ∉ [I] → h'.get? b = some o → h₂.get? b = some o) → W c k N g' m' σ' h₂ := by
      intro h₂ hk₂
      have hsame : ∀ b o, b ≠ I → h'.get? b = some o → h₂.get? b = some o := fun b o hb e => hk₂ b o (fun q => hb (List.mem_singleton.mp q)) e
      have hne : ∀ p, h'.get? p ≠ none → p ≠ I → h₂.get? p ≠ none := fun p hp hpa => by
        obtain ⟨o, e⟩ := Option.ne_none_iff_exists'.mp hp
        rw [hsame p o hpa e]; exact fun e => nomatch e
      refine { w' with kin := fun b o e => hsame b o (fun q => by rw [q, hIk] at e; cases e) (w'.kin b o e), gin := fun b o e => hsame b o (fun q => by rw [q, hgI'] at e; cases e) (w'.gin b o e), fpl := fun p hp => hne p (w'.fpl p hp) (fun e => hIL (e ▸ hp)), fr := ⟨?_, fun y p h1 h2 => ?_⟩, loc := fun x v hm => ?_ }
      · obtain ⟨m₀, h1, h2⟩ := w'.fr.ns
        exact ⟨m₀, h1.extBut (fun b o hb e => hsame b o hb e) (fun e => hIL (e ▸ w'.Lfp)), h2⟩
      · obtain ⟨o, e1, e2⟩ := w'.fr.cl y p h1 h2
        refine ⟨o, hsame p o (fun q => ?_) e1, e2⟩
        subst q
        rcases w'.cel y p h2 with q | q
        · exact hIL q
        · exact q hIk
      · have hv := w'.loc x v hm
        cases v with
        | un => trivial
        | val d => exact hv
        | own ds => obtain ⟨a, vs, n, h1, h2, r⟩ := hv; exact ⟨a, vs, n, h1, hsame a _ (fun q => hIo x _ hm rfl (q ▸ h1)) h2, r⟩
        | it a ds => obtain ⟨h1, h2, r⟩ := hv; exact ⟨h1, h2.at' fun o e => hsame a _ (fun q => hIo x _ hm rfl (q ▸ h1)) e, r⟩
    by_cases hlt : i < ds.length
    · refine Wk.item i _ _ _ hlt st' fun v h₂ tk₂ hPv st₂ hk₂ => ?_
      have hd : ds[i]? = some ds[i] := by simp [hlt]
      have w₂ := step hk₂
      obtain ⟨σ₂, hu, hbody⟩ := turn i ds[i] σ' hd hJ
      refine wpAny_assign_Name (W.store (v := .val ds[i]) (σ' := σ₂) ok w₂ hu (fun _ _ => ⟨v, if_pos rfl, (hP i v _ hPv hd).mono l'⟩) (fun e => nomatch e) fun h₃ tk₃ off w₃ => ?_)
      have hI₃ : ∀ y u, (y, u) ∈ σ₂ → u.free = true → (fun y => if y = x then some v else m' y) y ≠ some (Value.ref I) := by
        intro y u hm hf
        rcases hu.mem w₂.nod hm with ⟨rfl, rfl⟩ | ⟨n1, m1⟩
        · cases hf
        · dsimp only; rw [if_neg n1]; exact hIo y u m1 hf
      have hg₁L : ∀ b ∈ fp, b ∉ c.fp := by
        intro b hb e
        rcases hfp b hb with q | q
        · exact hIL (q ▸ e)
        · exact q (G.none_of_le l' (w'.fpk b e).2)
      have st₃ : St (i + 1) h₃ := Wk.frame _ _ _ st₂ fun b hb o e => (off b (hg₁L b hb)).trans e
      obtain ⟨oI, hoI⟩ := Option.ne_none_iff_exists'.mp (hlive _ _ st₃)
      have w₄ := w₃.into hoI hgI' hIk hIL hI₃
      refine wpAny_mono (hbody _ _ g' _ _ w₄) (fun f s₃ hf => ?_) fun _ _ e => e.elim
      obtain ⟨h₅, tk₅, g₅, m₅, σ₅, af, rfl, w₅, fl, hΦ⟩ := hf
      have hlk : Le k ((k.or g').add I oI) := (Le.or_left k g').trans (Le.add (G.or_none hIk hgI'))
      have hlg : Le g' ((k.or g').add I oI) := (Le.or_right w'.kin w'.gin).trans (Le.add (G.or_none hIk hgI'))
      obtain ⟨w₆, l₆, l₇⟩ := w₅.out (k := k) (N := N) (g₁ := g') w.base hlk hlg (fun b hb => .inl hb) (fun b hb => ⟨(w.nN b hb).1, (w'.nN b hb).2⟩) w.cel
      have hI₅ : g₅ I = none := (w₅.nN I (.inr rfl)).2
      have hI₆ : (g₅.or g') I = none := G.or_none hI₅ hgI'
      have st₅ : St (i + 1) h₅ := Wk.frame _ _ _ st₃ fun b hb o e => by
        rcases hfp b hb with rfl | q
        · rw [hoI] at e; cases e; exact w₅.kin _ _ (G.add_self _ _ _)
        · obtain ⟨p, hp⟩ := Option.ne_none_iff_exists'.mp q
          have h1 := w₅.kin _ _ (hlg _ _ (l' _ _ hp))
          have h2 := w₃.gin _ _ (l' _ _ hp)
          rw [h2] at e; cases e; exact h1
      have hI₇ : ∀ x v, (x, v) ∈ σ₅ → v.free = true → m₅ x ≠ some (Value.ref I) := fun y u hm hf hx => by
        have := (w₅.free_ne hm hf hx).2.1
        rw [G.add_self] at this; cases this
      have inv : J (i + 1) σ₅ → ∃ n', n' < ds.length + 1 - i ∧ ∃ h' tk g' m' σ' i, ({ s with heap := h₅, toks := tk₅ } : Shared) = { s with heap := h', toks := tk } ∧ W c k N g' m' σ' h' ∧ Le g₁ g' ∧ St i h' ∧ J i σ' ∧ i ≤ ds.length ∧ n' = ds.length + 1 - i ∧ g' I = none ∧ (∀ x v, (x, v) ∈ σ' → v.free = true → m' x ≠ some (.ref I)) :=
        fun hJ' => ⟨ds.length + 1 - (i + 1), by omega, h₅, tk₅, g₅.or g', m₅, σ₅, i + 1, rfl, w₆, l'.trans l₆, st₅, hJ', by omega, rfl, hI₆, hI₇⟩
      cases fl with
      | next => exact inv hΦ
      | cont => exact inv hΦ
      | brk => exact ⟨h₅, tk₅, _, m₅, σ₅, .next, rfl, w₆, .next, hΦ⟩
      | ret hr => exact ⟨h₅, tk₅, _, m₅, σ₅, _, rfl, w₆, .ret (hr.mono l₇), hΦ⟩
    · have hie : i = ds.length := by omega
      subst hie
      refine Wk.done _ _ _ st' fun h₂ tk₂ hk₂ => ?_
      exact wpAny_execs_nil ⟨h₂, tk₂, g', m', σ', .next, rfl, step hk₂, .next, done σ' hJ⟩
  · intro x v hm hf hx; exact (w.free_ne hm hf hx).1 hIn
end
end Mine
namespace Mine
section
variable {c : Cfg} {σ σ' : Sig} {E : Value → Shared → Prop} {Φ : AFlow → Sig → Prop} {rest : List Stmt}
theorem SX.while {test : Expr} {body : List Stmt} {pos : Pos} (hE : PassesOwn c.M c.A c.env E) (J : Nat → Sig → Prop) (n : Nat) (h0 : J n σ)
    (turn : ∀ n σ₁, J n σ₁ → ∃ b σ₂, EXB c σ₁ test b σ₂ ∧ (b = true → SX c E σ₂ body (turnT c E rest Φ fun σ₃ => ∃ n', n' < n ∧ J n' σ₃)) ∧ (b = false → SX c E σ₂ rest Φ)) : SX c E σ (.While test body [] pos :: rest) Φ := by
  refine SX.step fun k N g m s w => wpAny_While ?_
  refine codeAny_whileLoop (fun n s' => ∃ h' tk g' m' σ', s' = { s with heap := h', toks := tk } ∧ W c k N g' m' σ' h' ∧ J n σ') ?_ n ⟨s.heap, s.toks, g, m, σ, rfl, w, h0⟩
  rintro n s' ⟨h', tk, g', m', σ', rfl, w', hJ⟩
  obtain ⟨b, σ₂, ht, h1, h2⟩ := turn n σ' hJ
  refine ht k N g' m' _ _ _ w' fun h₁ g₁ t₁ w₁ l₁ => ?_
  cases b with
  | true =>
    rw [if_pos rfl]
    refine wpAny_passesOwn hE (wpAny_mono (h1 rfl k N g₁ m' _ w₁) (fun f s₃ hf => ?_) fun _ _ e => e)
    obtain ⟨h₅, tk₅, g₅, m₅, σ₅, af, rfl, w₅, fl, hΦ⟩ := hf
    cases fl with
    | next => obtain ⟨n', hn, hJ'⟩ := hΦ; exact ⟨n', hn, h₅, tk₅, g₅, m₅, σ₅, rfl, w₅, hJ'⟩
    | cont => obtain ⟨n', hn, hJ'⟩ := hΦ; exact ⟨n', hn, h₅, tk₅, g₅, m₅, σ₅, rfl, w₅, hJ'⟩
    | brk => exact ⟨h₅, tk₅, g₅, m₅, σ₅, .next, rfl, w₅, .next, hΦ⟩
    | ret hr => exact ⟨h₅, tk₅, g₅, m₅, σ₅, _, rfl, w₅, .ret hr, hΦ⟩
  | false =>
    rw [if_neg Bool.false_ne_true]
    exact wpAny_execs_nil ⟨h₁, t₁, g₁, m', σ₂, .next, rfl, w₁, .next, h2 rfl⟩
/-- slices -/
noncomputable def cut {α : Type} (lo hi : Option Int) (ds : List α) : List α := (ds.drop (lo.elim 0 (clipAt ds.length))).take (hi.elim ds.length (clipAt ds.length) - lo.elim 0 (clipAt ds.length))
inductive EVo (c : Cfg) (σ : Sig) : Option Expr → Option Int → Prop where
  | none : EVo c σ none none
  | some {e : Expr} {i : Int} : EV c σ e (.int i) → EVo c σ (some e) (some i)
theorem EVo.run {e : Option Expr} {i : Option Int} (h : EVo c σ e i) (k : G) (N : Addr → Prop) (g : G) (m : Str → Option Value) (s : Shared) (Q : Value → Shared → Prop) (w : W c k N g m σ s.heap)
    (q : ∀ v h' g' tk, Keep s.heap h' → W c k N g' m σ h' → Le g g' → IsPart v i → Q v { s with heap := h', toks := tk }) : wpAny c.M c.A (evalPart e c.env) Q E s := by
  cases h with
  | none => exact wpAny_pure (q .none s.heap g s.toks (Keep.refl _) w (Le.refl _) .none)
  | some he => exact he k N g m s Q E w fun v h₁ g₁ t₁ k₁ w₁ l₁ r₁ => by cases r₁; exact q _ h₁ g₁ t₁ k₁ w₁ l₁ (.int _ _)
theorem Reps.cut {g : G} {vs : List Value} {ds : List D} (h : Reps g vs ds) (lo hi : Option Int) : Reps g (cut lo hi vs) (cut lo hi ds) := by
  unfold Mine.cut; rw [h.length]; exact (h.drop _).take _
theorem EV.slice {e : Expr} {lo hi : Option Expr} {i j : Option Int} {ds : List D} {p pos : Pos} (he : EV c σ e (.list ds)) (hl : EVo c σ lo i) (hh : EVo c σ hi j) (hn : ds.length ≤ 16777216) (ht : ∀ o r, letTemporaryGo e o r = pure ()) :
    EV c σ (.Subscript e (.Slice lo hi none p) pos) (.list (cut i j ds)) := by
  intro k N g m s Q E w q
  refine wpAny_Subscript_list_slice (he k N g m s _ E w fun v h₁ g₁ t₁ k₁ w₁ l₁ r₁ => hl.run k N g₁ m _ _ w₁ fun vl h₂ g₂ t₂ k₂ w₂ l₂ p₂ => hh.run k N g₂ m _ _ w₂ fun vu h₃ g₃ t₃ k₃ w₃ l₃ p₃ => ?_) ht
  obtain ⟨a, us, rfl, hll, hr⟩ := (r₁.mono (l₂.trans l₃)).isList w₃.gin (s := { s with heap := h₃, toks := t₃ })
  refine ⟨a, us.toArray, i, j, rfl, hll, by rw [List.size_toArray, hr.length]; exact hn, p₂, p₃, ?_⟩
  dsimp only
  generalize hh₄ : h₃.push { cls := .type "slice", data := .fields #[vl, vu, .none] } = h₄
  have k₄ : Keep h₃ h₄ := hh₄ ▸ Keep.push _ _
  have hsz4 : h₄.objs.size = h₃.objs.size + 1 := by rw [← hh₄]; simp [Heap.push]
  have w₄ := w₃.keep k₄
  have e1 : slicePick us.toArray i j none = (Mine.cut i j us).toArray := by rw [slicePick_plain]; simp [Mine.cut]
  rw [e1, ← hsz4]
  have hsz := Heap.get?_none_of_le (h := h₄) (Nat.le_refl _)
  have ha : (h₄.push (listObj (Mine.cut i j us) 0)).get? h₄.objs.size = some (listObj (Mine.cut i j us) 0) := Heap.get?_push_size _ rfl
  obtain ⟨w₅, l₅⟩ := w₄.add (Keep.push h₄ (listObj (Mine.cut i j us) 0)) hsz ha
  exact q _ _ _ _ (k₁.trans (k₂.trans (k₃.trans (k₄.trans (Keep.push _ _))))) w₅ (l₁.trans (l₂.trans (l₃.trans l₅))) (.list (G.add_self _ _ _) rfl rfl ((hr.cut i j).mono l₅))
/-- a new object of data -/
theorem push_post {g : G} {s : Shared} {o : Obj} {d : D} {Q : Value → Shared → Prop} {tk : Nat} (hg : g.In s.heap) (hf : o.isFreed = false)
    (hr : Rep (g.add s.heap.objs.size o) (.ref s.heap.objs.size) d)
    (q : ∀ v h' g' tk, Keep s.heap h' → g'.In h' → Le g g' → (∀ b, s.heap.get? b ≠ none → g' b = g b) → Rep g' v d → Q v { s with heap := h', toks := tk }) : Q (.ref s.heap.objs.size) { s with heap := s.heap.push o, toks := tk } := by
  refine q _ _ (g.add s.heap.objs.size o) tk (Keep.push _ _) ((hg.keep (Keep.push _ _)).add (Heap.get?_push_size _ hf)) (Le.add hg.none_size) (fun b hb => G.add_ne fun e => hb ?_) hr
  rw [e]; exact Heap.get?_none_of_le (Nat.le_refl _)
/-- list + list -/
theorem OP2.add_list {ds es : List D} (hn : ds.length + es.length ≤ 16777216) : OP2 c (binaryOp .Add) (.list ds) (.list es) (.list (ds ++ es)) := by
  intro g s v₁ v₂ Q E hg r1 r2 q
  obtain ⟨a, vs, rfl, hl, hr⟩ := r1.isList hg (s := s)
  obtain ⟨b, ws, rfl, hl', hr'⟩ := r2.isList hg (s := s)
  obtain ⟨⟨cls, dd, data, sl⟩, ho, hc, n, hd⟩ := id hl
  obtain ⟨⟨cls2, dd2, data2, sl2⟩, ho2, hc2, n2, hd2⟩ := id hl'
  simp only at hc hd hc2 hd2
  subst hc hd hc2 hd2
  have e : vs.toArray ++ ws.toArray = (vs ++ ws).toArray := by simp
  refine concat_meets ⟨_, ho, rfl⟩ ⟨_, ho2, rfl⟩ noFill_list_add seq_list_add PySem.F.slot_list_add PySem.F.entry_list_add (PySem.F.args_list_add_2 _ _) (list_addW a b vs.toArray ws.toArray n n2 dd dd2 sl sl2 (by simp [hr.length, hr'.length]; exact hn)) ⟨ho, ho2, ?_⟩
  rw [e]
  have hle : Le g (g.add s.heap.objs.size (listObj (vs ++ ws) 0)) := Le.add hg.none_size
  exact push_post (o := listObj (vs ++ ws) 0) hg rfl (.list (G.add_self _ _ _) rfl rfl ((hr.append hr').mono hle)) q
/-- a def of the text: from its body to its contract -/
noncomputable def startSig (names : List Str) (params : List Str) (args : List D) : Sig := (params.zip (args.map AV.val)) ++ names.map fun x => (x, .un)
theorem lookup_of_nodup : ∀ {l : List (Str × Value)} {x : Str} {u : Value}, (x, u) ∈ l → (l.map (·.1)).Nodup → l.lookup x = some u
  | [], _, _, h, _ => nomatch h
  | p :: l, x, u, hm, hnd => by
    rw [List.map_cons, List.nodup_cons] at hnd
    rw [List.lookup_cons]
    rcases List.mem_cons.mp hm with rfl | hm
    · simp
    · have : (x == p.1) = false := by
        rw [beq_eq_false_iff_ne]; intro e; exact hnd.1 (e ▸ List.mem_map_of_mem (f := (·.1)) hm)
      rw [this]; exact lookup_of_nodup hm hnd.2
theorem startSig_keys {names params : List Str} {args : List D} (h : params.length = args.length) : (startSig names params args).map (·.1) = params ++ names := by
  simp only [startSig, List.map_append, List.map_map, Function.comp_def, List.map_id']
  rw [List.map_fst_zip (by simp [h])]
theorem startSig_free {names params : List Str} {args : List D} {x : Str} {v : AV} (h : (x, v) ∈ startSig names params args) : v.free = false := by
  rcases List.mem_append.mp h with hm | hm
  · obtain ⟨d, _, rfl⟩ := List.mem_map.mp (List.of_mem_zip hm).2; rfl
  · obtain ⟨y, _, e⟩ := List.mem_map.mp hm; cases e; rfl
theorem startSig_holds {k g : G} {fp : List Addr} {m : Str → Option Value} {h : Heap} {names params : List Str} {args : List D} {vs : List Value} (hr : Reps g vs args) (hm : ∀ x u, (x, u) ∈ params.zip vs → m x = some u) :
    ∀ x v, (x, v) ∈ startSig names params args → Holds k g fp m h x v := by
  intro x v hx
  rcases List.mem_append.mp hx with hx | hx
  · obtain ⟨i, hi⟩ := List.getElem?_of_mem hx
    rw [List.getElem?_zip_eq_some] at hi
    obtain ⟨hx, hv⟩ := hi
    rw [List.getElem?_map, Option.map_eq_some_iff] at hv
    obtain ⟨d, hd', rfl⟩ := hv
    obtain ⟨u, hu', hru⟩ := hr.get hd'
    exact ⟨u, hm x u (List.mem_of_getElem? (i := i) (by rw [List.getElem?_zip_eq_some]; exact ⟨hx, hu'⟩)), hru⟩
  · obtain ⟨y, _, e⟩ := List.mem_map.mp hx
    cases e; trivial
theorem zip_lookup {params : List Str} {vs : List Value} (hn : params.Nodup) (hl : params.length = vs.length) {x : Str} {u : Value} (h : (x, u) ∈ params.zip vs) : (params.zip vs).reverse.lookup x = some u := by
  refine lookup_of_nodup (List.mem_reverse.mpr h) ?_
  rw [List.map_reverse, List.map_fst_zip (by rw [hl]; exact Nat.le_refl _)]
  exact (List.reverse_perm params).nodup_iff.mpr hn
theorem FN.of_body {prog : Program} {w : World} {h₁ : Heap} {mg mb : Str → Option Value} {f : Addr} {n : Nat} {args : List D} {r : D} {o : Obj} {fd : FuncData} {body : List Stmt} {params names : List Str}
    (hst : Stat h₁ mg mb) (ho : h₁.get? f = some o) (hdata : o.data = .func fd) (hcd : h₁.CodeRec fd.code fd.qualname) (hbody : fd.body = .stmts body)
    (hgl : fd.globals = mainGlobals) (hcl : fd.closure = []) (hbl : fd.builtins = builtinsNs)
    (hlen : params.length = args.length)
    (hbind : ∀ (s : Shared) (vs : List Value), vs.length = params.length → BindsTo s fd ⟨vs, []⟩ (params.zip vs))
    (hcell : ∀ x ∈ fd.scope.names, x.2 ≠ .cell) (hloc : ∀ x ∈ params ++ names, fd.scope.names.lookup x = some .local ∧ (x == ("__debug__" : Str)) = false) (hnod : (params ++ names).Nodup)
    (hco : fd.scope.isCoroutine = false) (hgen : fd.scope.isGenerator = false) (hk : fd.scope.kind = .function)
    (hsx : ∀ (c : Cfg), c.Ok → c.Is prog w h₁ mg → c.env.scope = fd.scope → c.A.depth + n < recursionLimit → c.A.units + 8 * n + 64 < cLine → SX c (fun _ _ => False) (startSig names params args) body (fun fl _ => fl = .ret r)) :
    FN prog w h₁ f (n + 1) args r := by
  intro A s g vs Q E hh hd hu hk₁ hg hr q
  refine wpAny_call (codeAny_call_def (fd := fd) (body := body) (binds := params.zip vs) (by omega) (hk₁ _ _ ho) hdata (hst.nolimit.keeps hk₁) (hcd.keeps hk₁) hbody (hbind s vs (by rw [hlen, hr.length])) hcell (fun x hx => (hloc _ (List.mem_append_left _ (List.of_mem_zip hx).1)).1) (fun h₀ hns hk₂ => ?_) hco hgen hk)
  generalize henv : callEnv fd s.heap.objs.size f = env
  have e1 : env.scope = fd.scope := by rw [← henv]; rfl
  have e2 : env.locals = s.heap.objs.size := by rw [← henv]; rfl
  have e3 : env.globals = mainGlobals := by rw [← henv]; exact hgl
  have e4 : env.builtins = builtinsNs := by rw [← henv]; exact hbl
  have e5 : env.cells = [] := by rw [← henv]; exact hcl
  have hL0 : s.heap.get? s.heap.objs.size = none := Heap.get?_none_of_le (Nat.le_refl _)
  have hLl : h₀.get? s.heap.objs.size ≠ none := by obtain ⟨o, _, _, e, _⟩ := hns; rw [e]; exact fun e => nomatch e
  have hkeys := startSig_keys (names := names) hlen
  have hw : W { prog := prog, w := w, A := A.deeper env, h₁ := h₁, mg := mg, mb := mb, env := env, fp := [s.heap.objs.size] } (fun b => s.heap.get? b) (fun b => s.heap.get? b ≠ none ∧ g b = none) g (fun x => (params.zip vs).reverse.lookup x) (startSig names params args) h₀ := by
    refine { base := fun b o e => hk₁ _ _ e, kin := fun b o e => hk₂ _ _ e, gin := fun b o e => hk₂ _ _ (hg _ _ e), fpk := fun p hp => ?_, fpl := fun p hp => ?_, nN := fun b hb => ⟨hb.1, hb.2⟩, fr := ⟨⟨_, e2 ▸ hns, fun _ _ => rfl⟩, fun x p _ h => ?_⟩, cel := fun x p h => ?_, Lfp := by show env.locals ∈ _; rw [e2]; exact .head _, nod := by rw [hkeys]; exact hnod, lcl := ?_, loc := startSig_holds hr fun x u hm => zip_lookup (List.nodup_append.mp hnod).1 (by rw [hlen, ← hr.length]) hm, sep := fun x u y v a hx _ hf => ?_ }
    · rw [List.mem_singleton.mp hp]; exact ⟨hL0, hg.none_size⟩
    · rw [List.mem_singleton.mp hp]; exact hLl
    · dsimp only at h; rw [e5] at h; cases h
    · dsimp only at h; rw [e5] at h; cases h
    · rw [hkeys]; intro x hx; refine ⟨.inl ?_, (hloc x hx).2⟩; dsimp only; unfold Env.kindOf; rw [e1]; exact (hloc x hx).1
    · rw [startSig_free hx] at hf; cases hf
  refine wpAny_mono (hsx { prog := prog, w := w, A := A.deeper env, h₁ := h₁, mg := mg, mb := mb, env := env, fp := [s.heap.objs.size] } ⟨⟨hst, by dsimp only; rw [e1]; exact hk, e3, e4, hh, by show A.units + 3 + 64 < _; omega, by show A.depth + 1 < _; omega⟩, by dsimp only; rw [e2]; exact .head _, fun x p h => (by dsimp only at h; rw [e5] at h; cases h), fun x y p h => (by dsimp only at h; rw [e5] at h; cases h), fun x p h => (by dsimp only at h; rw [e5] at h; cases h)⟩ ⟨rfl, rfl, rfl, rfl⟩ e1 (by show A.depth + 1 + n < _; omega) (by show A.units + 3 + 8 * n + 64 < _; omega) (fun b => s.heap.get? b) (fun b => s.heap.get? b ≠ none ∧ g b = none) g _ { s with heap := h₀, toks := s.toks + (params.zip vs).length } hw) (fun fl s' hf => ?_) fun _ _ e => e.elim
  obtain ⟨h', tk, g', m', σ', af, rfl, w', hfl, rfl⟩ := hf
  cases hfl with
  | ret hv =>
    have hkeep : Keep s.heap h' := fun b o e => w'.kin b o e
    have hgi : g.In h' := hg.keep hkeep
    refine q _ h' (g.or g') tk hkeep (hgi.or w'.gin) (Le.or_left _ _) (fun b hb => ?_) (hv.mono (Le.or_right hgi w'.gin))
    cases e : g b with
    | some o => exact Le.or_left _ _ _ _ e
    | none => exact G.or_none e (w'.nN b ⟨hb, e⟩).2
end
end Mine
namespace Mine
section
variable {c : Cfg} {σ σ' σ₁ σ₂ : Sig} {E : Value → Shared → Prop} {Φ : AFlow → Sig → Prop} {rest : List Stmt}
noncomputable def KeepBut (a : Addr) (h h' : Heap) : Prop := ∀ b o, b ≠ a → h.get? b = some o → h'.get? b = some o
theorem next_item {prog : Program} {w : World} {A : Around} {s : Shared} {it l : Addr} {i : Nat} {items : Array Value} {x : Value} {Q : Value → Shared → Prop} (hit : s.heap.IsListIter it l i) (hl : s.heap.IsList l items) (hx : items[i]? = some x)
    (hQ : ∀ h', h'.IsListIter it l (i + 1) → Heap.SameBut it s.heap h' → Q x { s with heap := h' }) : wpAny (model prog w) A (call (.builtin "next") [.ref it]) Q E s := by
  refine Calls.call_function_entry (by decide +kernel) (by decide +kernel) PySem.W.kdk_entry_next (PySem.W.kdk_args_next _) ?_
  unfold Builtin.«next»
  refine wpAny_bind (m := someArgs "next" 1 2 _) (wpAny_of_eq (a := [Value.ref it]) (by first | rfl | kernel_rfl!) ?_)
  dsimp only
  refine wpAny_bind (wpAny_specialOf (name := Str.ofString "__next__") hit.typeIs slot_listiter_next.lookup ?_)
  refine wpAny_ite_split (fun hab => absurd hab (by decide)) (fun _ => ?_)
  obtain ⟨o, ho, hc, hd⟩ := id hit
  obtain ⟨ol, hol, _, nl, hdl⟩ := hl
  refine wpAny_bind (wpAny_callSpecial?_slot (name := Str.ofString "__next__") hit.typeIs slot_listiter_next
    (wpAny_call_entry slot_listiter_next hit.typeIs entry_listiter_next ?_ (args_listiter_next _)))
  show wpAny _ _ (field (.ref it) 0 >>= _) _ _ s
  refine wpAny_bind (wpAny_field ho hd (x := .ref l) rfl ?_)
  show wpAny _ _ (if (Value.ref l == Value.none) = true then _ else _) _ _ s
  rw [if_neg (show ¬ ((Value.ref l == Value.none) = true) from Bool.false_ne_true)]
  show wpAny _ _ (field (.ref it) 1 >>= _) _ _ s
  refine wpAny_bind (wpAny_field ho hd (x := .int i 0) rfl ?_)
  show wpAny _ _ (seqItems? (.ref l) >>= _) _ _ s
  refine wpAny_bind (wpAny_seqItems hol hdl ?_)
  simp only [Int.toNat_natCast, hx]
  refine wpAny_bind (wpAny_setField ho hd (by simp) (wpAny_pure ⟨x, rfl, wpAny_pure ⟨x, rfl, hQ _ ?_ (Heap.SameBut.update ..)⟩⟩))
  exact ⟨_, Heap.get?_update_self _ ho (Obj.isFreed_of_fields (Obj.data_mapFields hd _)), (Obj.cls_mapFields ..).trans hc, by
    rw [Obj.data_mapFields hd]; simp [rawInt]⟩
/-- an own object is exchanged, and data grow -/
theorem W.exchG {k g g' : G} {N : Addr → Prop} {m : Str → Option Value} {h h' : Heap} {x : Str} {a : Addr} {v u : AV} (w : W c k N g m σ h) (hl : Loc σ x v) (hf : v.free = true) (hu : Upd σ x u σ') (hm : m x = some (.ref a)) (hka : k a = none) (hga : g a = none) (hL : a ∉ c.fp)
    (hs : KeepBut a h h') (hin : g'.In h') (hle : Le g g') (hsg : ∀ b, h.get? b ≠ none → g' b = g b) (hx : Holds k g' c.fp m h' x u) : W c k N g' m σ' h' := by
  have oth : ∀ y w', (y, w') ∈ σ → y ≠ x → Holds k g' c.fp m h' y w' := fun y w' hy hne => by
    have hv := (w.loc y w' hy).ext hle fun b _ _ h1 _ h3 _ => (hsg b h3).trans h1
    cases w' with
    | un => trivial
    | val d => exact hv
    | own ds =>
      obtain ⟨b, vs, n, h1, h2, h3, h4, h5, h6⟩ := hv
      have hab : b ≠ a := fun q => hne (w.sep y _ x _ a hy hl.mem rfl hf (q ▸ h1) hm)
      exact ⟨b, vs, n, h1, hs b _ hab h2, h3, h4, h5, h6⟩
    | it b ds =>
      obtain ⟨h1, h2, h3, h4, h5⟩ := hv
      have hab : b ≠ a := fun q => hne (w.sep y _ x _ a hy hl.mem rfl hf (q ▸ h1) hm)
      exact ⟨h1, h2.at' fun o e => hs b _ hab e, h3, h4, h5⟩
  have hne : ∀ p, h.get? p ≠ none → p ≠ a → h'.get? p ≠ none := fun p hp hpa => by
    obtain ⟨o, e⟩ := Option.ne_none_iff_exists'.mp hp
    rw [hs p o hpa e]; exact fun e => nomatch e
  refine { base := w.base, kin := fun b o e => hs b o (fun q => by rw [q, hka] at e; cases e) (w.kin b o e), gin := hin, fpk := fun p hp => ⟨(w.fpk p hp).1, (hsg p (w.fpl p hp)).trans (w.fpk p hp).2⟩, fpl := fun p hp => hne p (w.fpl p hp) fun e => hL (e ▸ hp), nN := fun b hb => ⟨(w.nN b hb).1, ?_⟩, fr := ⟨?_, fun y p h1 h2 => ?_⟩, cel := w.cel, Lfp := w.Lfp, nod := by rw [hu.keys]; exact w.nod, lcl := by rw [hu.keys]; exact w.lcl, loc := fun y b hy => ?_, sep := fun y a₁ z b p h1 h2 h3 h4 h5 h6 => ?_ }
  · rw [hsg]; exact (w.nN b hb).2
    cases q : k b with
    | none => exact absurd q (w.nN b hb).1
    | some p => rw [w.kin _ _ q]; exact fun e => nomatch e
  · obtain ⟨m₀, h1, h2⟩ := w.fr.ns
    exact ⟨m₀, h1.extBut (fun b o hb e => hs b o hb e) (fun e => hL (e ▸ w.Lfp)), h2⟩
  · obtain ⟨o, e1, e2⟩ := w.fr.cl y p h1 h2
    refine ⟨o, hs p o (fun q => ?_) e1, e2⟩
    subst q
    rcases w.cel y p h2 with q | q
    · exact hL q
    · exact q hka
  · rcases hu.mem w.nod hy with ⟨rfl, rfl⟩ | ⟨n1, m1⟩
    · exact hx
    · exact oth y b m1 n1
  · rcases hu.mem w.nod h1 with ⟨rfl, rfl⟩ | ⟨n1, m1⟩ <;> rcases hu.mem w.nod h2 with ⟨rfl, rfl⟩ | ⟨n2, m2⟩
    · rfl
    · exact w.sep _ _ _ _ p hl.mem m2 hf h4 h5 h6
    · exact w.sep _ _ _ _ p m1 hl.mem h3 hf h5 h6
    · exact w.sep _ _ _ _ p m1 m2 h3 h4 h5 h6
/-- next(x) -/
theorem EX.next (ok : c.Ev) {x : Str} {p p1 p2 : Pos} {a : Addr} {d : D} {ds : List D} (hx : GL c "next" none) (hl : Loc σ x (.it a (d :: ds))) (hu : Upd σ x (.it a ds) σ') : EX c σ (.Call (.Name "next" p) [.Name x p1] [] p2) d σ' := by
  intro k N g m s Q E w q
  refine wpAny_Call_NameR (W.builtin ok w hx (v := .builtin "next") (by decide +kernel) (by decide) ?_)
  obtain ⟨hm, hat, hka, hga, hfa⟩ := w.loc x _ hl.mem
  refine Calls.callWith_builtin rfl (Calls.evalArgs_plain (Calls.spliced_cons (wpAny_Name (w.load ok hl hm (Calls.spliced_nil ?_)) (w.nodebug hl))))
  obtain ⟨l, i, o, vs, n, hit, hgl, hc, hd, hi, hsz, hr⟩ := id hat
  obtain ⟨u, hu0, hru⟩ := hr.get (i := 0) (d := d) rfl
  have hx : vs.toArray[i]? = some u := by simpa using hu0
  refine next_item hit ⟨o, w.gin _ _ hgl, hc, n, hd⟩ hx fun h' hit' hs' => ?_
  have hkb : KeepBut a s.heap h' := fun b o hb e => (hs'.2 b hb).trans e
  have hgin : g.In h' := fun b o e => hkb b o (fun q => by rw [q, hga] at e; cases e) (w.gin b o e)
  have hlt : i < vs.length := by
    have := List.getElem?_eq_some_iff.mp (by simpa using hx : vs[i]? = some u); exact this.1
  have hr' : Reps g (vs.drop (i + 1)) ds := by
    have := hr.drop 1
    simpa [List.drop_drop, Nat.add_comm] using this
  have hat' : ItAt g h' a ds := ⟨l, i + 1, o, vs, n, hit', hgl, hc, hd, hlt, hsz, hr'⟩
  exact q u h' g s.toks (w.exchG hl rfl hu hm hka hga hfa hkb hgin (Le.refl _) (fun _ _ => rfl) ⟨hm, hat', hka, hga, hfa⟩) (Le.refl _) hru
/-- what a def that takes an iterator first gives -/
noncomputable def PF (prog : Program) (w : World) (h₁ : Heap) (f : Addr) (n : Nat) (ds : List D) (args : List D) (r : D) (ds' : List D) : Prop :=
  ∀ (A : Around) (s : Shared) (g : G) (a : Addr) (ws : List Value) (Q E : Value → Shared → Prop), A.handled = none → A.depth + n < recursionLimit → A.units + 8 * n + 64 < cLine → Keep h₁ s.heap → h₁.get? a = none → g.In s.heap → ItAt g s.heap a ds → g a = none → Reps g ws args →
    (∀ v h' g' tk, KeepBut a s.heap h' → g'.In h' → Le g g' → (∀ b, s.heap.get? b ≠ none → g' b = g b) → ItAt g' h' a ds' → Rep g' v r → Q v { s with heap := h', toks := tk }) → wpAny (model prog w) A (call (.ref f) (.ref a :: ws)) Q E s
theorem EX.callP {prog : Program} {w : World} {h₁ : Heap} {mg : Str → Option Value} (ok : c.Ev) (is : c.Is prog w h₁ mg) {x y : Str} {p p1 pos : Pos} {es : List Expr} {as ds ds' : List D} {a f : Addr} {n : Nat} {r : D} (hx : GL c x (some (.ref f))) (hf : IsFn h₁ f) (hl : Loc σ y (.it a ds)) (hu : Upd σ y (.it a ds') σ') (hs : EVs c σ es as) (hF : PF prog w h₁ f n ds as r ds')
    (hdp : c.A.depth + n < recursionLimit) (hun : c.A.units + 8 * n + 64 < cLine) : EX c σ (.Call (.Name x p) (.Name y p1 :: es) [] pos) r σ' := by
  obtain ⟨rfl, rfl, rfl, rfl⟩ := is
  intro k N g m s Q E w q
  refine wpAny_Call_NameR (W.global ok w hx ?_)
  obtain ⟨o, fd, ho, hfd⟩ := hf
  obtain ⟨hm, hat, hka, hga, hfa⟩ := w.loc y _ hl.mem
  have hbt : backTo pos (starEach (.Name y p1 :: es) c.env) = (false, eval (.Name y p1) c.env) :: es.map fun e => (false, eval e c.env) := by
    have : backTo pos (starEach (.Name y p1 :: es) c.env) = (false, eval (.Name y p1) c.env) :: backTo pos (starEach es c.env) := rfl
    rw [this, hs.plain]
  refine Calls.callWith_function (o := o) (fd := fd) ?_
  rw [hbt]
  refine Calls.evalArgs_plain (Calls.spliced_cons (wpAny_Name (w.load ok hl hm (hs.splice k N g m s _ E w fun vs h₂ g₂ t₂ k₂ w₂ l₂ r₂ => ⟨⟨w₂.keep₁ _ _ ho, hfd⟩, ?_⟩)) (w.nodebug hl)))
  obtain ⟨_, hat₂, _, hga₂, _⟩ := w₂.loc y _ hl.mem
  refine hF c.A _ g₂ a vs _ E ok.hh hdp hun w₂.keep₁ ?_ w₂.gin hat₂ hga₂ r₂ fun v h₃ g₃ t₃ k₃ i₃ l₃ s₃ it₃ r₃ => ?_
  · cases e : c.h₁.get? a with
    | none => rfl
    | some o => rw [w.base _ _ e] at hka; cases hka
  · exact q v h₃ g₃ t₃ (w₂.exchG hl rfl hu hm hka hga₂ hfa k₃ i₃ l₃ s₃ ⟨hm, it₃, hka, (s₃ a hat₂.live).trans hga₂, hfa⟩) (l₂.trans l₃) r₃
theorem PF.of_body {prog : Program} {w : World} {h₁ : Heap} {mg mb : Str → Option Value} {f : Addr} {n : Nat} {x₀ : Str} {ds ds' args args' : List D} {r : D} {o : Obj} {fd : FuncData} {body : List Stmt} {params names : List Str}
    (hst : Stat h₁ mg mb) (ho : h₁.get? f = some o) (hdata : o.data = .func fd) (hcd : h₁.CodeRec fd.code fd.qualname) (hbody : fd.body = .stmts body)
    (hgl : fd.globals = mainGlobals) (hcl : fd.closure = []) (hbl : fd.builtins = builtinsNs)
    (hlen : params.length = args'.length)
    (hbind : ∀ (s : Shared) (g : G) (v : Value) (ws : List Value), Keep h₁ s.heap → Reps g ws args → ∃ us, BindsTo s fd ⟨v :: ws, []⟩ ((x₀, v) :: params.zip us) ∧ Reps g us args')
    (hcell : ∀ x ∈ fd.scope.names, x.2 ≠ .cell) (hloc : ∀ x ∈ x₀ :: params ++ names, fd.scope.names.lookup x = some .local ∧ (x == ("__debug__" : Str)) = false) (hnod : (x₀ :: params ++ names).Nodup)
    (hco : fd.scope.isCoroutine = false) (hgen : fd.scope.isGenerator = false) (hk : fd.scope.kind = .function)
    (hsx : ∀ (c : Cfg) (a : Addr), c.Ok → c.Is prog w h₁ mg → c.env.scope = fd.scope → c.A.depth + n < recursionLimit → c.A.units + 8 * n + 64 < cLine → SX c (fun _ _ => False) ((x₀, .it a ds) :: startSig names params args') body (fun fl σ' => fl = .ret r ∧ Loc σ' x₀ (.it a ds'))) :
    PF prog w h₁ f (n + 1) ds args r ds' := by
  intro A s g a ws Q E hh hd hu hk₁ ha₁ hg hat hga hr q
  obtain ⟨us, hb, hr'⟩ := hbind s g (.ref a) ws hk₁ hr
  have hlu : params.length = us.length := by rw [hlen, hr'.length]
  refine wpAny_call (codeAny_call_def (fd := fd) (body := body) (binds := (x₀, .ref a) :: params.zip us) (by omega) (hk₁ _ _ ho) hdata (hst.nolimit.keeps hk₁) (hcd.keeps hk₁) hbody hb hcell (fun x hx => ?_) (fun h₀ hns hk₂ => ?_) hco hgen hk)
  · rcases List.mem_cons.mp hx with rfl | hx
    · exact (hloc _ (.head _)).1
    · exact (hloc _ (.tail _ (List.mem_append_left _ (List.of_mem_zip hx).1))).1
  generalize henv : callEnv fd s.heap.objs.size f = env
  have e1 : env.scope = fd.scope := by rw [← henv]; rfl
  have e2 : env.locals = s.heap.objs.size := by rw [← henv]; rfl
  have e3 : env.globals = mainGlobals := by rw [← henv]; exact hgl
  have e4 : env.builtins = builtinsNs := by rw [← henv]; exact hbl
  have e5 : env.cells = [] := by rw [← henv]; exact hcl
  have hL0 : s.heap.get? s.heap.objs.size = none := Heap.get?_none_of_le (Nat.le_refl _)
  have hLl : h₀.get? s.heap.objs.size ≠ none := by obtain ⟨o, _, _, e, _⟩ := hns; rw [e]; exact fun e => nomatch e
  have haL : a ≠ s.heap.objs.size := fun e => by have := hat.live; rw [e] at this; exact this hL0
  have hkeys := startSig_keys (names := names) hlen
  have hnd : ((x₀, Value.ref a) :: params.zip us).map (·.1) = x₀ :: params := by
    rw [List.map_cons, List.map_fst_zip (by rw [hlu]; exact Nat.le_refl _)]
  have hnp : (x₀ :: params).Nodup := by
    have : (x₀ :: params) ++ names = x₀ :: params ++ names := rfl
    exact (List.nodup_append.mp (this ▸ hnod)).1
  have hlook : ∀ x u, (x, u) ∈ (x₀, Value.ref a) :: params.zip us → ((x₀, Value.ref a) :: params.zip us).reverse.lookup x = some u := fun x u hm => by
    refine lookup_of_nodup (List.mem_reverse.mpr hm) ?_
    rw [List.map_reverse, hnd]
    exact (List.reverse_perm _).nodup_iff.mpr hnp
  have hw : W { prog := prog, w := w, A := A.deeper env, h₁ := h₁, mg := mg, mb := mb, env := env, fp := [s.heap.objs.size] } (fun b => if b = a then none else s.heap.get? b) (fun b => b ≠ a ∧ s.heap.get? b ≠ none ∧ g b = none) g (fun x => ((x₀, Value.ref a) :: params.zip us).reverse.lookup x) ((x₀, .it a ds) :: startSig names params args') h₀ := by
    refine { base := fun b o e => ?_, kin := fun b o e => ?_, gin := fun b o e => hk₂ _ _ (hg _ _ e), fpk := fun p hp => ?_, fpl := fun p hp => ?_, nN := fun b hb => ⟨?_, hb.2.2⟩, fr := ⟨⟨_, e2 ▸ hns, fun _ _ => rfl⟩, fun x p _ h => ?_⟩, cel := fun x p h => ?_, Lfp := by show env.locals ∈ _; rw [e2]; exact .head _, nod := by rw [List.map_cons, hkeys]; exact hnod, lcl := ?_, loc := fun x v hx => ?_, sep := fun x u y v b hx hy hf hf' => ?_ }
    · rw [if_neg (fun q => by rw [q, ha₁] at e; cases e)]; exact hk₁ _ _ e
    · dsimp only at e
      by_cases hb : b = a
      · rw [if_pos hb] at e; cases e
      · rw [if_neg hb] at e; exact hk₂ _ _ e
    · rw [List.mem_singleton.mp hp]; exact ⟨by rw [if_neg (Ne.symm haL)]; exact hL0, hg.none_size⟩
    · rw [List.mem_singleton.mp hp]; exact hLl
    · rw [if_neg hb.1]; exact hb.2.1
    · dsimp only at h; rw [e5] at h; cases h
    · dsimp only at h; rw [e5] at h; cases h
    · rw [List.map_cons, hkeys]; intro x hx; refine ⟨.inl ?_, (hloc x hx).2⟩; dsimp only; unfold Env.kindOf; rw [e1]; exact (hloc x hx).1
    · rcases List.mem_cons.mp hx with e | hx
      · cases e
        exact ⟨hlook _ _ (.head _), hat.at' fun o e => hk₂ _ _ e, if_pos rfl, hga, fun hm => haL (List.mem_singleton.mp hm)⟩
      · exact startSig_holds hr' (fun x u hm => hlook x u (.tail _ hm)) x v hx
    · rcases List.mem_cons.mp hx with e | hx
      · rcases List.mem_cons.mp hy with e' | hy
        · cases e; cases e'; exact fun _ _ => rfl
        · rw [startSig_free hy] at hf'; cases hf'
      · rw [startSig_free hx] at hf; cases hf
  refine wpAny_mono (hsx { prog := prog, w := w, A := A.deeper env, h₁ := h₁, mg := mg, mb := mb, env := env, fp := [s.heap.objs.size] } a ⟨⟨hst, by dsimp only; rw [e1]; exact hk, e3, e4, hh, by show A.units + 3 + 64 < _; omega, by show A.depth + 1 < _; omega⟩, by dsimp only; rw [e2]; exact .head _, fun x p h => (by dsimp only at h; rw [e5] at h; cases h), fun x y p h => (by dsimp only at h; rw [e5] at h; cases h), fun x p h => (by dsimp only at h; rw [e5] at h; cases h)⟩ ⟨rfl, rfl, rfl, rfl⟩ e1 (by show A.depth + 1 + n < _; omega) (by show A.units + 3 + 8 * n + 64 < _; omega) _ _ g _ { s with heap := h₀, toks := s.toks + ((x₀, Value.ref a) :: params.zip us).length } hw) (fun fl s' hf => ?_) fun _ _ e => e.elim
  obtain ⟨h', tk, g', m', σ', af, rfl, w', hfl, rfl, hl'⟩ := hf
  cases hfl with
  | ret hv =>
    have hkeep : KeepBut a s.heap h' := fun b o hb e => w'.kin b o (by rw [if_neg hb]; exact e)
    have hgi : g.In h' := fun b o e => hkeep b o (fun q => by rw [q, hga] at e; cases e) (hg b o e)
    obtain ⟨_, hat', _, hga', _⟩ := w'.loc _ _ hl'.mem
    refine q _ h' (g.or g') tk hkeep (hgi.or w'.gin) (Le.or_left _ _) (fun b hb => ?_) (hat'.mono (Le.or_right hgi w'.gin)) (hv.mono (Le.or_right hgi w'.gin))
    cases e : g b with
    | some o => exact Le.or_left _ _ _ _ e
    | none =>
      refine G.or_none e ?_
      by_cases hba : b = a
      · rw [hba]; exact hga'
      · exact (w'.nN b ⟨hba, hb, e⟩).2
end
end Mine
namespace Mine
section
variable {c : Cfg} {σ σ' σ₁ σ₂ : Sig} {E : Value → Shared → Prop} {Φ : AFlow → Sig → Prop} {rest : List Stmt}
/-- statements over moving expressions -/
theorem SX.assignX (ok : c.Ok) {x : Str} {e : Expr} {p p' : Pos} {d : D} (he : EX c σ e d σ₁) (hu : Upd σ₁ x (.val d) σ') (hs : swapsWith e (some (.Name x p')) p.line c.env = pure false) (k : SX c E σ' rest Φ) : SX c E σ (.Assign [.Name x p'] e p :: rest) Φ := by
  refine SX.step fun kk N g m s w => wpAny_Assign_Name (he kk N g m s _ E w fun v h₁ g₁ t₁ w₁ l₁ r₁ => ?_) hs
  refine W.put ok w₁ r₁ hu fun h' tk w' => ?_
  exact ⟨h', tk, g₁, _, σ', .next, rfl, w', .next, k⟩
theorem SX.retX {e : Expr} {d : D} {p : Pos} (he : EX c σ e d σ₁) (h : Φ (.ret d) σ₁) : SX c E σ (.Return (some e) p :: rest) Φ := by
  refine SX.step fun kk N g m s w => wpAny_Return_some (he kk N g m s _ E w fun v h₁ g₁ t₁ w₁ l₁ r₁ => ?_)
  exact ⟨h₁, t₁, g₁, m, σ₁, .ret d, rfl, w₁, .ret r₁, h⟩
theorem SX.iteX {t : Expr} {b : Bool} {body orelse : List Stmt} {p : Pos} (ht : EXB c σ t b σ₁) (h1 : b = true → SX c E σ₁ body (seqT c E rest Φ)) (h2 : b = false → SX c E σ₁ orelse (seqT c E rest Φ)) : SX c E σ (.If t body orelse p :: rest) Φ := by
  refine SX.step fun kk N g m s w => wpAny_If (ht kk N g m s _ E w fun h₁ g₁ t₁ w₁ l₁ => ?_)
  cases b with
  | true => rw [if_pos rfl]; exact wpAny_mono (h1 rfl kk N g₁ m _ w₁) (fun _ _ q => q.trans) fun _ _ e => e
  | false => rw [if_neg Bool.false_ne_true]; exact wpAny_mono (h2 rfl kk N g₁ m _ w₁) (fun _ _ q => q.trans) fun _ _ e => e
/-- x, y = e -/
theorem SX.unpack2X (ok : c.Ok) {x y : Str} {e : Expr} {p p1 p2 p3 : Pos} {kk : Nat} {d₁ d₂ : D} (he : EX c σ e (.tup [d₁, d₂]) σ₁) (hu : Upd σ₁ x (.val d₁) σ₂) (hu' : Upd σ₂ y (.val d₂) σ')
    (hs : swapsWithSole [.Tuple [.Name x p1, .Name y p2] kk p3] e p.line c.env = pure false) (hw : swappedStores [.Tuple [.Name x p1, .Name y p2] kk p3] e c.env = pure none)
    (k : SX c E σ' rest Φ) : SX c E σ (.Assign [.Tuple [.Name x p1, .Name y p2] kk p3] e p :: rest) Φ := by
  refine SX.step fun k0 N g m s w => Assign_Tuple (he k0 N g m s _ E w fun v h₁ g₁ t₁ w₁ l₁ r₁ => ?_) hs hw
  obtain ⟨a, vs, rfl, ht, hr⟩ := r₁.isTup w₁.gin (s := { s with heap := h₁, toks := t₁ })
  cases hr with
  | cons r₁ hr => cases hr with
    | cons r₂ hr =>
      cases hr
      refine assign_Tuple_tuple ok.hh ht rfl rfl fun h₂ hb₂ => ?_
      have k₂ : Keep h₁ h₂ := Keep.extBut hb₂
      have w₂ := w₁.keep k₂
      refine assignInOrder_cons (assign_Name (W.put ok w₂ r₁ hu fun h₃ t₃ w₃ => ?_))
      refine assignInOrder_cons (assign_Name (W.put ok w₃ r₂ hu' fun h₄ t₄ w₄ => ?_))
      exact assignInOrder_nil ⟨h₄, t₄, g₁, _, σ', .next, rfl, w₄, .next, k⟩
/-- the last item of an own list -/
theorem popped {vs : List Value} {n : Nat} {v : Value} : ((listObj (vs ++ [v]) n).mapSeq fun xs => xs.eraseIdxIfInBounds ((vs ++ [v]).toArray.size - 1)) = listObj vs (n + 1) ∨ ∃ n', ((listObj (vs ++ [v]) n).mapSeq fun xs => xs.eraseIdxIfInBounds ((vs ++ [v]).toArray.size - 1)) = listObj vs n' := by
  right
  have e : (vs ++ [v]).toArray.eraseIdxIfInBounds ((vs ++ [v]).toArray.size - 1) = vs.toArray := by
    simp [List.eraseIdx_append_of_length_le]
  exact ⟨_, by unfold listObj Obj.mapSeq; dsimp only; rw [e]⟩
theorem Reps.snoc {g : G} : ∀ {vs : List Value} {ds : List D} {d : D}, Reps g vs (ds ++ [d]) → ∃ us v, vs = us ++ [v] ∧ Reps g us ds ∧ Rep g v d
  | _, [], d, .cons h1 h2 => by cases h2; exact ⟨[], _, rfl, .nil, h1⟩
  | _, d' :: ds, d, .cons h1 h2 => by
    obtain ⟨us, v, rfl, h3, h4⟩ := Reps.snoc h2
    exact ⟨_ :: us, v, rfl, .cons h1 h3, h4⟩
theorem EX.pop (ok : c.Ev) {x : Str} {p1 p2 p3 : Pos} {ds : List D} {d : D} (hl : Loc σ x (.own (ds ++ [d]))) (hu : Upd σ x (.own ds) σ') (hn : ds.length < 16777216)
    (hline : (p2.endLine == p3.line) = true) : EX c σ (.Call (.Attribute (.Name x p1) "pop" p2) [] [] p3) d σ' := by
  intro k N g m s Q E w q
  obtain ⟨a, vs, n, hm, ho, hr, hka, hga, hL⟩ := w.loc x _ hl.mem
  obtain ⟨us, v, rfl, hr1, hr2⟩ := hr.snoc
  refine wpAny_Call_method_lateS rfl rfl hline (wpAny_Name (w.load ok hl hm ⟨"list", "list.pop", PySem.F.plainAttrs_list, PySem.F.slot_list_pop, PySem.F.type_list_pop, ⟨_, ho, rfl⟩, fun b e => ?_, ?_⟩) (w.nodebug hl))
  · cases e; exact ⟨_, ho, rfl⟩
  · refine Calls.callWith_builtin rfl (wpAny_pure ?_)
    refine call_meets PySem.F.slot_list_pop ⟨_, ho, rfl⟩ PySem.F.entry_list_pop (PySem.F.args_list_pop_1 _) (PySem.MeetsSeq.list_pop_last a (us ++ [v]).toArray n v (by simp) (by simp [sizeLine_eq, hr1.length]; omega)) ⟨ho, ?_⟩
    rcases popped (vs := us) (n := n) (v := v) with e | ⟨n', e⟩
    all_goals
      have hs : Heap.SameBut a s.heap (s.heap.update a (Obj.mapSeq fun xs => xs.eraseIdxIfInBounds ((us ++ [v]).toArray.size - 1))) := Heap.SameBut.update ..
      have ho' := Heap.get?_update_self (Obj.mapSeq fun xs => xs.eraseIdxIfInBounds ((us ++ [v]).toArray.size - 1)) ho (by rw [e]; rfl)
      rw [e] at ho'
      refine q v _ g s.toks (w.exch hl rfl hu hm hka hga hL (fun b o hb e => (hs.2 b hb).trans e) ⟨a, us, _, hm, ho', hr1, hka, hga, hL⟩) (Le.refl _) hr2
/-- opened.pop() == e -/
theorem EXB.cmpX {l r : Expr} {op : CmpOp} {pos : Pos} {d₁ d₂ : D} {b : Bool} (hl : EX c σ l d₁ σ₁) (hr : EV c σ₁ r d₂) (ho : OP2 c (compareOp op) d₁ d₂ (.bool b)) (hm : behindInMarks op r = false) : EXB c σ (.Compare l [op] [r] pos) b σ₁ := by
  intro k N g m s Q E w h
  refine wpAny_isTrue_Compare1 (hl k N g m s _ E w fun v₁ h₁ g₁ t₁ w₁ l₁ r₁ => ?_) hm
  refine hr k N g₁ m _ _ E w₁ fun v₂ h₂ g₂ t₂ k₂ w₂ l₂ r₂ => ?_
  refine ho g₂ _ v₁ v₂ _ E w₂.gin (r₁.mono l₂) r₂ fun v h₃ g₃ t₃ k₃ i₃ l₃ s₃ r₃ => ?_
  refine TR.bool g₃ _ v _ E i₃ r₃ fun tk => ?_
  exact h h₃ g₃ tk (w₂.grow k₃ i₃ l₃ s₃) (l₁.trans (l₂.trans l₃))
theorem EX.cmpX {l r : Expr} {op : CmpOp} {pos : Pos} {d₁ d₂ d : D} (hl : EX c σ l d₁ σ₁) (hr : EV c σ₁ r d₂) (ho : OP2 c (compareOp op) d₁ d₂ d) (hm : behindInMarks op r = false) : EX c σ (.Compare l [op] [r] pos) d σ₁ := by
  intro k N g m s Q E w h
  refine wpAny_Compare1 (hl k N g m s _ E w fun v₁ h₁ g₁ t₁ w₁ l₁ r₁ => ?_) hm
  refine hr k N g₁ m _ _ E w₁ fun v₂ h₂ g₂ t₂ k₂ w₂ l₂ r₂ => ?_
  refine ho g₂ _ v₁ v₂ _ E w₂.gin (r₁.mono l₂) r₂ fun v h₃ g₃ t₃ k₃ i₃ l₃ s₃ r₃ => ?_
  exact h v h₃ g₃ t₃ (w₂.grow k₃ i₃ l₃ s₃) (l₁.trans (l₂.trans l₃)) r₃
theorem EXB.orX {e f : Expr} {pos : Pos} {b b' : Bool} (h : EXB c σ e b σ₁) (h' : b = false → EXB c σ₁ f b' σ') (h'' : b = true → σ₁ = σ') : EXB c σ (.BoolOp .Or [e, f] pos) (b || b') σ' := by
  intro k N g m s Q E w q
  refine isTrue_or (h k N g m s _ E w fun h₁ g₁ t₁ w₁ l₁ => ?_)
  cases b with
  | true => rw [if_pos rfl]; exact q h₁ g₁ t₁ (h'' rfl ▸ w₁) l₁
  | false =>
    rw [if_neg Bool.false_ne_true]
    refine isTrue_or (h' rfl k N g₁ m _ _ E w₁ fun h₂ g₂ t₂ w₂ l₂ => ?_)
    cases b' with
    | true => rw [if_pos rfl]; exact q h₂ g₂ t₂ w₂ (l₁.trans l₂)
    | false => rw [if_neg Bool.false_ne_true]; exact isTrue_or_nil (q h₂ g₂ t₂ w₂ (l₁.trans l₂))
theorem EX.and2X {e f : Expr} {pos : Pos} {b b' : Bool} (h : EX c σ e (.bool b) σ₁) (h' : b = true → EX c σ₁ f (.bool b') σ') (h'' : b = false → σ₁ = σ') : EX c σ (.BoolOp .And [e, f] pos) (.bool (b && b')) σ' := by
  intro k N g m s Q E w q
  show wpAny _ _ (do
    let v ← eval e c.env
    standAt pos
    let t ← holding [v] (truthy v)
    match BoolOp.And, t with
    | .And, false | .Or, true => pure v
    | _, _ => boolOp pos .And (evalEach [f] c.env)) Q E s
  refine wpAny_bind (h k N g m s _ E w fun v h₁ g₁ t₁ w₁ l₁ r₁ => ?_)
  refine wpAny_bind (wpAny_standAt (wpAny_bind (wpAny_holding (TR.bool g₁ _ v _ E w₁.gin r₁ fun tk => ?_))))
  cases b with
  | false => exact wpAny_pure (q v h₁ g₁ tk (h'' rfl ▸ w₁) l₁ r₁)
  | true => exact h' rfl k N g₁ m _ Q E w₁ fun v h₂ g₂ t₂ w₂ l₂ r₂ => q v h₂ g₂ t₂ w₂ (l₁.trans l₂) r₂
/-- x.pop() as a statement -/
theorem SX.exprX (ok : c.Ok) {e : Expr} {d : D} {p : Pos} (he : EX c σ e d σ') (hd : d.Scalar) (hs : swapsWith e none p.line c.env = pure false) (k : SX c E σ' rest Φ) : SX c E σ (.Expr e p :: rest) Φ := by
  refine SX.step fun kk N g m s w => wpAny_Expr (he kk N g m s _ E w fun v h₁ g₁ t₁ w₁ l₁ r₁ => ?_) (W.not_interactive ok.toEv) hs
  have fin : Fin c kk N (seqT c E rest Φ) s .next { s with heap := h₁, toks := t₁ } := ⟨h₁, t₁, g₁, m, σ', .next, rfl, w₁, .next, k⟩
  cases hd <;> cases r₁ <;> exact fin
end
end Mine
namespace Mine
theorem walksFrom {prog : Program} {w : World} {A : Around} (hh : A.handled = none) (I ax : Addr) (hne : ax ≠ I) (items : Array Value) (i₀ : Nat) (hi₀ : i₀ ≤ items.size) :
    Walks prog w A I [I, ax] [I] (items.size - i₀) (fun i v => items[i₀ + i]? = some v) (fun i h => h.IsListIter I ax (i₀ + i) ∧ h.IsList ax items) where
  sub := fun b hb => by simp at hb; simp [hb]
  frame := fun _ _ _ st hk => ⟨st.1.at fun o e => hk I (by simp) o e, st.2.at fun o e => hk ax (by simp) o e⟩
  item := fun i s Q E hi st hQ => by
    have hlt : i₀ + i < items.size := by omega
    refine wpAny_pyNext_list_item st.1 st.2 (x := items[i₀ + i]) (by simp [hlt]) fun h' hit hs => ?_
    exact hQ _ h' s.toks (by simp [hlt]) ⟨hit, st.2.extBut hs.extBut hne⟩ fun b o hb e => (hs.2 b (by simpa using hb)).trans e
  done := fun s Q E st hQ => by
    refine wpAny_pyNext_list_end hh st.1 st.2 (by simp; omega) fun h' hs => ?_
    exact hQ h' s.toks fun b o hb e => hs b o (by simpa using hb) e
  self := fun i s Q E st hq => wpAny_pyIter_listiter st.1 hq
theorem call_list_iter {prog : Program} {w : World} {A : Around} {E : Value → Shared → Prop} {s : Shared} {I ax : Addr} {items : Array Value} {i₀ : Nat} {Q : Value → Shared → Prop} (hh : A.handled = none) (hi₀ : i₀ ≤ items.size) (hit : s.heap.IsListIter I ax i₀) (hl : s.heap.IsList ax items) (hne : ax ≠ I) (hn : items.size ≤ 16777216)
    (hQ : ∀ h' tk acc' c', KeepBut I s.heap h' → h'.get? s.heap.objs.size = some (listObj acc' c') → acc' = items.toList.drop i₀ → Q (.ref s.heap.objs.size) { s with heap := h', toks := tk }) : wpAny (model prog w) A (call (.type "list") [.ref I]) Q E s := by
  refine callType_codes (Q₁ := fun obj s₁ => obj = .ref s.heap.objs.size ∧ s₁ = { s with heap := s.heap.push { cls := .type "list", data := .seq #[] } }) F.called_list (F.typeCall_list_1 _) F.entry_list_init
    (code_list_new _ ⟨rfl, rfl⟩) fun obj s₁ h₁ => ?_
  obtain ⟨rfl, rfl⟩ := h₁
  have hS : (s.heap.push { cls := .type "list", data := .seq #[] }).get? s.heap.objs.size = some { cls := .type "list", data := .seq #[] } := Heap.get?_push_size _ rfl
  have hIlt : I < s.heap.objs.size := by obtain ⟨o, ho, _⟩ := hit; exact Heap.lt_size ho
  have hAlt : ax < s.heap.objs.size := by obtain ⟨o, ho, _⟩ := hl; exact Heap.lt_size ho
  refine ⟨⟨_, hS, rfl⟩, F.args_list_init_2 _ _, ?_⟩
  generalize hSz : s.heap.objs.size = S at *
  generalize hh₁ : s.heap.push { cls := .type "list", data := .seq #[] } = h₁ at *
  have k₁ : Keep s.heap h₁ := hh₁ ▸ Keep.push _ _
  show wpAny _ _ (do let old ← Builtin.List.listItems (.ref S); Builtin.List.listUpdate (.ref S) (fun _ => #[]); letGo old.toList.reverse; Builtin.List.listExtendWith (.ref S) (.ref I) .none) _ _ _
  refine wpAny_bind ?_
  unfold Builtin.List.listItems
  refine wpAny_bind (wpAny_seqItems hS rfl (wpAny_pure ?_))
  show wpAny _ _ (updateSeq S (fun _ => #[]) >>= fun _ => letGo (#[] : Array Value).toList.reverse >>= fun _ => Builtin.List.listExtendWith (.ref S) (.ref I) .none) _ _ _
  refine wpAny_bind (wpAny_updateSeq hS rfl ?_)
  have hS₂ := Heap.get?_update_self (Obj.mapSeq (fun _ => (#[] : Array Value))) hS rfl
  have oth : ∀ b o, b ≠ S → h₁.get? b = some o → (h₁.update S (Obj.mapSeq (fun _ => (#[] : Array Value)))).get? b = some o :=
    fun b o hb e => (Heap.get?_update_other _ _ (Ne.symm hb)).trans e
  refine wpAny_bind (wpAny_letGo ?_)
  dsimp only
  generalize h₁.update S (Obj.mapSeq (fun _ => (#[] : Array Value))) = h₂ at *
  have hIS : I ≠ S := Nat.ne_of_lt hIlt
  have hAS : ax ≠ S := Nat.ne_of_lt hAlt
  have hit₂ : h₂.IsListIter I ax i₀ := hit.at fun o e => oth _ _ hIS (k₁ _ _ e)
  have hl₂ : h₂.IsList ax items := hl.at fun o e => oth _ _ hAS (k₁ _ _ e)
  unfold Builtin.List.listExtendWith
  have hty : ∀ tk, ({ s with heap := h₂, toks := tk } : Shared).TypeIs (.ref I) "list_iterator" := fun tk => hit₂.typeIs
  refine wpAny_bind (wpAny_typeOf (hty _) ?_)
  have h1 : Builtin.List.listSameRef (.ref S) (.ref I) = false := by simp [Builtin.List.listSameRef, Ne.symm hIS]
  rw [if_neg (by rw [h1]; decide)]
  have W := walksFrom (prog := prog) (w := w) (A := A.in1.in1) hh I ax hne items i₀ hi₀
  have st : h₂.IsListIter I ax (i₀ + 0) ∧ h₂.IsList ax items := ⟨hit₂, hl₂⟩
  refine wpAny_bind (W.self 0 _ _ _ st ?_)
  refine wpAny_bind (wpAny_holding ?_)
  unfold Builtin.List.listLengthHint
  refine wpAny_bind (wpAny_specialOf (hty _) F.nolen_li ?_)
  show wpAny _ _ (specialOf (Value.ref I) (Str.ofString "__length_hint__") >>= _) _ _ _
  refine wpAny_bind (wpAny_specialOf (hty _) F.hint_li ?_)
  (generalize hid : ("list_iterator.__length_hint__" : String) = id0; (fail_if_success (clear hid id0)); wp_delta; rw [show splitId id0 = some ("list_iterator", "__length_hint__") from by subst hid; decide +kernel]; subst hid)
  refine wpAny_bind (wpAny_isInstance (b := true) (hty _) (by rw [isSubtype_type]; kernel_rfl) ?_)
  refine wpAny_pure ?_
  rw [if_neg (by decide)]
  have hSf : S ∉ [I, ax] := by simp; exact ⟨Ne.symm hIS, Ne.symm hAS⟩
  refine wpAny_pure ⟨plainId_quiet F.plain_extend_loop _, codeAny_extend_loopS W.toS (by rw [sizeLine_eq]; omega) _ hSf _ (items.size - i₀) 0 _ _ _ rfl (Nat.zero_le _) st hS₂ (ItemsOf.nil _) fun s' acc' c' hm hS' hacc => ?_⟩
  rw [Moved.eq_with hm]
  refine ⟨rfl, hQ s'.heap s'.toks acc'.toList c' (fun b o hb e => hm.heap b o (fun hmem => ?_) (oth b o (fun q => ?_) (k₁ b o e))) ?_ ?_⟩
  · rcases List.mem_cons.mp hmem with e' | hmem
    · subst e'; rw [Heap.get?_none_of_le (Nat.le_of_eq hSz)] at e; cases e
    · exact hb (List.mem_singleton.mp hmem)
  · subst q; rw [Heap.get?_none_of_le (Nat.le_of_eq hSz)] at e; cases e
  · rw [hS']; simp [listObj]
  · refine List.ext_getElem? fun j => ?_
    by_cases hj : j < acc'.size
    · have e1 : acc'[j]? = some acc'[j] := by simp [hj]
      have e2 := hacc.2 j _ e1
      rw [List.getElem?_drop, Array.getElem?_toList, Array.getElem?_toList, e1, e2]
    · have := hacc.1
      rw [List.getElem?_eq_none (by simp; omega), List.getElem?_eq_none (by simp; omega)]
end Mine
namespace Mine
section
variable {c : Cfg} {σ σ' σ₁ σ₂ : Sig} {E : Value → Shared → Prop} {Φ : AFlow → Sig → Prop} {rest : List Stmt}
/-- list(x) of an iterator -/
theorem EX.listIt (ok : c.Ev) {x : Str} {p p1 p2 : Pos} {a : Addr} {ds : List D} (hx : GL c "list" none) (hl : Loc σ x (.it a ds)) (hu : Upd σ x .un σ') :
    EX c σ (.Call (.Name "list" p) [.Name x p1] [] p2) (.list ds) σ' := by
  intro k N g m s Q E w q
  refine wpAny_Call_NameR (W.builtin ok w hx (v := .type "list") (by decide +kernel) (by decide) ?_)
  obtain ⟨hm, hat, hka, hga, hfa⟩ := w.loc x _ hl.mem
  refine PySem.callWith_type rfl (Calls.evalArgs_plain (Calls.spliced_cons (wpAny_Name (w.load ok hl hm (Calls.spliced_nil ?_)) (w.nodebug hl))))
  obtain ⟨l, i, o, vs, n, hit, hgl, hc, hd, hi, hsz, hr⟩ := id hat
  have hne : l ≠ a := fun e => by rw [e, hga] at hgl; cases hgl
  have hll : s.heap.IsList l vs.toArray := ⟨o, w.gin _ _ hgl, hc, n, hd⟩
  refine call_list_iter ok.hh (by simpa using hi) hit hll hne (by simpa using hsz) fun h' tk acc' c' hk hD hacc => ?_
  have hDn : s.heap.get? s.heap.objs.size = none := Heap.get?_none_of_le (Nat.le_refl _)
  have hgin : g.In h' := fun b o e => hk b o (fun q => by rw [q, hga] at e; cases e) (w.gin b o e)
  have hle : Le g (g.add s.heap.objs.size (listObj acc' c')) := Le.add w.gin.none_size
  have w' := w.exchG (u := .un) hl rfl hu hm hka hga hfa hk (hgin.add hD) hle (fun b hb => G.add_ne fun e => hb (e ▸ hDn)) trivial
  refine q _ h' _ tk w' hle (.list (G.add_self _ _ _) rfl rfl ?_)
  have hr' : Reps g acc' ds := by rw [hacc]; simpa using hr
  exact hr'.mono hle
/-- x = iter(e) -/
theorem SX.iter (ok : c.Ok) {x : Str} {e : Expr} {p p1 p2 p3 : Pos} {ds : List D} {σ' : Addr → Sig} (hx : GL c "iter" none) (he : EVs c σ [e] [.list ds]) (hn : ds.length ≤ 16777216) (hu : ∀ a, Upd σ x (.it a ds) (σ' a))
    (hs : swapsWith (.Call (.Name "iter" p) [e] [] p2) (some (.Name x p1)) p3.line c.env = pure false) (k : ∀ a, SX c E (σ' a) rest Φ) : SX c E σ (.Assign [.Name x p1] (.Call (.Name "iter" p) [e] [] p2) p3 :: rest) Φ := by
  refine SX.step fun kk N g m s w => wpAny_Assign_Name ?_ hs
  refine wpAny_Call_NameR (W.builtin ok.toEv w hx (v := .builtin "iter") (by decide +kernel) (by decide) ?_)
  refine Calls.callWith_builtin he.noStar (he.args kk N g m s _ w fun vs h₁ g₁ t₁ k₁ w₁ l₁ r₁ => ?_)
  cases r₁ with
  | cons r₁ r₂ =>
    cases r₂
    cases r₁ with
    | @list a o vs n _ h1 h2 h3 h4 =>
      refine Calls.call_function_entry (by decide +kernel) (by decide +kernel) PySem.W.kdk_entry_iter (PySem.W.kdk_args_iter _) ?_
      unfold Builtin.«iter»
      refine wpAny_bind (m := someArgs "iter" 1 2 _) (wpAny_of_eq (a := [Value.ref a]) (by first | rfl | kernel_rfl!) ?_)
      dsimp only
      have hll : h₁.IsList a vs.toArray := ⟨o, w₁.gin _ _ h1, h2, n, h3⟩
      refine wpAny_bind (wpAny_pyIter_list hll (wpAny_pure ⟨_, rfl, ?_⟩))
      dsimp only
      have hsz := Heap.get?_none_of_le (h := h₁) (Nat.le_refl _)
      generalize hh₂ : h₁.push { cls := .type "list_iterator", data := .fields #[.ref a, .int 0 0] } = h₂
      have k₂ : Keep h₁ h₂ := hh₂ ▸ Keep.push _ _
      have w₂ := w₁.keep k₂
      have hit : h₂.IsListIter h₁.objs.size a 0 := ⟨_, hh₂ ▸ Heap.get?_push_size _ rfl, rfl, rfl⟩
      have hL : h₁.objs.size ∉ c.fp := fun hp => w₁.fpl _ hp hsz
      have hat : ItAt g₁ h₂ h₁.objs.size ds := ⟨a, 0, o, vs, n, hit, h1, h2, h3, Nat.zero_le _, by rw [h4.length]; exact hn, by simpa using h4⟩
      refine W.store (v := .it h₁.objs.size ds) (σ' := σ' h₁.objs.size) ok w₂ (hu _) (fun h' off => ⟨if_pos rfl, hat.at' fun o e => (off _ hL).trans e, w₁.kin.none_size, w₁.gin.none_size, hL⟩) (fun _ y v b hy hf _ hm e => ?_) fun h' tk off w' => ⟨h', tk, g₁, _, _, .next, rfl, w', .next, k _⟩
      cases e
      exact (w₁.free_ne hy hf hm).1 hsz
/-- a def whose names are captured -/
theorem bindL_mem {kindOf : Str → Option NameKind} : ∀ {binds : List (Str × Value)} {m : Str → Option Value} {x : Str} {u : Value}, (binds.map (·.1)).Nodup → ((x, u) ∈ binds ∨ (x ∉ binds.map (·.1) ∧ m x = some u)) → kindOf x = some .local → bindL kindOf binds m x = some u
  | [], m, x, u, _, h, _ => by rcases h with h | h; cases h; exact h.2
  | (n, v) :: r, m, x, u, hn, h, hk => by
    rw [List.map_cons, List.nodup_cons] at hn
    unfold bindL
    refine bindL_mem hn.2 ?_ hk
    rcases h with h | ⟨h1, h2⟩
    · rcases List.mem_cons.mp h with e | h
      · cases e
        exact .inr ⟨hn.1, by rw [if_pos hk]; simp⟩
      · exact .inl h
    · rw [List.map_cons, List.mem_cons, not_or] at h1
      refine .inr ⟨h1.2, ?_⟩
      split
      · show (if x = n then some v else m x) = some u; rw [if_neg h1.1]; exact h2
      · exact h2
theorem bindC_mem {kindOf : Str → Option NameKind} : ∀ {binds : List (Str × Value)} {m : Str → Option Value} {x : Str} {u : Value}, (binds.map (·.1)).Nodup → ((x, u) ∈ binds ∨ (x ∉ binds.map (·.1) ∧ m x = some u)) → kindOf x ≠ some .local → bindC kindOf binds m x = some u
  | [], m, x, u, _, h, _ => by rcases h with h | h; cases h; exact h.2
  | (n, v) :: r, m, x, u, hn, h, hk => by
    rw [List.map_cons, List.nodup_cons] at hn
    unfold bindC
    refine bindC_mem hn.2 ?_ hk
    rcases h with h | ⟨h1, h2⟩
    · rcases List.mem_cons.mp h with e | h
      · cases e
        exact .inr ⟨hn.1, by rw [if_neg hk]; simp⟩
      · exact .inl h
    · rw [List.map_cons, List.mem_cons, not_or] at h1
      refine .inr ⟨h1.2, ?_⟩
      split
      · exact h2
      · show (if x = n then some v else m x) = some u; rw [if_neg h1.1]; exact h2
theorem cellsFrom_lookup : ∀ (names : List (Str × NameKind)) (n : Nat) (acc : List (Str × Addr)) (x : Str), names.lookup x = some .cell → (acc.lookup x).isSome = true ∨ True → ((cellsFrom n names acc).lookup x).isSome = true
  | [], _, _, _, h, _ => by cases h
  | (y, k) :: r, n, acc, x, h, _ => by
    have aux : ∀ (names : List (Str × NameKind)) (n : Nat) (acc : List (Str × Addr)), (acc.lookup x).isSome = true → ((cellsFrom n names acc).lookup x).isSome = true := by
      intro names
      induction names with
      | nil => intro n acc h; exact h
      | cons p r ih =>
        intro n acc h
        obtain ⟨y, k⟩ := p
        unfold cellsFrom
        split
        · refine ih _ _ ?_
          rw [List.lookup_cons]
          cases x == y <;> simp [h]
        · exact ih _ _ h
    unfold cellsFrom
    rw [List.lookup_cons] at h
    cases hxy : x == y with
    | true =>
      rw [hxy] at h; cases h
      rw [if_pos (by decide)]
      exact aux _ _ _ (by rw [List.lookup_cons, hxy]; rfl)
    | false =>
      rw [hxy] at h
      split
      · exact cellsFrom_lookup r _ _ x h (.inr trivial)
      · exact cellsFrom_lookup r _ _ x h (.inr trivial)
theorem FN.of_bodyC {prog : Program} {w : World} {h₁ : Heap} {mg mb : Str → Option Value} {f : Addr} {n : Nat} {args : List D} {r : D} {o : Obj} {fd : FuncData} {body : List Stmt} {params names : List Str}
    (hst : Stat h₁ mg mb) (ho : h₁.get? f = some o) (hdata : o.data = .func fd) (hcd : h₁.CodeRec fd.code fd.qualname) (hbody : fd.body = .stmts body)
    (hgl : fd.globals = mainGlobals) (hcl : fd.closure = []) (hbl : fd.builtins = builtinsNs)
    (hlen : params.length = args.length)
    (hbind : ∀ (vs : List Value), vs.length = params.length → bindArgs fd ⟨vs, []⟩ = pure (params.zip vs))
    (hloc : ∀ x ∈ params ++ names, (fd.scope.names.lookup x = some .local ∨ fd.scope.names.lookup x = some .cell) ∧ (x == ("__debug__" : Str)) = false) (hnod : (params ++ names).Nodup)
    (hco : fd.scope.isCoroutine = false) (hgen : fd.scope.isGenerator = false) (hk : fd.scope.kind = .function)
    (hsx : ∀ (c : Cfg), c.Ok → c.Is prog w h₁ mg → c.env.scope = fd.scope → c.A.depth + n < recursionLimit → c.A.units + 8 * n + 64 < cLine → SX c (fun _ _ => False) (startSig names params args) body (fun fl _ => fl = .ret r)) :
    FN prog w h₁ f (n + 1) args r := by
  intro A s g vs Q E hh hd hu hk₁ hg hr q
  have hlv : params.length = vs.length := by rw [hlen, ← hr.length]
  refine wpAny_call (codeAny_call_cells (fd := fd) (body := body) (binds := params.zip vs) (by omega) (hk₁ _ _ ho) hdata (hst.nolimit.keeps hk₁) (hcd.keeps hk₁) hbody (hbind vs hlv.symm) hcl (fun x hx => ?_) (fun s₁ hin => ?_) hco hgen hk)
  · rcases (hloc _ (List.mem_append_left _ (List.of_mem_zip hx).1)).1 with h | h
    · exact .inl h
    · exact .inr ⟨h, cellsFrom_lookup _ _ _ _ h (.inr trivial)⟩
  generalize henv : callEnvC fd s.heap.objs.size f = env at hin
  have e1 : env.scope = fd.scope := by rw [← henv]; rfl
  have e2 : env.locals = s.heap.objs.size := by rw [← henv]; rfl
  have e3 : env.globals = mainGlobals := by rw [← henv]; exact hgl
  have e4 : env.builtins = builtinsNs := by rw [← henv]; exact hbl
  have e5 : env.cells = cellsFrom (s.heap.objs.size + 1) fd.scope.names [] := by rw [← henv]; rfl
  have hkeys := startSig_keys (names := names) hlen
  have hnp := (List.nodup_append.mp hnod).1
  have hzk : ((params.zip vs).map (·.1)).Nodup := by rw [List.map_fst_zip (by rw [hlv]; exact Nat.le_refl _)]; exact hnp
  obtain ⟨hic, hcell, hap, hab⟩ := hin
  obtain ⟨h₀, tk₀, rfl⟩ := hic.same
  have hns := hic.ns
  have hk₂ : Keep s.heap h₀ := hic.keep
  have hfresh : ∀ p, s.heap.objs.size ≤ p → s.heap.get? p = none := fun p hp => Heap.get?_none_of_le hp
  have hgf : ∀ p, s.heap.objs.size ≤ p → g p = none := fun p hp => by
    cases e : g p with
    | none => rfl
    | some o => have := hg _ _ e; rw [hfresh p hp] at this; cases this
  have hfp : ∀ p ∈ s.heap.objs.size :: (env.cells.map (·.1)).filterMap (fun x => env.cells.lookup x), s.heap.objs.size ≤ p ∧ h₀.get? p ≠ none := by
    intro p hp
    rcases List.mem_cons.mp hp with rfl | hp
    · refine ⟨Nat.le_refl _, ?_⟩
      obtain ⟨o, _, _, e, _⟩ := hns; rw [e2] at e; rw [e]; exact fun e => nomatch e
    · obtain ⟨x, _, hx⟩ := List.mem_filterMap.mp hp
      refine ⟨Nat.le_of_lt (e2 ▸ hab x p (mem_of_lookup hx)), ?_⟩
      obtain ⟨o, e, _⟩ := hcell x p hx
      rw [e]; exact fun e => nomatch e
  have hfull : ∀ x p, env.cells.lookup x = some p → p ∈ s.heap.objs.size :: (env.cells.map (·.1)).filterMap (fun x => env.cells.lookup x) := fun x p h =>
    .tail _ (List.mem_filterMap.mpr ⟨x, List.mem_map_of_mem (f := (·.1)) (mem_of_lookup h), h⟩)
  have hkind : ∀ x, env.kindOf x = fd.scope.names.lookup x := fun x => by unfold Env.kindOf; rw [e1]
  have hcells : ∀ x, fd.scope.names.lookup x = some .cell → ∃ p, env.cells.lookup x = some p := fun x h => by
    have := cellsFrom_lookup _ (s.heap.objs.size + 1) [] x h (.inr trivial)
    rw [← e5] at this
    exact Option.isSome_iff_exists.mp this
  have hw : W { prog := prog, w := w, A := A.deeper env, h₁ := h₁, mg := mg, mb := mb, env := env, fp := s.heap.objs.size :: (env.cells.map (·.1)).filterMap (fun x => env.cells.lookup x) } (fun b => s.heap.get? b) (fun b => s.heap.get? b ≠ none ∧ g b = none) g
      (fun x => if env.kindOf x = some .local then bindL env.kindOf (params.zip vs) (fun _ => none) x else bindC env.kindOf (params.zip vs) (fun _ => none) x) (startSig names params args) h₀ := by
    refine { base := fun b o e => hk₁ _ _ e, kin := fun b o e => hk₂ _ _ e, gin := fun b o e => hk₂ _ _ (hg _ _ e), fpk := fun p hp => ⟨hfresh p (hfp p hp).1, hgf p (hfp p hp).1⟩, fpl := fun p hp => (hfp p hp).2, nN := fun b hb => ⟨hb.1, hb.2⟩, fr := ⟨⟨_, hns, fun x hx => (if_pos hx).symm⟩, fun x p hx hp => ?_⟩, cel := fun x p h => .inl (hfull x p h), Lfp := by show env.locals ∈ _; rw [e2]; exact .head _, nod := by rw [hkeys]; exact hnod, lcl := ?_, loc := startSig_holds hr fun x u hm => ?_, sep := fun x u y v a hx _ hf => ?_ }
    · have hx' : env.kindOf x ≠ some .local := fun e => by rw [show env.kindOf x = _ from hx] at e; cases e
      rw [if_neg hx']; exact hcell x p hp
    · rw [hkeys]; intro x hx
      refine ⟨?_, (hloc x hx).2⟩
      show (env.kindOf x = _ ∨ (env.kindOf x = _ ∧ _)); rw [hkind]
      exact (hloc x hx).1.imp id fun h => ⟨h, hcells x h⟩
    · by_cases hl : env.kindOf x = some .local
      · rw [if_pos hl]; exact bindL_mem hzk (.inl hm) hl
      · rw [if_neg hl]; exact bindC_mem hzk (.inl hm) hl
    · rw [startSig_free hx] at hf; cases hf
  refine wpAny_mono (hsx { prog := prog, w := w, A := A.deeper env, h₁ := h₁, mg := mg, mb := mb, env := env, fp := s.heap.objs.size :: (env.cells.map (·.1)).filterMap (fun x => env.cells.lookup x) } ⟨⟨hst, by dsimp only; rw [e1]; exact hk, e3, e4, hh, by show A.units + 3 + 64 < _; omega, by show A.depth + 1 < _; omega⟩, by dsimp only; rw [e2]; exact .head _, hfull, fun x y p h h' => name_of_addr hap (mem_of_lookup h) (mem_of_lookup h'), fun x p h => Nat.ne_of_gt (hab x p (mem_of_lookup h))⟩ ⟨rfl, rfl, rfl, rfl⟩ e1 (by show A.depth + 1 + n < _; omega) (by show A.units + 3 + 8 * n + 64 < _; omega) (fun b => s.heap.get? b) (fun b => s.heap.get? b ≠ none ∧ g b = none) g _ { s with heap := h₀, toks := tk₀ } hw) (fun fl s' hf => ?_) fun _ _ e => e.elim
  obtain ⟨h', tk, g', m', σ', af, rfl, w', hfl, rfl⟩ := hf
  cases hfl with
  | ret hv =>
    have hkeep : Keep s.heap h' := fun b o e => w'.kin b o e
    have hgi : g.In h' := hg.keep hkeep
    refine q _ h' (g.or g') tk hkeep (hgi.or w'.gin) (Le.or_left _ _) (fun b hb => ?_) (hv.mono (Le.or_right hgi w'.gin))
    cases e : g b with
    | some o => exact Le.or_left _ _ _ _ e
    | none => exact G.or_none e (w'.nN b ⟨hb, e⟩).2
end
end Mine
namespace Mine
noncomputable def freesOf (names : List (Str × NameKind)) : List Str := (names.filter (·.2 == .free)).map (·.1)
noncomputable def closOf (env : Env) (names : List (Str × NameKind)) : List (Str × Addr) := ((freesOf names).map fun n => (n, (env.cells.lookup n).getD 0)).reverse
theorem closure_forIn {env : Env} (f : Str × NameKind → List (Str × Addr) → Sem (ForInStep (List (Str × Addr))))
    (hf : ∀ n k cs, f (n, k) cs = if k == .free then (do let a ← cellOf env n; pure (.yield ((n, a) :: cs))) else pure (.yield cs)) :
    ∀ (names : List (Str × NameKind)) (acc : List (Str × Addr)), (∀ n ∈ freesOf names, (env.cells.lookup n).isSome = true) → (forIn names acc f : Sem _) = pure (closOf env names ++ acc)
  | [], acc, _ => by rw [List.forIn_nil]; rfl
  | (n, k) :: r, acc, h => by
    rw [List.forIn_cons, hf]
    cases hk : k == NameKind.free with
    | true =>
      have e1 : freesOf ((n, k) :: r) = n :: freesOf r := by simp [freesOf, List.filter_cons, hk]
      obtain ⟨a, ha⟩ := Option.isSome_iff_exists.mp (h n (by rw [e1]; exact .head _))
      have ih := closure_forIn f hf r ((n, a) :: acc) fun m hm => h m (by rw [e1]; exact .tail _ hm)
      have e2 : closOf env ((n, k) :: r) ++ acc = closOf env r ++ (n, a) :: acc := by simp [closOf, e1, ha]
      rw [e2, if_pos rfl]
      unfold cellOf; rw [ha]
      exact ih
    | false =>
      have e1 : freesOf ((n, k) :: r) = freesOf r := by simp [freesOf, List.filter_cons, hk]
      have ih := closure_forIn f hf r acc fun m hm => h m (by rw [e1]; exact hm)
      have e2 : closOf env ((n, k) :: r) = closOf env r := by simp [closOf, e1]
      rw [e2, if_neg Bool.false_ne_true]
      exact ih
theorem closureFor_frees {env : Env} {scope : Scope} (h : ∀ n ∈ freesOf scope.names, (env.cells.lookup n).isSome = true) : closureFor scope env = pure (closOf env scope.names) := by
  unfold closureFor
  dsimp only
  rw [closure_forIn (env := env) _ (fun n k cs => by dsimp only) scope.names [] h]
  simp
theorem closOf_lookup {env : Env} {names : List (Str × NameKind)} {y : Str} {p : Addr} (h : (closOf env names).lookup y = some p) (hs : ∀ n ∈ freesOf names, (env.cells.lookup n).isSome = true) : env.cells.lookup y = some p := by
  have hm := mem_of_lookup h
  simp only [closOf, List.mem_reverse, List.mem_map] at hm
  obtain ⟨n, hn, e⟩ := hm
  cases e
  obtain ⟨a, ha⟩ := Option.isSome_iff_exists.mp (hs y hn)
  rw [ha]; rfl
theorem closOf_free {env : Env} {names : List (Str × NameKind)} {y : Str} {p : Addr} (h : (closOf env names).lookup y = some p) : y ∈ freesOf names := by
  have hm := mem_of_lookup h
  simp only [closOf, List.mem_reverse, List.mem_map] at hm
  obtain ⟨n, hn, e⟩ := hm
  cases e
  exact hn
theorem lookup_map_pair {α : Type} {f : Str → α} : ∀ {l : List Str} {y : Str}, y ∈ l → (l.map fun n => (n, f n)).lookup y = some (f y)
  | n :: r, y, h => by
    rw [List.map_cons, List.lookup_cons]
    cases e : y == n with
    | true => rw [beq_iff_eq.mp e]
    | false =>
      rcases List.mem_cons.mp h with rfl | h
      · simp at e
      · exact lookup_map_pair h
theorem closOf_some {env : Env} {names : List (Str × NameKind)} {y : Str} (h : y ∈ freesOf names) : ∃ p, (closOf env names).lookup y = some p := by
  unfold closOf
  rw [← List.map_reverse]
  exact ⟨_, lookup_map_pair (List.mem_reverse.mpr h)⟩
theorem relabel_lookup {env : Env} : ∀ {names : List (Str × NameKind)} {x : Str} {k : NameKind}, names.lookup x = some k →
    (names.map fun (n, k) => if (k == NameKind.free && env.scope.kind == .function && env.kindOf n == some .cell) then (n, NameKind.cell) else (n, k)).lookup x = some (if (k == NameKind.free && env.scope.kind == .function && env.kindOf x == some .cell) then .cell else k)
  | [], _, _, h => by simp at h
  | (n, k') :: r, x, k, h => by
    have ih := @relabel_lookup env r x k
    show List.lookup x ((if (k' == NameKind.free && env.scope.kind == .function && env.kindOf n == some .cell) = true then (n, NameKind.cell) else (n, k')) :: _) = _
    cases hx : x == n with
    | true =>
      simp only [List.lookup_cons, hx] at h
      cases h
      have : x = n := beq_iff_eq.mp hx
      subst this
      by_cases hc : (k' == NameKind.free && env.scope.kind == .function && env.kindOf x == some .cell) = true
      · rw [if_pos hc, if_pos hc, List.lookup_cons, hx]
      · rw [if_neg hc, if_neg hc, List.lookup_cons, hx]
    | false =>
      simp only [List.lookup_cons, hx] at h
      by_cases hc : (k' == NameKind.free && env.scope.kind == .function && env.kindOf n == some .cell) = true
      · rw [if_pos hc, List.lookup_cons, hx]; exact ih h
      · rw [if_neg hc, List.lookup_cons, hx]; exact ih h
theorem walks_within {prog : Program} {w : World} {A : Around} {I : Addr} {fp wr : List Addr} {n : Nat} {P : Nat → Value → Prop} {St : Nat → Heap → Prop} (W : Walks prog w A I fp wr n P St) : Walks prog w A I fp wr n (fun i v => i < n ∧ P i v) St where
  sub := W.sub
  frame := W.frame
  item := fun i s Q E hi st hQ => W.item i s Q E hi st fun v h' tk hp => hQ v h' tk ⟨hi, hp⟩
  done := W.done
  self := W.self
theorem W.butI {c : Cfg} {σ : Sig} {k g : G} {N : Addr → Prop} {m : Str → Option Value} {h h₂ : Heap} {I : Addr} (w' : W c k N g m σ h) (hIk : k I = none) (hgI : g I = none) (hIL : I ∉ c.fp) (hIo : ∀ x v, (x, v) ∈ σ → v.free = true → m x ≠ some (.ref I))
    (hsame : ∀ b o, b ≠ I → h.get? b = some o → h₂.get? b = some o) : W c k N g m σ h₂ := by
  have hne : ∀ p, h.get? p ≠ none → p ≠ I → h₂.get? p ≠ none := fun p hp hpa => by
    obtain ⟨o, e⟩ := Option.ne_none_iff_exists'.mp hp
    rw [hsame p o hpa e]; exact fun e => nomatch e
  refine { w' with kin := fun b o e => hsame b o (fun q => by rw [q, hIk] at e; cases e) (w'.kin b o e), gin := fun b o e => hsame b o (fun q => by rw [q, hgI] at e; cases e) (w'.gin b o e), fpl := fun p hp => hne p (w'.fpl p hp) (fun e => hIL (e ▸ hp)), fr := ⟨?_, fun y p h1 h2 => ?_⟩, loc := fun x v hm => ?_ }
  · obtain ⟨m₀, h1, h2⟩ := w'.fr.ns
    exact ⟨m₀, h1.extBut (fun b o hb e => hsame b o hb e) (fun e => hIL (e ▸ w'.Lfp)), h2⟩
  · obtain ⟨o, e1, e2⟩ := w'.fr.cl y p h1 h2
    refine ⟨o, hsame p o (fun q => ?_) e1, e2⟩
    subst q
    rcases w'.cel y p h2 with q | q
    · exact hIL q
    · exact q hIk
  · have hv := w'.loc x v hm
    cases v with
    | un => trivial
    | val d => exact hv
    | own ds => obtain ⟨a, vs, n, h1, h2, r⟩ := hv; exact ⟨a, vs, n, h1, hsame a _ (fun q => hIo x _ hm rfl (q ▸ h1)) h2, r⟩
    | it a ds => obtain ⟨h1, h2, r⟩ := hv; exact ⟨h1, h2.at' fun o e => hsame a _ (fun q => hIo x _ hm rfl (q ▸ h1)) e, r⟩
noncomputable def D.ofV : Value → D
  | .int i _ => .int i
  | .str x _ => .str x
  | .bool b => .bool b
  | _ => .none
theorem Rep.ofV {g : G} {v : Value} {d : D} (h : Rep g v d) (hs : d.Scalar) : D.ofV v = d := by
  cases hs <;> cases h <;> rfl
theorem Paired.reps {g : G} {f : D → D} : ∀ {vs ys : List Value}, Paired (fun v y => Rep g y (f (D.ofV v))) vs ys → Reps g ys ((vs.map D.ofV).map f)
  | _, _, .nil => .nil
  | _, _, .cons h1 h2 => .cons h1 (Paired.reps h2)
section
variable {c : Cfg} {σ σ' σ₁ σ₂ : Sig} {E : Value → Shared → Prop} {Φ : AFlow → Sig → Prop} {rest : List Stmt}
/-- the frame of a comprehension -/
structure CompOf (c c' : Cfg) (scope : Scope) : Prop where
  ev : c'.Ev
  prog : c'.prog = c.prog
  w : c'.w = c.w
  h₁ : c'.h₁ = c.h₁
  mg : c'.mg = c.mg
  A : c'.A = c.A
  scope : c'.env.scope = relabel scope c.env
theorem CompOf.is {c c' : Cfg} {scope : Scope} {prog : Program} {w : World} {h₁ : Heap} {mg : Str → Option Value} (co : CompOf c c' scope) (is : c.Is prog w h₁ mg) : c'.Is prog w h₁ mg :=
  ⟨co.prog.trans is.prog, co.w.trans is.w, co.h₁.trans is.h, co.mg.trans is.mg⟩
theorem CompOf.gl {c c' : Cfg} {scope : Scope} (co : CompOf c c' scope) {x : Str} {v : Option Value} (h : scope.names.lookup x = some .globalImplicit) (hd : (x == ("__debug__" : Str)) = false) (hm : c.mg x = v) : GL c' x v :=
  ⟨by unfold Env.kindOf; rw [co.scope]; exact relabel_lookup h, hd, by rw [co.mg]; exact hm⟩
theorem comp_some {k g : G} {N : Addr → Prop} {m : Str → Option Value} {h : Heap} {scope : Scope} (w : W c k N g m σ h) (hfree : ∀ n ∈ freesOf scope.names, c.env.kindOf n = some .cell ∧ n ∈ σ.map (·.1)) : ∀ n ∈ freesOf scope.names, (c.env.cells.lookup n).isSome = true := fun n hn => by
  obtain ⟨h1, h2⟩ := hfree n hn
  rcases (w.lcl n h2).1 with h | ⟨_, p, h⟩
  · rw [h1] at h; cases h
  · rw [h]; rfl
theorem comp_quiet (ok : c.Ev) {elt iter : Expr} {x : Str} {px pos : Pos} {ifs : List Expr} {scope : Scope} {ds : List D} (cap : Sig) (p : D → Bool) (f : D → D)
    (hsz : ds.length ≤ 16777216) (hsc : ∀ d ∈ ds, d.Scalar) (hfs : ∀ d ∈ ds, (f d).Scalar)
    (hcell : ∀ y ∈ scope.names, y.2 ≠ .cell) (hkind : scope.kind = .function) (hnames : ∀ y ∈ scope.names, y.2 = .local → scope.names.lookup y.1 = some .local) (hx : scope.names.lookup x = some .local) (hxd : (x == ("__debug__" : Str)) = false)
    (hfree : ∀ n ∈ freesOf scope.names, c.env.kindOf n = some .cell ∧ n ∈ σ.map (·.1))
    (hcap : ∀ q ∈ cap, q ∈ σ ∧ q.2.free = false ∧ scope.names.lookup q.1 = some .free ∧ q.1 ∈ freesOf scope.names) (hnod : (x :: cap.map (·.1)).Nodup)
    (hifs : ifs = [] ∧ (∀ d ∈ ds, p d = true) ∨ ∃ t, ifs = [t] ∧ ∀ c' d, CompOf c c' scope → d ∈ ds → EVB c' ((x, .val d) :: cap) t (p d))
    (helt : ∀ c' d, CompOf c c' scope → d ∈ ds → p d = true → EV c' ((x, .val d) :: cap) elt (f d))
    {k g₁ : G} {N : Addr → Prop} {m : Str → Option Value} {s₁ : Shared} {I : Addr} {P : Nat → Value → Prop} (w₁ : W c k N g₁ m σ s₁.heap) (hIk : k I = none) (hgI : g₁ I = none) (hIL : I ∉ c.fp) (hP : ∀ i v d, P i v → ds[i]? = some d → Rep g₁ v d) :
    QuietOnC c.prog c.w c.A c.env scope (closOf c.env scope.names) x ifs elt [I] (fun i v => i < ds.length ∧ P i v) (fun v => p (D.ofV v)) (fun v y => Rep (fun _ => none) y (f (D.ofV v))) s₁ := by
  have hsome := comp_some w₁ hfree
  obtain ⟨h₁, gn₁, dr₁, tk₁, os₁⟩ := s₁
  dsimp only at w₁
  have mk : ∀ (C : Addr) (i : Nat) (v : Value) (s₃ : Shared) (m₃ : Str → Option Value) (d : D), h₁.objs.size ≤ C → s₃.heap.Ns C m₃ → m₃ x = some v → (∀ b o, b ∉ [I] → h₁.get? b = some o → s₃.heap.get? b = some o) → Rep g₁ v d →
      ∃ c' m', CompOf c c' scope ∧ c'.env = compEnvC scope (closOf c.env scope.names) C c.env ∧ W c' (fun b => if b = I then none else h₁.get? b) (fun _ => False) g₁ m' ((x, .val d) :: cap) s₃.heap := by
    intro C i v s₃ m₃ d hC hn hm hk hr
    have hCn : h₁.get? C = none := Heap.get?_none_of_le hC
    refine ⟨{ c with env := compEnvC scope (closOf c.env scope.names) C c.env, fp := [C] }, fun y => if (relabel scope c.env).names.lookup y = some .local then m₃ y else m y, ⟨⟨ok.st, ?_, ok.hg, ok.hb, ok.hh, ok.un, ok.dp⟩, rfl, rfl, rfl, rfl, rfl, rfl⟩, rfl, ?_⟩
    · exact hkind
    have hxl : (relabel scope c.env).names.lookup x = some .local := lookup_relabel_local hx
    have hcapk : ∀ q ∈ cap, (relabel scope c.env).names.lookup q.1 = some .cell := fun q hq => by
      obtain ⟨_, _, h3, h4⟩ := hcap q hq
      have : (relabel scope c.env).names.lookup q.1 = _ := relabel_lookup (env := c.env) h3
      rw [this, ok.hk, (hfree _ h4).1]; rfl
    refine { base := fun b o e => ?_, kin := fun b o e => ?_, gin := fun b o e => ?_, fpk := fun p hp => ?_, fpl := fun p hp => ?_, nN := fun b hb => hb.elim, fr := ⟨⟨m₃, hn, fun y hy => (if_pos hy).symm⟩, fun y p hy hp => ?_⟩, cel := fun y p hp => .inr ?_, Lfp := .head _, nod := hnod, lcl := fun y hy => ?_, loc := fun y v' hy => ?_, sep := fun y u z v' a hy hz hf => ?_ }
    · have e1 := w₁.base b o e
      rw [if_neg (fun q => by rw [q, hIk] at e1; cases e1)]; exact w₁.kin _ _ e1
    · dsimp only at e
      by_cases hb : b = I
      · rw [if_pos hb] at e; cases e
      · rw [if_neg hb] at e; exact hk b o (by simpa using hb) e
    · exact hk b o (fun q => by rw [List.mem_singleton.mp q, hgI] at e; cases e) (w₁.gin b o e)
    · rw [List.mem_singleton.mp hp]
      refine ⟨by rw [hCn]; exact ite_self _, ?_⟩
      cases e : g₁ C with
      | none => rfl
      | some o => rw [w₁.gin _ _ e] at hCn; cases hCn
    · rw [List.mem_singleton.mp hp]
      obtain ⟨o, _, _, e, _⟩ := hn; rw [e]; exact fun e => nomatch e
    · have hy' : (relabel scope c.env).names.lookup y = some .cell := hy
      rw [if_neg (by rw [hy']; decide)]
      have hp' := closOf_lookup hp hsome
      have hyf : y ∈ freesOf scope.names := by
        exact closOf_free hp
      obtain ⟨o, e1, e2⟩ := w₁.fr.cl y p (hfree y hyf).1 hp'
      refine ⟨o, hk p o (fun q => ?_) e1, e2⟩
      rw [List.mem_singleton.mp q] at hp'
      rcases w₁.cel y I hp' with h | h
      · exact hIL h
      · exact h hIk
    · have hp' := closOf_lookup hp hsome
      have hyf : y ∈ freesOf scope.names := by
        exact closOf_free hp
      obtain ⟨o, e1, e2⟩ := w₁.fr.cl y p (hfree y hyf).1 hp'
      have hpI : p ≠ I := fun q => by
        rw [q] at hp'
        rcases w₁.cel y I hp' with h | h
        · exact hIL h
        · exact h hIk
      rw [if_neg hpI, e1]; exact fun e => nomatch e
    · rcases List.mem_cons.mp hy with rfl | hy
      · exact ⟨.inl hxl, hxd⟩
      · obtain ⟨q, hq, rfl⟩ := List.mem_map.mp hy
        obtain ⟨h1, _, _, h4⟩ := hcap q hq
        exact ⟨.inr ⟨hcapk q hq, closOf_some h4⟩, (w₁.lcl _ (List.mem_map_of_mem (f := (·.1)) h1)).2⟩
    · rcases List.mem_cons.mp hy with e | hy
      · cases e
        exact ⟨v, by dsimp only; rw [if_pos hxl]; exact hm, hr⟩
      · obtain ⟨h1, h2, _, _⟩ := hcap _ hy
        have hv := w₁.loc y v' h1
        cases v' with
        | un => trivial
        | val d => obtain ⟨u, e1, e2⟩ := hv; exact ⟨u, by dsimp only; rw [if_neg (by rw [hcapk _ hy]; decide)]; exact e1, e2⟩
        | own _ => cases h2
        | it _ _ => cases h2
    · rcases List.mem_cons.mp hy with e | hy
      · cases e; cases hf
      · obtain ⟨_, h2, _, _⟩ := hcap _ hy; rw [h2] at hf; cases hf
  have hPlt : ∀ (i : Nat) (v : Value), i < ds.length ∧ P i v → ∃ d, d ∈ ds ∧ Rep g₁ v d ∧ D.ofV v = d := fun i v ⟨hlt, hPv⟩ => by
    have hd : ds[i]? = some ds[i] := by simp [hlt]
    have hr := hP i v _ hPv hd
    exact ⟨ds[i], List.getElem_mem hlt, hr, hr.ofV (hsc _ (List.getElem_mem hlt))⟩
  refine ⟨fun C i v s₃ m₃ E' hC hPv hn hm hk _ => ?_, fun C i v s₃ m₃ E' hC hPv hpv hn hm hk _ => ?_⟩
  · obtain ⟨d, hd, hr, hov⟩ := hPlt i v hPv
    obtain ⟨c', m', co, he, w'⟩ := mk C i v s₃ m₃ d hC hn hm hk hr
    rw [hov]
    rcases hifs with ⟨rfl, hp⟩ | ⟨t, rfl, ht⟩
    · exact wpAny_pure ⟨(hp d hd).symm, s₃.heap, s₃.toks, rfl, fun _ _ e => e⟩
    · have := ht c' d co hd _ _ _ _ s₃ (fun b s₄ => b = p d ∧ Keeps s₃ s₄) E' w' fun h' g' tk k' _ _ => ⟨rfl, h', tk, rfl, k'⟩
      rw [he, show c'.M = c.M by unfold Cfg.M; rw [co.prog, co.w], co.A] at this
      rw [List.forIn_cons, if_pos rfl]
      exact wpAny_bind (wpAny_bind (wpAny_mono this (fun b s₄ h => wpAny_pure (wpAny_pure h)) fun _ _ e => e))
  · obtain ⟨d, hd, hr, hov⟩ := hPlt i v hPv
    obtain ⟨c', m', co, he, w'⟩ := mk C i v s₃ m₃ d hC hn hm hk hr
    rw [hov] at hpv ⊢
    have := helt c' d co hd hpv _ _ _ _ s₃ (fun y s₄ => Rep (fun _ => none) y (f d) ∧ Keeps s₃ s₄) E' w' fun v h' g' tk k' _ _ r' => ⟨r'.any (hfs d hd), h', tk, rfl, k'⟩
    rw [he, show c'.M = c.M by unfold Cfg.M; rw [co.prog, co.w], co.A] at this
    exact this
theorem comp_reps {ds : List D} {vs ys : List Value} {p : D → Bool} {f : D → D} {g₁ : G} {P : Nat → Value → Prop} (hsc : ∀ d ∈ ds, d.Scalar) (hP : ∀ i v d, P i v → ds[i]? = some d → Rep g₁ v d) (hlenv : vs.length = ds.length) (hPv : ∀ j v, vs[j]? = some v → j < ds.length ∧ P j v)
    (hpair : Paired (fun v y => Rep (fun _ => none) y (f (D.ofV v))) (vs.filter fun v => p (D.ofV v)) ys) : Reps (fun _ => none) ys ((ds.filter p).map f) := by
  have hvs : vs.map D.ofV = ds := by
    refine List.ext_getElem? fun j => ?_
    by_cases hj : j < vs.length
    · have e1 : vs[j]? = some vs[j] := by simp [hj]
      have hd : ds[j]? = some (ds[j]'(by omega)) := by simp [show j < ds.length by omega]
      have hr := hP j _ _ (hPv j _ e1).2 hd
      rw [List.getElem?_map, e1, hd, Option.map_some, hr.ofV (hsc _ (List.getElem_mem (by omega)))]
    · rw [List.getElem?_eq_none (by simp; omega), List.getElem?_eq_none (by omega)]
  have hreps := Paired.reps hpair
  have e2 : (vs.filter fun v => p (D.ofV v)).map D.ofV = ds.filter p := by rw [← hvs, List.filter_map]; rfl
  rw [e2] at hreps
  exact hreps
theorem EV.comp (ok : c.Ev) {elt iter : Expr} {x : Str} {px pos : Pos} {ifs : List Expr} {scope : Scope} {ds : List D} (cap : Sig) (p : D → Bool) (f : D → D)
    (hi : IT c σ iter ds) (hsz : ds.length ≤ 16777216) (hsc : ∀ d ∈ ds, d.Scalar) (hfs : ∀ d ∈ ds, (f d).Scalar)
    (hcell : ∀ y ∈ scope.names, y.2 ≠ .cell) (hkind : scope.kind = .function) (hnames : ∀ y ∈ scope.names, y.2 = .local → scope.names.lookup y.1 = some .local) (hx : scope.names.lookup x = some .local) (hxd : (x == ("__debug__" : Str)) = false)
    (hfree : ∀ n ∈ freesOf scope.names, c.env.kindOf n = some .cell ∧ n ∈ σ.map (·.1))
    (hcap : ∀ q ∈ cap, q ∈ σ ∧ q.2.free = false ∧ scope.names.lookup q.1 = some .free ∧ q.1 ∈ freesOf scope.names) (hnod : (x :: cap.map (·.1)).Nodup)
    (hifs : ifs = [] ∧ (∀ d ∈ ds, p d = true) ∨ ∃ t, ifs = [t] ∧ ∀ c' d, CompOf c c' scope → d ∈ ds → EVB c' ((x, .val d) :: cap) t (p d))
    (helt : ∀ c' d, CompOf c c' scope → d ∈ ds → p d = true → EV c' ((x, .val d) :: cap) elt (f d))
    (hs : ∀ v, foldedSetIterable iter c.env v = pure v) : EV c σ (.ListComp elt [⟨.Name x px, iter, ifs, 0⟩] scope pos) (.list ((ds.filter p).map f)) := by
  intro k N g m s Q E w q
  have hsome := comp_some w hfree
  refine wpAny_ListComp_free (fun v => p (D.ofV v)) (fun v y => Rep (fun _ => none) y (f (D.ofV v))) (closureFor_frees hsome) hcell hkind hnames hx (hi k N g m s _ E w fun I fp n P St h₁ g₁ t₁ k₁ w₁ l₁ Wk st₁ hI hIn hgI hfp hlen hP hlive => ?_) hs
  subst hlen
  have hIk : k I = none := by
    cases q : k I with
    | none => rfl
    | some o => rw [w.kin _ _ q] at hIn; cases hIn
  have hIL : I ∉ c.fp := fun e => w.fpl I e hIn
  refine ⟨I, fp, [I], ds.length, fun i v => i < ds.length ∧ P i v, St, rfl, walks_within Wk, by rw [sizeLine_eq]; exact hsz, st₁, ?_, comp_quiet (px := px) (iter := iter) (pos := pos) ok cap p f hsz hsc hfs hcell hkind hnames hx hxd hfree hcap hnod hifs helt (s₁ := { s with heap := h₁, toks := t₁ }) w₁ hIk hgI hIL hP, ?_⟩
  · intro b hb
    rcases hfp b hb with rfl | h
    · obtain ⟨o, e⟩ := Option.ne_none_iff_exists'.mp hI; exact Heap.lt_size e
    · obtain ⟨o, e⟩ := Option.ne_none_iff_exists'.mp h; exact Heap.lt_size (w₁.gin _ _ e)
  · intro D' h' tk ys vs hDn hlist hplain hlenv hPv hpair hk
    obtain ⟨n', ho⟩ := hplain
    have hreps := comp_reps hsc hP hlenv hPv hpair
    have hk' : ∀ b o, b ≠ I → h₁.get? b = some o → h'.get? b = some o := fun b o hb e => hk b o (by simpa using hb) e
    have w₂ := w₁.butI hIk hgI hIL (fun x v hm hf hx => (w.free_ne hm hf hx).1 hIn) hk'
    have ho' : h'.get? D' = some (listObj ys.toList n') := by rw [ho]; simp [listObj]
    have hle : Le g₁ (g₁.add D' (listObj ys.toList n')) := by
      refine Le.add ?_
      cases e : g₁ D' with
      | none => rfl
      | some o => rw [w₁.gin _ _ e] at hDn; cases hDn
    have w₃ : W c k N (g₁.add D' (listObj ys.toList n')) m σ h' := by
      refine { w₂ with gin := w₂.gin.add ho', fpk := fun p hp => ⟨(w₂.fpk p hp).1, ?_⟩, nN := fun b hb => ⟨(w₂.nN b hb).1, ?_⟩, loc := fun y v hy => ?_ }
      · rw [G.add_ne (fun (e : p = D') => w₁.fpl p hp (e ▸ hDn))]; exact (w₂.fpk p hp).2
      · rw [G.add_ne]; exact (w₂.nN b hb).2
        intro e; subst e
        obtain ⟨o, e⟩ := Option.ne_none_iff_exists'.mp (w₂.nN b hb).1
        rw [w₁.kin _ _ e] at hDn; cases hDn
      · refine (w₂.loc y v hy).ext hle fun b hb hf h1 _ _ _ => ?_
        rw [G.add_ne]; exact h1
        intro e; subst e
        exact (w₁.free_ne hy hf hb).1 hDn
    refine q _ h' _ tk (fun b o e => hk' b o (fun q => by rw [q] at e; rw [hIn] at e; cases e) (k₁ b o e)) w₃ (l₁.trans hle) (.list (G.add_self _ _ _) rfl rfl ?_)
    exact hreps.mono (by intro _ _ e; cases e)
/-- y = [.. for x in ..] -/
theorem SX.assignComp (ok : c.Ok) {elt iter : Expr} {x : Str} {px py pos spos : Pos} {y : Str} {ifs : List Expr} {scope : Scope} {ds : List D} (cap : Sig) (p : D → Bool) (f : D → D)
    (hi : IT c σ iter ds) (hsz : ds.length ≤ 16777216) (hsc : ∀ d ∈ ds, d.Scalar) (hfs : ∀ d ∈ ds, (f d).Scalar)
    (hcell : ∀ y ∈ scope.names, y.2 ≠ .cell) (hkind : scope.kind = .function) (hnames : ∀ y ∈ scope.names, y.2 = .local → scope.names.lookup y.1 = some .local) (hx : scope.names.lookup x = some .local) (hxd : (x == ("__debug__" : Str)) = false)
    (hfree : ∀ n ∈ freesOf scope.names, c.env.kindOf n = some .cell ∧ n ∈ σ.map (·.1))
    (hcap : ∀ q ∈ cap, q ∈ σ ∧ q.2.free = false ∧ scope.names.lookup q.1 = some .free ∧ q.1 ∈ freesOf scope.names) (hnod : (x :: cap.map (·.1)).Nodup)
    (hifs : ifs = [] ∧ (∀ d ∈ ds, p d = true) ∨ ∃ t, ifs = [t] ∧ ∀ c' d, CompOf c c' scope → d ∈ ds → EVB c' ((x, .val d) :: cap) t (p d))
    (helt : ∀ c' d, CompOf c c' scope → d ∈ ds → p d = true → EV c' ((x, .val d) :: cap) elt (f d))
    (hs : ∀ v, foldedSetIterable iter c.env v = pure v)
    (hsw : swapsWith (.ListComp elt [⟨.Name x px, iter, ifs, 0⟩] scope pos) (some (.Name y py)) spos.line c.env = pure true) (hyk : c.env.kindOf y = some .local)
    (hu : Upd σ y (.val (.list ((ds.filter p).map f))) σ') (cont : SX c E σ' rest Φ) : SX c E σ (.Assign [.Name y py] (.ListComp elt [⟨.Name x px, iter, ifs, 0⟩] scope pos) spos :: rest) Φ := by
  refine SX.step fun k N g m s w => ?_
  have hsome := comp_some w hfree
  refine wpAny_Assign_ListComp_free (fun v => p (D.ofV v)) (fun v y => Rep (fun _ => none) y (f (D.ofV v))) hsw (closureFor_frees hsome) hcell hkind hnames hx hyk (W.class_free ok.toEv) (hi k N g m s _ E w fun I fp n P St h₁ g₁ t₁ k₁ w₁ l₁ Wk st₁ hI hIn hgI hfp hlen hP hlive => ?_) hs
  subst hlen
  have hIk : k I = none := by
    cases q : k I with
    | none => rfl
    | some o => rw [w.kin _ _ q] at hIn; cases hIn
  have hIL : I ∉ c.fp := fun e => w.fpl I e hIn
  obtain ⟨m₀, hm₀, hm₁⟩ := w₁.fr.ns
  refine ⟨I, fp, [I], ds.length, fun i v => i < ds.length ∧ P i v, St, m₀, rfl, walks_within Wk, by rw [sizeLine_eq]; exact hsz, st₁, ?_, fun hm => hIL (List.mem_singleton.mp hm ▸ w₁.Lfp), hm₀, comp_quiet (px := px) (iter := iter) (pos := pos) ok.toEv cap p f hsz hsc hfs hcell hkind hnames hx hxd hfree hcap hnod hifs helt (s₁ := { s with heap := h₁, toks := t₁ }) w₁ hIk hgI hIL hP, ?_⟩
  · intro b hb
    rcases hfp b hb with rfl | h
    · obtain ⟨o, e⟩ := Option.ne_none_iff_exists'.mp hI; exact Heap.lt_size e
    · obtain ⟨o, e⟩ := Option.ne_none_iff_exists'.mp h; exact Heap.lt_size (w₁.gin _ _ e)
  · intro D' h' tk ys vs hDn hlist hplain hlenv hPv hpair hns hk
    obtain ⟨n', ho⟩ := hplain
    have hreps := comp_reps hsc hP hlenv hPv hpair
    have hk' : ∀ b o, b ≠ c.env.locals → b ≠ I → h₁.get? b = some o → h'.get? b = some o := fun b o hb hb' e => hk b o hb (by simpa using hb') e
    have ho' : h'.get? D' = some (listObj ys.toList n') := by rw [ho]; simp [listObj]
    have hgD : g₁ D' = none := by
      cases e : g₁ D' with
      | none => rfl
      | some o => rw [w₁.gin _ _ e] at hDn; cases hDn
    have hle : Le g₁ (g₁.add D' (listObj ys.toList n')) := Le.add hgD
    have hrep : Rep (g₁.add D' (listObj ys.toList n')) (.ref D') (.list ((ds.filter p).map f)) := .list (G.add_self _ _ _) rfl rfl (hreps.mono (by intro _ _ e; cases e))
    have hLk : k c.env.locals = none := (w₁.fpk _ w₁.Lfp).1
    have hLg : g₁ c.env.locals = none := (w₁.fpk _ w₁.Lfp).2
    have gin' : g₁.In h' := fun b o e => hk' b o (fun q => by rw [q, hLg] at e; cases e) (fun q => by rw [q, hgI] at e; cases e) (w₁.gin b o e)
    have w₃ : W c k N (g₁.add D' (listObj ys.toList n')) (fun z => if z = y then some (.ref D') else m z) σ' h' := by
      refine { base := w₁.base, kin := fun b o e => hk' b o (fun q => by rw [q, hLk] at e; cases e) (fun q => by rw [q, hIk] at e; cases e) (w₁.kin b o e), gin := gin'.add ho', fpk := fun p hp => ⟨(w₁.fpk p hp).1, ?_⟩, fpl := fun p hp => ?_, nN := fun b hb => ⟨(w₁.nN b hb).1, ?_⟩, fr := ⟨⟨_, hns, fun z hz => ?_⟩, fun z p hz hp => ?_⟩, cel := w₁.cel, Lfp := w₁.Lfp, nod := by rw [hu.keys]; exact w₁.nod, lcl := by rw [hu.keys]; exact w₁.lcl, loc := fun z v hz => ?_, sep := fun z u z' v' a h1 h2 h3 h4 h5 h6 => ?_ }
      · rw [G.add_ne (fun (e : p = D') => w₁.fpl p hp (e ▸ hDn))]; exact (w₁.fpk p hp).2
      · by_cases hpL : p = c.env.locals
        · rw [hpL]; obtain ⟨o, _, _, e, _⟩ := hns; rw [e]; exact fun e => nomatch e
        · obtain ⟨o, e⟩ := Option.ne_none_iff_exists'.mp (w₁.fpl p hp)
          rw [hk' p o hpL (fun q => hIL (q ▸ hp)) e]; exact fun e => nomatch e
      · rw [G.add_ne]; exact (w₁.nN b hb).2
        intro e; subst e
        obtain ⟨o, e⟩ := Option.ne_none_iff_exists'.mp (w₁.nN b hb).1
        rw [w₁.kin _ _ e] at hDn; cases hDn
      · by_cases e : z = y <;> simp [e, hm₁ z hz]
      · have hne : z ≠ y := fun e => by rw [e, hyk] at hz; cases hz
        simp only [if_neg hne]
        obtain ⟨o, e1, e2⟩ := w₁.fr.cl z p hz hp
        refine ⟨o, hk' p o (ok.offL z p hp) (fun q => ?_) e1, e2⟩
        subst q
        rcases w₁.cel z p hp with h | h
        · exact hIL h
        · exact h hIk
      · rcases hu.mem w₁.nod hz with ⟨rfl, rfl⟩ | ⟨hne, hz'⟩
        · exact ⟨_, if_pos rfl, hrep⟩
        · have hv := (w₁.loc z v hz').ext hle fun b hb hf h1 _ _ _ => by
            rw [G.add_ne]; exact h1
            intro e; subst e
            exact (w₁.free_ne hz' hf hb).1 hDn
          cases v with
          | un => trivial
          | val d => obtain ⟨u, e1, e2⟩ := hv; exact ⟨u, (if_neg hne).trans e1, e2⟩
          | own ds => obtain ⟨a, vs, n, h1, h2, h3, h4, h5, h6⟩ := hv; exact ⟨a, vs, n, (if_neg hne).trans h1, hk' a _ (fun q => h6 (q ▸ w₁.Lfp)) (fun q => (w.free_ne hz' rfl (q ▸ h1)).1 hIn) h2, h3, h4, h5, h6⟩
          | it a ds => obtain ⟨h1, h2, h3, h4, h5⟩ := hv; exact ⟨(if_neg hne).trans h1, h2.at' fun o e => hk' a _ (fun q => h5 (q ▸ w₁.Lfp)) (fun q => (w.free_ne hz' rfl (q ▸ h1)).1 hIn) e, h3, h4, h5⟩
      · rcases hu.mem w₁.nod h1 with ⟨rfl, rfl⟩ | ⟨n1, m1⟩
        · cases h3
        · rcases hu.mem w₁.nod h2 with ⟨rfl, rfl⟩ | ⟨n2, m2⟩
          · cases h4
          · rw [if_neg n1] at h5; rw [if_neg n2] at h6
            exact w₁.sep _ _ _ _ a m1 m2 h3 h4 h5 h6
    exact ⟨h', tk, _, _, σ', .next, rfl, w₃, .next, cont⟩
end
end Mine
namespace Mine
section
variable {c : Cfg} {σ σ' σ₁ σ₂ : Sig} {E : Value → Shared → Prop} {Φ : AFlow → Sig → Prop} {rest : List Stmt}
theorem OP2.floordiv_int {x y : Int} (hy : y ≠ 0) (hs : y.natAbs < 1073741824) : OP2 c (binaryOp .FloorDiv) (.int x) (.int y) (.int (x.fdiv y)) := .of fun s g v₁ v₂ Q E _ h1 h2 q => by
  cases h1; cases h2; exact PyProof.Rows.floordiv_int hy (q _ _ (.int _ _)) (.inl (PyProof.noPylong_small hs))
theorem mulOk {x : Str} {n : Int} (h0 : 0 ≤ n) (h1 : n ≤ 1000) (hx : x.length ≤ 1000) : MulOk x n := by
  refine ⟨by simp; omega, fun h2 _ => ?_, fun h2 _ => ?_⟩
  · have : (9223372036854775807 : Int) / 1000 ≤ (2 ^ 63 - 1) / n := by
      refine Int.le_ediv_of_mul_le (by omega) ?_
      have : (9223372036854775807 : Int) / 1000 * n ≤ 9223372036854775807 / 1000 * 1000 := Int.mul_le_mul_of_nonneg_left h1 (by decide)
      omega
    omega
  · unfold Builtin.Str.tooLong; rw [sizeLine_eq]
    have : x.length * n.toNat ≤ 1000 * 1000 := Nat.mul_le_mul hx (by omega)
    exact decide_eq_false (by omega)
theorem OP2.mul_str {x : Str} {n : Int} (h0 : 0 ≤ n) (h1 : n ≤ 1000) (hx : x.length ≤ 1000) : OP2 c (binaryOp .Mult) (.str x) (.int n) (.str (Txt.mul x n)) := .of fun s g v₁ v₂ Q E _ r1 r2 q => by
  cases r1; cases r2; exact SB.mul (mulOk h0 h1 hx) fun t' k => q _ k (.str _ t')
theorem Reps.ints {g : G} : ∀ {vs : List Value} {xs : List Int}, Reps g vs (xs.map .int) → IntsAre vs xs
  | _, [], .nil => .nil
  | _, x :: xs, .cons h1 h2 => by cases h1; exact .cons _ _ (Reps.ints h2)
theorem OP2.in_tup_ints {x : Int} {ys : List Int} : OP2 c (compareOp .In) (.int x) (.tup (ys.map .int)) (.bool (ys.any (· == x))) := .of fun s g v₁ v₂ Q E hg r1 r2 q => by
  cases r1
  obtain ⟨a, us, rfl, hl, hr⟩ := r2.isTup hg (s := s)
  exact in_tuple_ints hl (by simpa using hr.ints) (q _ s.toks (.bool _))
/-- a op b op' c -/
theorem EV.chain {l r r' : Expr} {op op' : CmpOp} {pos : Pos} {d₁ d₂ d₃ : D} {b b' : Bool} (hl : EV c σ l d₁) (hr : EV c σ r d₂) (ho : OP2 c (compareOp op) d₁ d₂ (.bool b)) (hr' : b = true → EV c σ r' d₃) (ho' : OP2 c (compareOp op') d₂ d₃ (.bool b'))
    (hm : lastMarks [op, op'] [r, r'] = false) : EV c σ (.Compare l [op, op'] [r, r'] pos) (.bool (b && b')) := by
  intro k N g m s Q E w h
  refine Compare_chain (hl k N g m s _ E w fun v₁ h₁ g₁ t₁ k₁ w₁ l₁ r₁ => ?_) hm
  refine chain_link (hr k N g₁ m _ _ E w₁ fun v₂ h₂ g₂ t₂ k₂ w₂ l₂ r₂ => ?_)
  refine ho g₂ _ v₁ v₂ _ E w₂.gin (r₁.mono l₂) r₂ fun v h₃ g₃ t₃ k₃ i₃ l₃ s₃ r₃ => ?_
  have w₃ := w₂.grow k₃ i₃ l₃ s₃
  refine TR.bool g₃ _ v _ E i₃ r₃ fun tk => ?_
  cases b with
  | false => rw [if_neg Bool.false_ne_true]; exact h v h₃ g₃ tk (k₁.trans (k₂.trans k₃)) w₃ (l₁.trans (l₂.trans l₃)) r₃
  | true =>
    rw [if_pos rfl]
    refine chain_last (hr' rfl k N g₃ m _ _ E w₃ fun v₄ h₄ g₄ t₄ k₄ w₄ l₄ r₄ => ?_)
    refine ho' g₄ _ v₂ v₄ _ E w₄.gin ((r₂.mono l₃).mono l₄) r₄ fun v₅ h₅ g₅ t₅ k₅ i₅ l₅ s₅ r₅ => ?_
    exact h v₅ h₅ g₅ t₅ (k₁.trans (k₂.trans (k₃.trans (k₄.trans k₅)))) (w₄.grow k₅ i₅ l₅ s₅) (l₁.trans (l₂.trans (l₃.trans (l₄.trans l₅)))) r₅
theorem EVB.chain {l r r' : Expr} {op op' : CmpOp} {pos : Pos} {d₁ d₂ d₃ : D} {b b' : Bool} (hl : EV c σ l d₁) (hr : EV c σ r d₂) (ho : OP2 c (compareOp op) d₁ d₂ (.bool b)) (hr' : b = true → EV c σ r' d₃) (ho' : OP2 c (compareOp op') d₂ d₃ (.bool b'))
    (hm : lastMarks [op, op'] [r, r'] = false) : EVB c σ (.Compare l [op, op'] [r, r'] pos) (b && b') := by
  intro k N g m s Q E w h
  refine isTrue_chain (hl k N g m s _ E w fun v₁ h₁ g₁ t₁ k₁ w₁ l₁ r₁ => ?_) hm
  refine test_link (hr k N g₁ m _ _ E w₁ fun v₂ h₂ g₂ t₂ k₂ w₂ l₂ r₂ => ?_)
  refine ho g₂ _ v₁ v₂ _ E w₂.gin (r₁.mono l₂) r₂ fun v h₃ g₃ t₃ k₃ i₃ l₃ s₃ r₃ => ?_
  have w₃ := w₂.grow k₃ i₃ l₃ s₃
  refine TR.bool g₃ _ v _ E i₃ r₃ fun tk => ?_
  cases b with
  | false => rw [if_neg Bool.false_ne_true]; exact h h₃ g₃ tk (k₁.trans (k₂.trans k₃)) w₃ (l₁.trans (l₂.trans l₃))
  | true =>
    rw [if_pos rfl]
    refine test_last (hr' rfl k N g₃ m _ _ E w₃ fun v₄ h₄ g₄ t₄ k₄ w₄ l₄ r₄ => ?_)
    refine ho' g₄ _ v₂ v₄ _ E w₄.gin ((r₂.mono l₃).mono l₄) r₄ fun v₅ h₅ g₅ t₅ k₅ i₅ l₅ s₅ r₅ => ?_
    refine TR.bool g₅ _ v₅ _ E i₅ r₅ fun tk => ?_
    exact h h₅ g₅ tk (k₁.trans (k₂.trans (k₃.trans (k₄.trans k₅)))) (w₄.grow k₅ i₅ l₅ s₅) (l₁.trans (l₂.trans (l₃.trans (l₄.trans l₅))))
/-- str(e) -/
noncomputable def dec (i : Int) : Str := Str.ofString (toString i)
theorem EV.str_int (ok : c.Ev) {p pos : Pos} {e : Expr} {i : Int} (hx : GL c "str" none) (he : EVs c σ [e] [.int i]) (hi : i.natAbs.log2 < 1920) : EV c σ (.Call (.Name "str" p) [e] [] pos) (.str (dec i)) := by
  intro k N g m s Q E w q
  refine wpAny_Call_NameR (W.builtin ok w hx (v := .type "str") (by decide +kernel) (by decide) ?_)
  refine PySem.callWith_type he.noStar (he.args k N g m s _ w fun vs h₁ g₁ t₁ k₁ w₁ l₁ r₁ => ?_)
  cases r₁ with
  | cons r₁ r₂ =>
    cases r₂; cases r₁
    exact PySem.P.str_of_int hi (q _ h₁ g₁ _ k₁ w₁ l₁ (.str _ _))
/-- a text's item -/
theorem EV.item_str {e i : Expr} {pos : Pos} {x : Str} {j : Int} (he : EV c σ e (.str x)) (hi : EV c σ i (.int j)) (h1 : 0 ≤ j) (h2 : j < 1000000) (hin : (Txt.charAt x j).isSome = true)
    (hs : ∀ o k, subscripted i false o k = operate [o, k] (getItem o k)) : EV c σ (.Subscript e i pos) (.str (Txt.item x j)) := by
  intro k N g m s Q E w q
  refine Subscript_ (he k N g m s _ E w fun v₁ h₁ g₁ t₁ k₁ w₁ l₁ r₁ => ?_)
  refine hi k N g₁ m _ _ E w₁ fun v₂ h₂ g₂ t₂ k₂ w₂ l₂ r₂ => ?_
  cases r₂; cases r₁
  obtain ⟨T, id, hl, ht, hg⟩ := SB.item (prog := c.prog) (w := c.w) (A := c.A) (E := E) (s := { s with heap := h₂, toks := t₂ }) (by unfold fitsSsize; simp; omega) hin (q _ h₂ g₂ _ (k₁.trans k₂) w₂ (l₁.trans l₂) (.str _ _))
  exact tail_any ht hl hg (hs _ _)
/-- try: the body ends by itself -/
theorem SX.try_ok {body : List Stmt} {hd : ExceptHandler} {hs : List ExceptHandler} {pos : Pos} (h : SX c (fun _ _ => False) σ body (seqT c E rest Φ)) : SX c E σ (.Try body (hd :: hs) [] [] pos :: rest) Φ := by
  refine SX.step fun k N g m s w => wpAny_Try_except (wpAny_mono (h k N g m s w) (fun f s₁ hf => ?_) fun _ _ e => e.elim)
  cases f with
  | next => exact wpAny_execs_nil hf
  | _ => exact hf
/-- dicts of the text -/
theorem EV.inTab (ok : c.Ev) {e : Expr} {x : Str} {d : Addr} {D' : List (PyData × PyData)} {p pos : Pos} {y : Str} (he : EV c σ e (.str y)) (hx : GL c x (some (.ref d))) (T : StrTab c.prog c.w c.h₁ d D') : EV c σ (.Compare e [.In] [.Name x p] pos) (.bool (Spec.lookup (.str y) D').isSome) := by
  intro k N g m s Q E w h
  refine wpAny_Compare1 (he k N g m s _ E w fun v₁ h₁ g₁ t₁ k₁ w₁ l₁ r₁ => ?_) rfl
  refine W.global ok w₁ hx ?_
  cases r₁
  exact in_strTab (T.keep w₁.keep₁) (h _ h₁ g₁ _ k₁ w₁ l₁ (.bool _))
theorem EVB.inTab (ok : c.Ev) {e : Expr} {x : Str} {d : Addr} {D' : List (PyData × PyData)} {p pos : Pos} {y : Str} (he : EV c σ e (.str y)) (hx : GL c x (some (.ref d))) (T : StrTab c.prog c.w c.h₁ d D') : EVB c σ (.Compare e [.In] [.Name x p] pos) (Spec.lookup (.str y) D').isSome := by
  intro k N g m s Q E w h
  refine wpAny_isTrue_Compare1 (he k N g m s _ E w fun v₁ h₁ g₁ t₁ k₁ w₁ l₁ r₁ => ?_) rfl
  refine W.global ok w₁ hx ?_
  cases r₁
  exact in_strTab (T.keep w₁.keep₁) (TR.bool g₁ _ _ _ E w₁.gin (.bool _) fun tk => h h₁ g₁ tk k₁ w₁ l₁)
noncomputable def D.ofPy : PyData → D
  | .int i => .int i
  | .str x => .str x
  | .bool b => .bool b
  | _ => .none
theorem rep_flat {g : G} {v : Value} {d : PyData} (h : V.Flat v d) : (∃ i, d = .int i) ∨ (∃ x, d = .str x) → Rep g v (D.ofPy d) := by
  rintro (⟨i, rfl⟩ | ⟨x, rfl⟩)
  · have := h {}
    cases this; exact .int _ _
  · have := h {}
    cases this; exact .str _ _
theorem EV.itemTab (ok : c.Ev) {e : Expr} {x : Str} {d : Addr} {D' : List (PyData × PyData)} {p pos : Pos} {y : Str} {dv : PyData} (he : EV c σ e (.str y)) (hx : GL c x (some (.ref d))) (T : StrTab c.prog c.w c.h₁ d D') (hl : Spec.lookup (.str y) D' = some dv) (hdv : (∃ i, dv = .int i) ∨ (∃ x, dv = .str x))
    (hs : ∀ o k, subscripted e false o k = operate [o, k] (getItem o k)) : EV c σ (.Subscript (.Name x p) e pos) (D.ofPy dv) := by
  intro k N g m s Q E w h
  refine Subscript_ (W.global ok w hx ?_)
  refine he k N g m s _ E w fun v₁ h₁ g₁ t₁ k₁ w₁ l₁ r₁ => ?_
  cases r₁
  exact item_strTab (T.keep w₁.keep₁) hl (fun v hv => h v h₁ g₁ _ k₁ w₁ l₁ (rep_flat hv hdv)) (hs _ _) (fun _ => rfl)
theorem EV.getTab (ok : c.Ev) {e e' : Expr} {x : Str} {d : Addr} {D' : List (PyData × PyData)} {p p' pos : Pos} {y z : Str} (he : EVs c σ [e, e'] [.str y, .str z]) (hx : GL c x (some (.ref d))) (T : StrTab c.prog c.w c.h₁ d D') {r : Str} (hr : (Spec.lookup (.str y) D').getD (.str z) = .str r)
    (hline : (p'.endLine == pos.line) = true) : EV c σ (.Call (.Attribute (.Name x p) "get" p') [e, e'] [] pos) (.str r) := by
  intro k N g m s Q E w h
  refine wpAny_Call_method_lateS rfl (by rw [he.plain]; rfl) hline (W.global ok w hx ?_)
  have T₀ := T.keep w.keep₁
  obtain ⟨lo, kvs, hd, hf⟩ := T₀
  obtain ⟨o, es, ep, ho, hex, hr'⟩ := id hd
  refine ⟨"dict", "dict.get", PySem.F.plainAttrs_dict, PySem.F.slot_dict_get, PySem.F.type_dict_get, hd.typeIs, fun b e => ?_, ?_⟩
  · cases e; exact ⟨o, ho, hex.2.1⟩
  · refine Calls.callWith_builtin he.noStar (he.args k N g m s _ w fun vs h₁ g₁ t₁ k₁ w₁ l₁ r₁ => ?_)
    cases r₁ with
    | cons r₁ r₂ => cases r₂ with
      | cons r₂ r₃ =>
        cases r₃; cases r₁; cases r₂
        refine call_get2_strTab (T.keep w₁.keep₁) (V.Flat.str _ _) fun v hv => ?_
        rw [hr] at hv
        exact h v h₁ g₁ _ k₁ w₁ l₁ (rep_flat hv (.inr ⟨_, rfl⟩))
end
end Mine
namespace Mine
theorem typeCall_int2 (a b : Value) : checkTypeCall "int" ⟨[a, b], []⟩ = pure () := by kernel_rfl
theorem newCall_int2 (a b : Value) : checkBuiltinCall "int.__new__" ⟨[.type "int", a, b], []⟩ = pure () := by kernel_rfl
set_option maxHeartbeats 4000000 in
theorem gives_text10 {x : PySem.Str} {u t : Tok} {n : Int} (hl : x.length ≤ 640) (hn : PySem.intText? x = some n) : Gives (Builtin.«int.__new__» ⟨[.type "int", .str x u, .int 10 t], []⟩) (.int n) :=
  .of_wp fun M A E s Q h => by
    obtain ⟨hp, g, d, tk, os⟩ := s
    have f1 := PySem.F.conv_sub_int
    have f2 := PySem.F.madeHere_int
    have f6 : typeOf (.str x u) = pure (.type "str") := rfl
    have hs : (PySem.numSeenOf x).length ≤ 640 := Nat.le_trans (PySem.seen_length x) hl
    have hr : (int_private% "readNumeral") 0 10 (PySem.numSeenOf x) = (int_private% "Numeral.value") n ∧ ((PySem.numSeenOf x).length == (PySem.numTextOf x).length) = true := by
      rcases PySem.read0 x hs with ⟨m, h1, h2, h3⟩ | ⟨h1, _⟩
      · rw [hn] at h1
        injection h1 with h1
        subst h1
        exact ⟨h3, h2⟩
      · rw [hn] at h1
        cases h1
    have hk := KIN.Hid.mk (And.intro hs hr)
    clear hs hr hl hn
    repeat (any_goals (first
      | assumption
      | ((with_reducible show wpAny _ _ ((int_private% "intFromText") _ _ _) _ _ _); refine KIN.wp_text hk.out.1 hk.out.2.1 hk.out.2.2 ?_)
      | wp_step))
    all_goals first | exact ⟨_, rfl, h⟩ | skip
section
variable {c : Cfg} {σ σ' σ₁ σ₂ : Sig} {E : Value → Shared → Prop} {Φ : AFlow → Sig → Prop} {rest : List Stmt}
theorem EV.int10 (ok : c.Ev) {p pos : Pos} {e e' : Expr} {x : Str} {n : Int} (hx : GL c "int" none) (he : EVs c σ [e, e'] [.str x, .int 10]) (hl : x.length ≤ 640) (hn : PySem.intText? x = some n) : EV c σ (.Call (.Name "int" p) [e, e'] [] pos) (.int n) := by
  intro k N g m s Q E w q
  refine wpAny_Call_NameR (W.builtin ok w hx (v := .type "int") (by decide +kernel) (by decide) ?_)
  refine PySem.callWith_type he.noStar (he.args k N g m s _ w fun vs h₁ g₁ t₁ k₁ w₁ l₁ r₁ => ?_)
  cases r₁ with
  | cons r₁ r₂ => cases r₂ with
    | cons r₂ r₃ =>
      cases r₃; cases r₁; cases r₂
      exact callType_new PySem.F.called_int PySem.F.newNe_int (typeCall_int2 _ _) (newCall_int2 _ _) (fun obj => PySem.F.args_object_init_3 obj _ _) PySem.F.entry_int_new (gives_text10 hl hn).meets (show (Made.int n).post _ _ from ⟨rfl, q _ h₁ g₁ _ k₁ w₁ l₁ (.int _ _)⟩)
end
end Mine
namespace Mine
open Builtin
set_option maxHeartbeats 8000000 in
theorem fmt_sd {b : Addr} {x : Str} {n : Int} {t u v : Tok} (hx : x.length ≤ 1000000) (h0 : 0 ≤ n) (h1 : n < 10 ^ 10) :
    Meets («str.__mod__» ⟨[.str ⟨#[37, 115, 37, 100]⟩ t, .ref b], []⟩) (fun _ R s => IsTup s.heap b #[.str x u, .int n v] ∧ ∀ t' k, R (.ok (.ret (.str (x ++ Str.ofString (toString n)) t'))) { s with toks := k }) := by
  kpt_run
end Mine
namespace Mine
open Builtin
set_option maxHeartbeats 8000000 in
theorem fmt_one {x : Str} {t u : Tok} (hx : x.length ≤ 1000000) :
    Meets («str.__mod__» ⟨[.str ⟨#[40, 37, 115, 41]⟩ t, .str x u], []⟩) (fun _ R s => ∀ t' k, R (.ok (.ret (.str (Str.ofString "(" ++ x ++ Str.ofString ")") t'))) { s with toks := k }) := by
  kpc_run_s
section
variable {c : Cfg} {σ σ' σ₁ σ₂ : Sig}
theorem mod_tup {prog : Program} {w : World} {A : Around} {E : Value → Shared → Prop} {s : Shared} {X X' T : PySem.Str} {t : Tok} {Q : Value → Shared → Prop} {b : Addr} {its : Array Value} (ht : IsTup s.heap b its) (hX : X = X')
    (hm : Meets («str.__mod__» ⟨[.str X' t, .ref b], []⟩) (fun _ R s => IsTup s.heap b its ∧ ∀ t' k, R (.ok (.ret (.str T t'))) { s with toks := k }))
    (h : ∀ t' k, Q (.str T t') { s with toks := k }) : wpAny (model prog w) A (binaryOp .Mod (.str X t) (.ref b)) Q E s := by
  subst hX
  have hT : s.TypeIs (.ref b) "tuple" := by
    obtain ⟨o, ho, hc, _⟩ := ht
    exact ⟨o, ho, hc⟩
  exact KPt.bin_left (T := "str") (U := "tuple") (op := .Mod) (by decide) (typeIs_str s X t) hT PySem.F.fills_str_mod KPt.fills_tuple PySem.F.slot_str_mod
    (call_meets PySem.F.slot_str_mod (typeIs_str s X t) PySem.F.entry_str_mod (PySem.F.args_str_mod_2 _ _) hm ⟨ht, fun t' k => ⟨(fun e => nomatch e), h t' k⟩⟩)
theorem OP2.fmt_sd {x : Str} {n : Int} (hx : x.length ≤ 1000000) (h0 : 0 ≤ n) (h1 : n < 10 ^ 10) : OP2 c (binaryOp .Mod) (.str (Str.ofString "%s%d")) (.tup [.str x, .int n]) (.str (x ++ dec n)) := .of fun s g v₁ v₂ Q E hg r1 r2 q => by
  cases r1
  obtain ⟨a, us, rfl, hl, hr⟩ := r2.isTup hg (s := s)
  cases hr with | cons r1 hr => cases hr with | cons r2 hr => cases hr; cases r1; cases r2; exact mod_tup hl (by decide +kernel) (Mine.fmt_sd hx h0 h1) fun t' k => q _ k (.str _ t')
theorem OP2.fmt_one {x : Str} (hx : x.length ≤ 1000000) : OP2 c (binaryOp .Mod) (.str (Str.ofString "(%s)")) (.str x) (.str (Str.ofString "(" ++ x ++ Str.ofString ")")) := .of fun s g v₁ v₂ Q E hg r1 r2 q => by
  cases r1; cases r2
  rw [show Str.ofString "(%s)" = ⟨#[40, 37, 115, 41]⟩ by decide +kernel]
  exact binaryOp_meets (T := "str") (op := .Mod) (typeIs_str s _ _) (typeIs_str s x _) PySem.F.fills_str_mod PySem.F.slot_str_mod PySem.F.entry_str_mod (PySem.F.args_str_mod_2 _ _) (Mine.fmt_one hx) (fun t' k => ⟨(fun e => nomatch e), q _ k (.str _ t')⟩)
/-- f-strings -/
theorem EV.fmtS {e : Expr} {pos : Pos} {x : Str} (he : EV c σ e (.str x)) (hx : x.length ≤ 16777216) : EV c σ (.FormattedValue e 115 none pos) (.str x) := by
  intro k N g m s Q E w q
  rw [arm_eval_FormattedValue]
  refine wpAny_bind (he k N g m s _ E w fun v h₁ g₁ t₁ k₁ w₁ l₁ r₁ => ?_)
  cases r₁
  refine wpAny_bind (wpAny_standAt ?_)
  have hx' : x.length ≤ sizeLine := by rw [sizeLine_eq]; exact hx
  refine wpAny_bind (wpAny_holding ?_)
  show wpAny _ _ (habitSame "fstring-hands-on-the-str" (.str x _)) _ _ _
  exact wpAny_habitSame_str (wpAny_formatField_str (q _ h₁ g₁ t₁ k₁ w₁ l₁ (.str _ _)) (q _ h₁ g₁ _ k₁ w₁ l₁ (.str _ _)) hx') (wpAny_formatField_str (q _ h₁ g₁ _ k₁ w₁ l₁ (.str _ _)) (q _ h₁ g₁ _ k₁ w₁ l₁ (.str _ _)) hx') hx'
inductive EJ (c : Cfg) (σ : Sig) : List Expr → Str → Str → Prop where
  | nil {acc : Str} : EJ c σ [] acc acc
  | cons {e : Expr} {es : List Expr} {acc y out : Str} : EV c σ e (.str y) → (acc ++ y).length ≤ 16777216 → EJ c σ es (acc ++ y) out → EJ c σ (e :: es) acc out
theorem EJ.run {es : List Expr} {acc out : Str} (h : EJ c σ es acc out) : ∀ (k : G) (N : Addr → Prop) (g : G) (m : Str → Option Value) (s : Shared) (Q : Str → Shared → Prop) (E : Value → Shared → Prop), W c k N g m σ s.heap →
    (∀ h' g' tk, Keep s.heap h' → W c k N g' m σ h' → Le g g' → Q out { s with heap := h', toks := tk }) → Joins c.M c.A E (evalEach es c.env) acc Q s := by
  induction h with
  | nil => intro k N g m s Q E w q; exact q s.heap g s.toks (Keep.refl _) w (Le.refl _)
  | cons h1 h2 _ ih =>
    intro k N g m s Q E w q
    refine h1 k N g m s _ E w fun v h₁ g₁ t₁ k₁ w₁ l₁ r₁ => ?_
    cases r₁
    exact ⟨_, _, rfl, by rw [sizeLine_eq]; exact h2, ih k N g₁ m _ Q E w₁ fun h₂ g₂ t₂ k₂ w₂ l₂ => q h₂ g₂ t₂ (k₁.trans k₂) w₂ (l₁.trans l₂)⟩
theorem EJ.len {es : List Expr} {acc out : Str} (h : EJ c σ es acc out) (ha : acc.length ≤ 16777216) : out.length ≤ 16777216 := by
  induction h with
  | nil => exact ha
  | cons _ h2 _ ih => exact ih h2
theorem EV.joined {e e' : Expr} {es : List Expr} {pos : Pos} {out : Str} (h : EJ c σ (e :: e' :: es) Str.empty out) : EV c σ (.JoinedStr (e :: e' :: es) pos) (.str out) := by
  intro k N g m s Q E w q
  refine wpAny_JoinedStr (h.run k N g m s _ E w fun h₁ g₁ t₁ k₁ w₁ l₁ => ⟨by rw [sizeLine_eq]; exact h.len (by decide), q _ h₁ g₁ _ k₁ w₁ l₁ (.str _ _)⟩)
theorem empty_app (x : Str) : Str.empty ++ x = x := KPc.empty_app x
theorem EJ.first {e : Expr} {es : List Expr} {y out : Str} (h : EV c σ e (.str y)) (hy : y.length ≤ 16777216) (r : EJ c σ es y out) : EJ c σ (e :: es) Str.empty out := .cons h (by rw [empty_app]; exact hy) (by rw [empty_app]; exact r)
theorem EJ.val {x : Expr} {es : List Expr} {pos : Pos} {acc y out : Str} (h : EV c σ x (.str y)) (hy : acc.length + y.length ≤ 16777216) (r : EJ c σ es (acc ++ y) out) : EJ c σ (.FormattedValue x 115 none pos :: es) acc out := .cons (EV.fmtS h (by omega)) (by rw [Str.length_append]; exact hy) r
theorem EJ.lit {x : Str} {kk : Nat} {es : List Expr} {pos : Pos} {acc out : Str} (hy : acc.length + x.length ≤ 16777216) (r : EJ c σ es (acc ++ x) out) : EJ c σ (.Constant (.str x) kk pos :: es) acc out := .cons EV.const_str (by rw [Str.length_append]; exact hy) r
end
end Mine
namespace Mine
section
variable {c : Cfg} {σ σ' σ₁ σ₂ : Sig} {E : Value → Shared → Prop} {Φ : AFlow → Sig → Prop} {rest : List Stmt}
noncomputable def turnK (Φ : AFlow → Sig → Prop) (K J : Sig → Prop) : AFlow → Sig → Prop
  | .next, σ | .cont, σ => J σ
  | .brk, σ => K σ
  | .ret d, σ => Φ (.ret d) σ
theorem SX.whileK {test : Expr} {body : List Stmt} {pos : Pos} (hE : PassesOwn c.M c.A c.env E) (J : Nat → Sig → Prop) (K : Sig → Prop) (n : Nat) (h0 : J n σ)
    (turn : ∀ n σ₁, J n σ₁ → ∃ b σ₂, EXB c σ₁ test b σ₂ ∧ (b = true → SX c E σ₂ body (turnK Φ K fun σ₃ => ∃ n', n' < n ∧ J n' σ₃)) ∧ (b = false → K σ₂))
    (done : ∀ σ₁, K σ₁ → SX c E σ₁ rest Φ) : SX c E σ (.While test body [] pos :: rest) Φ := by
  refine SX.while hE J n h0 fun n σ₁ hJ => ?_
  obtain ⟨b, σ₂, h1, h2, h3⟩ := turn n σ₁ hJ
  refine ⟨b, σ₂, h1, fun e => (h2 e).mono fun f σ' h => ?_, fun e => done _ (h3 e)⟩
  cases f with
  | brk => exact done _ h
  | _ => exact h
theorem SX.forK (ok : c.Ok) {x : Str} {px pos : Pos} {iter : Expr} {body : List Stmt} {ds : List D} (J : Nat → Sig → Prop) (K : Sig → Prop) (hi : IT c σ iter ds) (h0 : J 0 σ)
    (turn : ∀ i d σ₁, ds[i]? = some d → J i σ₁ → ∃ σ₂, Upd σ₁ x (.val d) σ₂ ∧ SX c (fun _ _ => False) σ₂ body (turnK Φ K (J (i + 1))))
    (done : ∀ σ₁, (J ds.length σ₁ ∨ K σ₁) → SX c E σ₁ rest Φ) (hs : ∀ v, foldedSetIterable iter c.env v = pure v) : SX c E σ (.For (.Name x px) iter body [] pos :: rest) Φ := by
  refine SX.forIn ok J hi h0 (fun i d σ₁ hd hJ => ?_) (fun σ₁ h => done _ (.inl h)) hs
  obtain ⟨σ₂, h1, h2⟩ := turn i d σ₁ hd hJ
  refine ⟨σ₂, h1, h2.mono fun f σ' h => ?_⟩
  cases f with
  | brk => exact done _ (.inr h)
  | _ => exact h
theorem PF.mono {prog : Program} {w : World} {h₁ : Heap} {f : Addr} {n n' : Nat} {ds args ds' : List D} {r : D} (h : PF prog w h₁ f n ds args r ds') (hn : n ≤ n') : PF prog w h₁ f n' ds args r ds' :=
  fun A s g a ws Q E h1 h2 h3 => h A s g a ws Q E h1 (by omega) (by omega)
theorem FN.mono {prog : Program} {w : World} {h₁ : Heap} {f : Addr} {n n' : Nat} {args : List D} {r : D} (h : FN prog w h₁ f n args r) (hn : n ≤ n') : FN prog w h₁ f n' args r :=
  fun A s g vs Q E h1 h2 h3 => h A s g vs Q E h1 (by omega) (by omega)
theorem GL.of {prog : Program} {w : World} {h₁ : Heap} {mg : Str → Option Value} {x : Str} {v : Option Value} {sc : Scope} (is : c.Is prog w h₁ mg) (hs : c.env.scope = sc) (h1 : sc.names.lookup x = some .globalImplicit) (h2 : (x == ("__debug__" : Str)) = false) (h3 : mg x = v) : GL c x v :=
  ⟨by unfold Env.kindOf; rw [hs]; exact h1, h2, by rw [is.mg]; exact h3⟩
theorem EVs.one {e : Expr} {d : D} (h : EV c σ e d) (hs : ∀ env, backTo default (starEach [e] env) = [(false, eval e env)]) : EVs c σ [e] [d] := .cons h hs .nil
theorem EVB.cast {e : Expr} {b b' : Bool} (h : EVB c σ e b) (hb : b = b') : EVB c σ e b' := hb ▸ h
theorem EV.cast {e : Expr} {d d' : D} (h : EV c σ e d) (hb : d = d') : EV c σ e d' := hb ▸ h
theorem EVB.and1 {e : Expr} {pos : Pos} {b : Bool} (h : EVB c σ e b) : EVB c σ (.BoolOp .And [e] pos) b := (EVB.and h fun _ => EVB.and_nil).cast (Bool.and_true b)
theorem EVB.or1 {e : Expr} {pos : Pos} {b : Bool} (h : EVB c σ e b) : EVB c σ (.BoolOp .Or [e] pos) b := (EVB.or h fun _ => EVB.or_nil).cast (Bool.or_false b)
theorem EV.isdigit {o : Expr} {apos pos : Pos} {x : Str} (he : EV c σ o (.str x)) (hbase : attributeBase o "isdigit" c.env (eval o c.env) = eval o c.env) (hline : (apos.endLine == pos.line) = true) :
    EV c σ (.Call (.Attribute o "isdigit" apos) [] [] pos) (.bool (Txt.isdigit x)) := by
  intro k N g m s Q E w q
  refine wpAny_Call_method_lateS hbase rfl hline (he k N g m s _ E w fun v h₁ g₁ t₁ k₁ w₁ l₁ r₁ => ?_)
  cases r₁
  exact SB.isdigit (q _ h₁ g₁ t₁ k₁ w₁ l₁ (.bool _))
theorem EVB.of_bool {e : Expr} {b : Bool} (h : EV c σ e (.bool b)) (he : isTrue e c.env (eval e c.env) = (do let v ← eval e c.env; standAt e.pos; holding [v] (truthy v))) : EVB c σ e b := EVB.plain h TR.bool he
/-- the branch of a test that is known -/
theorem SX.ite_true {t : Expr} {body orelse : List Stmt} {p : Pos} (ht : EVB c σ t true) (h1 : SX c E σ body (seqT c E rest Φ)) : SX c E σ (.If t body orelse p :: rest) Φ := SX.ite ht (fun _ => h1) fun e => nomatch e
theorem SX.ite_false {t : Expr} {body orelse : List Stmt} {p : Pos} (ht : EVB c σ t false) (h2 : SX c E σ orelse (seqT c E rest Φ)) : SX c E σ (.If t body orelse p :: rest) Φ := SX.ite ht (fun e => nomatch e) fun _ => h2
/-- an if that joins: both ways go to one K -/
noncomputable def turnJ (Φ : AFlow → Sig → Prop) (K : Sig → Prop) : AFlow → Sig → Prop
  | .next, σ => K σ
  | f, σ => Φ f σ
theorem SX.join {t : Expr} {b : Bool} {body orelse : List Stmt} {p : Pos} (K : Sig → Prop) (ht : EVB c σ t b) (h1 : b = true → SX c E σ body (turnJ Φ K)) (h2 : b = false → SX c E σ orelse (turnJ Φ K)) (done : ∀ σ', K σ' → SX c E σ' rest Φ) : SX c E σ (.If t body orelse p :: rest) Φ := by
  have key : ∀ f σ', turnJ Φ K f σ' → seqT c E rest Φ f σ' := fun f σ' h => by
    cases f with
    | next => exact done _ h
    | _ => exact h
  exact SX.ite ht (fun e => (h1 e).mono key) fun e => (h2 e).mono key
end
theorem bind_one {fd : FuncData} {x : Str} (h : ∀ v, bindArgs fd ⟨[v], []⟩ = pure [(x, v)]) : ∀ (s : Shared) (vs : List Value), vs.length = [x].length → BindsTo s fd ⟨vs, []⟩ ([x].zip vs) := by
  intro s vs hv
  obtain ⟨v, rfl⟩ := List.length_eq_one_iff.mp hv
  exact BindsTo.of_eq (h v)
theorem bind_two {fd : FuncData} {x y : Str} (h : ∀ v u, bindArgs fd ⟨[v, u], []⟩ = pure [(x, v), (y, u)]) : ∀ (s : Shared) (vs : List Value), vs.length = [x, y].length → BindsTo s fd ⟨vs, []⟩ ([x, y].zip vs) := by
  intro s vs hv
  match vs, hv with
  | [v, u], _ => exact BindsTo.of_eq (h v u)
theorem bindC_one {fd : FuncData} {x : Str} (h : ∀ v, bindArgs fd ⟨[v], []⟩ = pure [(x, v)]) : ∀ (vs : List Value), vs.length = [x].length → bindArgs fd ⟨vs, []⟩ = pure ([x].zip vs) := by
  intro vs hv
  obtain ⟨v, rfl⟩ := List.length_eq_one_iff.mp hv
  exact h v
theorem ne_of_beq {a b : Str} (h : (a == b) = false) : ¬ a = b := fun e => by rw [e] at h; simp at h
theorem glob_at {K : Frag} {h₁ : Heap} {mg : Str → Option Value} (KX : K.In h₁) (T : h₁.Ns mainGlobals mg) {o : Obj} {es : Array DictEntry} {n : Nat} (hK : K.lookup mainGlobals = some o) (ho : o.data = .dict es n) (x : Str) : mg x = nsFind es x := by
  obtain ⟨o', es', ep, ho', hd, hk, hm⟩ := T
  rw [KX _ _ hK] at ho'
  cases ho'
  rw [ho] at hd
  cases hd
  exact (hm x).symm
/-- the function at an address of a fragment -/
noncomputable def fdOf (K : Frag) (a : Addr) : FuncData := match K.lookup a with
  | some o => match o.data with
    | .func fd => fd
    | _ => default
  | none => default
/-- a dict of the text, row by row -/
noncomputable def TabRows (w : World) : List DictEntry → List (Str × PyData) → Prop
  | [], [] => True
  | e :: es, (k, d) :: ps => (∃ t, e.key = .str k t) ∧ e.hash = hashStr w k ∧ V.Flat e.val d ∧ TabRows w es ps
  | _, _ => False
theorem strTab_of {prog : Program} {w : World} {h : Heap} {d : Addr} {o : Obj} {es : Array DictEntry} {n : Nat} (ps : List (Str × PyData)) (lo : (d == sysModules) = false) (ho : h.get? d = some o) (hex : o.ExactDict) (hdat : o.data = .dict es n) (hrows : TabRows w es.toList ps) (hnd : (ps.map (·.1)).Nodup) :
    StrTab prog w h d (ps.map fun p => (.str p.1, p.2)) := by
  have aux : ∀ (l : List DictEntry) (ps : List (Str × PyData)), TabRows w l ps → ∃ kvs : List (Str × Value), kvs.map (·.1) = ps.map (·.1) ∧ (∀ e ∈ l, ∃ k, (PySem.strKind prog w).is k e.key = true ∧ e.hash = (PySem.strKind prog w).hash k) ∧ Pairs (PySem.strKind prog w) l kvs ∧ V.FlatPairs PyData.str kvs (ps.map fun p => (.str p.1, p.2)) := by
    intro l
    induction l with
    | nil =>
      intro ps hr
      cases ps with
      | nil => exact ⟨[], rfl, (by intro e h; cases h), .nil, .nil⟩
      | cons _ _ => exact hr.elim
    | cons e l ih =>
      intro ps hr
      cases ps with
      | nil => exact hr.elim
      | cons p ps =>
        obtain ⟨k, dd⟩ := p
        obtain ⟨⟨t, hkey⟩, hh, hf, hr⟩ := hr
        obtain ⟨kvs, h1, h2, h3, h4⟩ := ih ps hr
        have hk : (PySem.strKind prog w).is k e.key = true := by rw [hkey]; exact strKind_is prog w k t
        refine ⟨(k, e.val) :: kvs, by simp [h1], fun e' he => ?_, .cons hk rfl h3, .cons hf h4⟩
        rcases List.mem_cons.mp he with rfl | he
        · exact ⟨k, hk, hh⟩
        · exact h2 e' he
  obtain ⟨kvs, h1, h2, h3, h4⟩ := aux _ _ hrows
  refine TabAt.ofObj lo ho ⟨es, n, hex, hdat, fun e he => h2 e (by simpa using he), h3, by rw [h1]; exact hnd⟩ h4
theorem lookup_strs {ps : List (Str × PyData)} {y : Str} : Spec.lookup (.str y) (ps.map fun p => (.str p.1, p.2)) = ps.lookup y := by
  induction ps with
  | nil => rfl
  | cons p ps ih =>
    rw [List.map_cons, List.lookup_cons]
    unfold Spec.lookup
    rw [V.same_str, ih]
    by_cases h : y = p.1
    · subst h; simp
    · rw [show (y == p.1) = false from beq_eq_false_iff_ne.mpr h]
      have h' : ¬ p.1 = y := fun e => h e.symm
      simp [h, h']
end Mine
namespace Mine
section
variable {c : Cfg} {σ σ' σ₁ σ₂ : Sig} {E : Value → Shared → Prop} {Φ : AFlow → Sig → Prop} {rest : List Stmt}
/-- a text's tail: x[i:] -/
theorem EV.tail_str {e i : Expr} {pos p : Pos} {x : Str} {j : Int} (he : EV c σ e (.str x)) (hi : EV c σ i (.int j)) (hx : x.length ≤ 1000000) (ht : ∀ o r, letTemporaryGo e o r = pure ()) : EV c σ (.Subscript e (.Slice (some i) none none p) pos) (.str (Txt.slice x (some j) none)) := by
  intro k N g m s Q E w q
  refine wpAny_Subscript_str_slice (he k N g m s _ E w fun v₁ h₁ g₁ t₁ k₁ w₁ l₁ r₁ => hi k N g₁ m _ _ E w₁ fun v₂ h₂ g₂ t₂ k₂ w₂ l₂ r₂ => ?_) ht
  cases r₁; cases r₂
  rename_i tx tj
  refine wpAny_pure ⟨x, tx, some (j, tj), none, rfl, rfl, rfl, ?_⟩
  generalize hh₃ : h₂.push { cls := .type "slice", data := .fields #[.int j tj, .none, .none] } = h₃
  have k₃ : Keep h₂ h₃ := hh₃ ▸ Keep.push _ _
  have w₃ := w₂.keep k₃
  have hk := k₁.trans (k₂.trans k₃)
  have hl := l₁.trans l₂
  have hsl := Txt.slice_le x (some j) none
  unfold sliceMade
  show Made.post (if ((1 : Int) == 1 && (Builtin.Str.strSliceIndices (some j) none 1 x.length).length == x.length) = true then _ else _) _ _
  unfold Txt.slice at q hsl
  by_cases hc : ((1 : Int) == 1 && (Builtin.Str.strSliceIndices (some j) none 1 x.length).length == x.length) = true
  · rw [if_pos hc] at q ⊢
    exact q _ h₃ g₂ t₂ hk w₃ hl (.str _ _)
  · rw [if_neg hc] at q hsl ⊢
    exact ⟨by rw [sizeLine_eq]; exact Nat.le_trans hsl (by omega), q _ h₃ g₂ _ hk w₃ hl (.str _ _)⟩
end
end Mine
namespace Mine
/-- tokens only grow -/
theorem Runs.toks {M : Model} {Γ : Ctx} {p : Pos} {t : Sem PySem.Fin} {fs : List Frame} {s s' : Shared} {e : End} (h : Runs M Γ p t fs s e s') : s.toks ≤ s'.toks := by
  induction h <;> (try simp only [Shared.setGen] at *) <;> (try dsimp only at *) <;> omega
theorem Wakes.toks {M : Model} {Γ : Ctx} {p : Pos} {g : Nat} {r : Resume} {s s' : Shared} {res : GenResult} (h : Wakes M Γ p g r s res s') : s.toks ≤ s'.toks := by
  unfold Wakes at h
  split at h
  · exact h.elim
  · split at h
    · obtain ⟨e₁, s₁, h1, _, _, rfl⟩ := h
      have := Runs.toks h1
      exact this
    · rw [h.2]; exact Nat.le_refl _
    · rw [h.2]; exact Nat.le_refl _
  · obtain ⟨e₁, s₁, h1, _, _, rfl⟩ := h
    have := Runs.toks h1
    exact this
  · rw [h.2]; exact Nat.le_refl _
  · rw [h.2]; exact Nat.le_refl _
theorem wp_toks {α : Type} {M : Model} {Γ : Ctx} {n : Nat} (t : Sem α) : ∀ {Q : α → Pos → Shared → Prop} {E : Value → Pos → Shared → Prop} {p : Pos} {s : Shared}, n ≤ s.toks → Sem.wp M Γ t Q E p s → Sem.wp M Γ t (fun a p' s' => Q a p' s' ∧ n ≤ s'.toks) E p s := by
  induction t with
  | pure a => intro Q E p s hn h; exact ⟨h, hn⟩
  | raise e => intro Q E p s hn h; exact h
  | load a q k ih => intro Q E p s hn h; obtain ⟨o, h1, h2⟩ := h; exact ⟨o, h1, ih o hn h2⟩
  | update a q f k ih => intro Q E p s hn h; exact ⟨h.1, ih () hn h.2⟩
  | fresh k ih => intro Q E p s hn h; exact ih _ (Nat.le_succ_of_le hn) h
  | choose a b k ih => intro Q E p s hn h; exact ⟨h.1, ih _ hn h.2⟩
  | call c h a b k ih =>
    intro Q E p s hn hw
    obtain ⟨r, s', h1, h2⟩ := hw
    exact ⟨r, s', h1, ih r (Nat.le_trans hn (Runs.toks h1)) h2⟩
  | genState g k ih => intro Q E p s hn h; obtain ⟨o, h1, h2⟩ := h; exact ⟨o, h1, ih _ hn h2⟩
  | resume g r l k ih => intro Q E p s hn h; obtain ⟨a, b, h1, h2⟩ := h; exact ⟨a, b, h1, ih _ (Nat.le_trans hn (Wakes.toks h1)) h2⟩
  | _ => intro Q E p s hn h; first | exact h.elim | (rename_i ih; exact ih _ hn h) | exact h
theorem wpAny_toks {α : Type} {M : Model} {A : Around} {t : Sem α} {Q : α → Shared → Prop} {E : Value → Shared → Prop} {s : Shared} (h : wpAny M A t Q E s) : wpAny M A t (fun a s' => Q a s' ∧ s.toks ≤ s'.toks) E s :=
  fun Γ p hΓ => wp_toks t (Nat.le_refl _) (h Γ p hΓ)
section
variable {c : Cfg} {σ σ' σ₁ σ₂ : Sig} {E : Value → Shared → Prop} {Φ : AFlow → Sig → Prop} {rest : List Stmt}
/-- an expression at a state whose tokens have begun -/
noncomputable def EV1 (c : Cfg) (σ : Sig) (e : Expr) (d : D) : Prop :=
  ∀ (k : G) (N : Addr → Prop) (g : G) (m : Str → Option Value) (s : Shared) (Q E : Value → Shared → Prop), 1 ≤ s.toks → W c k N g m σ s.heap →
    (∀ v h' g' tk, 1 ≤ tk → Keep s.heap h' → W c k N g' m σ h' → Le g g' → Rep g' v d → Q v { s with heap := h', toks := tk }) →
    wpAny c.M c.A (eval e c.env) Q E s
theorem EV.to1 {e : Expr} {d : D} (h : EV c σ e d) : EV1 c σ e d := by
  intro k N g m s Q E ht w q
  refine wpAny_mono (wpAny_toks (h k N g m s (fun v s' => ∃ h' g' tk, s' = { s with heap := h', toks := tk } ∧ Keep s.heap h' ∧ W c k N g' m σ h' ∧ Le g g' ∧ Rep g' v d) E w fun v h' g' tk a b c d => ⟨h', g', tk, rfl, a, b, c, d⟩)) ?_ fun _ _ e => e
  rintro v s' ⟨⟨h', g', tk, rfl, a, b, c, d⟩, hn⟩
  exact q v h' g' tk (Nat.le_trans ht hn) a b c d
noncomputable def SX1 (c : Cfg) (E : Value → Shared → Prop) (σ : Sig) (ss : List Stmt) (Φ : AFlow → Sig → Prop) : Prop :=
  ∀ (k : G) (N : Addr → Prop) (g : G) (m : Str → Option Value) (s : Shared), 1 ≤ s.toks → W c k N g m σ s.heap →
    wpAny c.M c.A (execs ss c.env) (Fin c k N Φ s) E s
theorem SX.to1 {ss : List Stmt} (h : SX c E σ ss Φ) : SX1 c E σ ss Φ := fun k N g m s _ w => h k N g m s w
theorem SX1.seq {st : Stmt} (h : SX c E σ [st] (fun f τ => f = .next ∧ τ = σ')) (h' : SX1 c E σ' rest Φ) : SX1 c E σ (st :: rest) Φ := by
  intro k N g m s ht w
  have h1 := wpAny_toks (h k N g m s w)
  refine wpAny_execs_cons ?_
  have key : ∀ {Q : Flow → Shared → Prop}, wpAny c.M c.A (execs [st] c.env) Q E s → wpAny c.M c.A (exec st c.env) Q E s := by
    intro Q hq
    unfold execs at hq
    refine fun Γ p hΓ => ?_
    have := hq Γ p hΓ
    rw [Sem.wp_bind'] at this
    refine Sem.wp_mono c.M Γ _ (fun a p' s' h2 => ?_) (fun _ _ _ h2 => h2) p s this
    cases a <;> exact h2
  refine wpAny_mono (key h1) ?_ fun _ _ e => e
  rintro f s' ⟨⟨h', tk, g', m', σ'', af, rfl, w', fl, rfl, rfl⟩, hn⟩
  cases fl
  exact wpAny_mono (h' k N g' m' _ (Nat.le_trans ht hn) w') (fun _ _ q => q.trans) fun _ _ e => e
theorem SX1.ret {e : Expr} {d : D} {p : Pos} (he : EV1 c σ e d) (h : Φ (.ret d) σ) : SX1 c E σ (.Return (some e) p :: rest) Φ := by
  intro k N g m s ht w
  refine wpAny_execs_cons (wpAny_Return_some (he k N g m s _ E ht w fun v h₁ g₁ t₁ _ k₁ w₁ l₁ r₁ => ?_))
  exact ⟨h₁, t₁, g₁, m, σ, .ret d, rfl, w₁, .ret r₁, h⟩
theorem SX1.assign (ok : c.Ok) {x : Str} {e : Expr} {p p' : Pos} {d : D} (he : EV1 c σ e d) (hu : Upd σ x (.val d) σ') (hs : swapsWith e (some (.Name x p')) p.line c.env = pure false) (k : SX c E σ' rest Φ) : SX1 c E σ (.Assign [.Name x p'] e p :: rest) Φ := by
  intro kk N g m s ht w
  refine wpAny_execs_cons (wpAny_Assign_Name (he kk N g m s _ E ht w fun v h₁ g₁ t₁ _ k₁ w₁ l₁ r₁ => ?_) hs)
  refine W.put ok w₁ r₁ hu fun h' tk w' => ?_
  exact wpAny_mono (k kk N g₁ _ _ w') (fun _ _ q => q.trans.trans) fun _ _ e => e
theorem EV1.compare {l r : Expr} {op : CmpOp} {pos : Pos} {d₁ d₂ d : D} (hl : EV1 c σ l d₁) (hr : EV c σ r d₂) (ho : OP2 c (compareOp op) d₁ d₂ d) (hm : behindInMarks op r = false) : EV1 c σ (.Compare l [op] [r] pos) d := by
  intro k N g m s Q E ht w h
  have aux : wpAny c.M c.A (eval (.Compare l [op] [r] pos) c.env) (fun v s' => ∃ h' g' tk, s' = { s with heap := h', toks := tk } ∧ Keep s.heap h' ∧ W c k N g' m σ h' ∧ Le g g' ∧ Rep g' v d) E s := by
    refine wpAny_Compare1 (hl k N g m s _ E ht w fun v₁ h₁ g₁ t₁ _ k₁ w₁ l₁ r₁ => ?_) hm
    refine hr k N g₁ m _ _ E w₁ fun v₂ h₂ g₂ t₂ k₂ w₂ l₂ r₂ => ?_
    refine ho g₂ _ v₁ v₂ _ E w₂.gin (r₁.mono l₂) r₂ fun v h₃ g₃ t₃ k₃ i₃ l₃ s₃ r₃ => ?_
    exact ⟨h₃, g₃, t₃, rfl, (k₁.trans (k₂.trans k₃)), (w₂.grow k₃ i₃ l₃ s₃), (l₁.trans (l₂.trans l₃)), r₃⟩
  refine wpAny_mono (wpAny_toks aux) ?_ fun _ _ e => e
  rintro v s' ⟨⟨h', g', tk, rfl, a, b, c, d⟩, hn⟩
  exact h v h' g' tk (Nat.le_trans ht hn) a b c d
/-- a call of a def with one argument -/
theorem EV1.call1 {prog : Program} {w : World} {h₁ : Heap} {mg : Str → Option Value} (ok : c.Ev) (is : c.Is prog w h₁ mg) {x : Str} {p pos : Pos} {e : Expr} {d : D} {f : Addr} {n : Nat} {r : D} (hx : GL c x (some (.ref f))) (hf : IsFn h₁ f) (he : EV1 c σ e d) (hst : ∀ env, backTo pos (starEach [e] env) = [(false, eval e env)]) (hF : FN prog w h₁ f n [d] r)
    (hdp : c.A.depth + n < recursionLimit) (hun : c.A.units + 8 * n + 64 < cLine) : EV1 c σ (.Call (.Name x p) [e] [] pos) r := by
  obtain ⟨rfl, rfl, rfl, rfl⟩ := is
  intro k N g m s Q E ht w q
  have aux : wpAny c.M c.A (eval (.Call (.Name x p) [e] [] pos) c.env) (fun v s' => ∃ h' g' tk, s' = { s with heap := h', toks := tk } ∧ Keep s.heap h' ∧ W c k N g' m σ h' ∧ Le g g' ∧ Rep g' v r) E s := by
    refine wpAny_Call_NameR (W.global ok w hx ?_)
    obtain ⟨o, fd, ho, hfd⟩ := hf
    refine Calls.callWith_function (o := o) (fd := fd) ?_
    rw [hst]
    refine Calls.evalArgs_plain (Calls.spliced_cons (he k N g m s _ E ht w fun v h₁ g₁ t₁ _ k₁ w₁ l₁ r₁ => Calls.spliced_nil ?_))
    refine ⟨⟨w₁.keep₁ _ _ ho, hfd⟩, ?_⟩
    refine hF c.A _ g₁ [v] _ E ok.hh hdp hun w₁.keep₁ w₁.gin (.cons r₁ .nil) fun v h₂ g₂ t₂ k₂ i₂ l₂ s₂ r₂ => ?_
    exact ⟨h₂, g₂, t₂, rfl, (k₁.trans k₂), (w₁.grow k₂ i₂ l₂ s₂), (l₁.trans l₂), r₂⟩
  refine wpAny_mono (wpAny_toks aux) ?_ fun _ _ e => e
  rintro v s' ⟨⟨h', g', tk, rfl, a, b, c, d⟩, hn⟩
  exact q v h' g' tk (Nat.le_trans ht hn) a b c d
/-- x.replace(y, z) of two written texts -/
theorem EV1.replace {o : Expr} {apos pos p1 p2 : Pos} {k1 k2 : Nat} {x y z : Str} (he : EV1 c σ o (.str x)) (hbase : attributeBase o "replace" c.env (eval o c.env) = eval o c.env) (hline : (apos.endLine == pos.line) = true)
    (hyz : (y == z) = false) (hx : x.length + (x.length + 1) * z.length ≤ 16777216) : EV1 c σ (.Call (.Attribute o "replace" apos) [.Constant (.str y) k1 p1, .Constant (.str z) k2 p2] [] pos) (.str (Txt.replace x y z)) := by
  intro k N g m s Q E ht w q
  have aux : wpAny c.M c.A (eval (.Call (.Attribute o "replace" apos) [.Constant (.str y) k1 p1, .Constant (.str z) k2 p2] [] pos) c.env) (fun v s' => ∃ h' g' tk, s' = { s with heap := h', toks := tk } ∧ Keep s.heap h' ∧ W c k N g' m σ h' ∧ Le g g' ∧ Rep g' v (.str (Txt.replace x y z))) E s := by
    refine wpAny_Call_method_lateS hbase rfl hline (he k N g m s _ E ht w fun v h₁ g₁ t₁ ht₁ k₁ w₁ l₁ r₁ => ?_)
    cases r₁
    refine ⟨"str", "str.replace", PySem.F.plainAttrs_str, PySem.F.slot_str_replace, PySem.F.type_str_replace, typeIs_str _ _ _, (fun b e => nomatch e), ?_⟩
    refine Calls.callWith_builtin rfl (Calls.evalArgs_plain (Calls.spliced_cons (Calls.Constant_str (k := k1) (pos := p1) (Calls.spliced_cons (Calls.Constant_str (k := k2) (pos := p2) (Calls.spliced_nil ?_))))))
    refine SC.replace (show (t₁ : Nat) ≠ 0 by omega) (show (t₁ : Nat) + 1 ≠ 0 by omega) (show (t₁ : Nat) ≠ t₁ + 1 by omega) hyz hx fun t' k => ?_
    exact ⟨h₁, g₁, k, rfl, k₁, w₁, l₁, .str _ _⟩
  refine wpAny_mono (wpAny_toks aux) ?_ fun _ _ e => e
  rintro v s' ⟨⟨h', g', tk, rfl, a, b, c, d⟩, hn⟩
  exact q v h' g' tk (Nat.le_trans ht hn) a b c d
theorem Reps.strValues {g : G} : ∀ (l : List (Str × Tok)), Reps g (PySem.strValues l) ((l.map (·.1)).map .str)
  | [] => .nil
  | (x, t) :: r => .cons (.str x t) (Reps.strValues r)
/-- x.split() -/
theorem EV1.split {o : Expr} {apos pos : Pos} {x : Str} (he : EV1 c σ o (.str x)) (hbase : attributeBase o "split" c.env (eval o c.env) = eval o c.env) (hline : (apos.endLine == pos.line) = true) (hx : x.length ≤ 1000000) :
    EV1 c σ (.Call (.Attribute o "split" apos) [] [] pos) (.list ((Txt.words x).map .str)) := by
  intro k N g m s Q E ht w q
  have aux : wpAny c.M c.A (eval (.Call (.Attribute o "split" apos) [] [] pos) c.env) (fun v s' => ∃ h' g' tk, s' = { s with heap := h', toks := tk } ∧ Keep s.heap h' ∧ W c k N g' m σ h' ∧ Le g g' ∧ Rep g' v (.list ((Txt.words x).map .str))) E s := by
    refine wpAny_Call_method_lateS hbase rfl hline (he k N g m s _ E ht w fun v h₁ g₁ t₁ ht₁ k₁ w₁ l₁ r₁ => ?_)
    cases r₁
    refine ⟨"str", "str.split", PySem.F.plainAttrs_str, PySem.F.slot_str_split, PySem.F.type_str_split, typeIs_str _ _ _, (fun b e => nomatch e), ?_⟩
    refine Calls.callWith_builtin rfl (wpAny_pure ?_)
    have hsl : sizeLine = 16777216 := sizeLine_eq
    have hn : (Builtin.Str.spaceWords x (x.length + 1)).length ≤ sizeLine := by
      have e1 := (StrLaws.sw_weight x).1
      have e2 := StrLaws.len_le_wsum (Builtin.Str.spaceWords x (x.length + 1))
      omega
    have fin : ∀ (l : List (Str × Tok)) (tk : Nat), l.map (·.1) = Txt.words x → ∃ h' g' tk', ({ s with heap := h₁.push (listObj (PySem.strValues l) 0), toks := tk } : Shared) = { s with heap := h', toks := tk' } ∧ Keep s.heap h' ∧ W c k N g' m σ h' ∧ Le g g' ∧ Rep g' (.ref h₁.objs.size) (.list ((Txt.words x).map .str)) := by
      intro l tk hl
      have hsz := Heap.get?_none_of_le (h := h₁) (Nat.le_refl _)
      have ha : (h₁.push (listObj (PySem.strValues l) 0)).get? h₁.objs.size = some (listObj (PySem.strValues l) 0) := Heap.get?_push_size _ rfl
      obtain ⟨w₂, l₂⟩ := w₁.add (Keep.push h₁ (listObj (PySem.strValues l) 0)) hsz ha
      refine ⟨_, _, _, rfl, k₁.trans (Keep.push _ _), w₂, l₁.trans l₂, .list (G.add_self _ _ _) rfl rfl ?_⟩
      rw [← hl]; exact Reps.strValues l
    refine call_meets PySem.F.slot_str_split (typeIs_str _ _ _) PySem.F.entry_str_split (PySem.F.args_str_split_1 _) (PySem.meets_str_split_space x _ (by omega) hn) ?_
    cases hw : Builtin.Str.spaceWords x (x.length + 1) == [(0, x.length)]
    · simp only [Bool.false_eq_true, if_false]
      rw [strsFrom_eq]
      exact fin (numbered _ (PySem.wordsOf x)) _ ((numbered_texts _ _).trans (if_neg (ne_true_of_eq_false hw)).symm)
    · simp only [if_true]
      exact fin [(x, _)] _ (if_pos hw).symm
  refine wpAny_mono (wpAny_toks aux) ?_ fun _ _ e => e
  rintro v s' ⟨⟨h', g', tk, rfl, a, b, c, d⟩, hn⟩
  exact q v h' g' tk (Nat.le_trans ht hn) a b c d
/-- a dict display of written texts -/
noncomputable def TB (c : Cfg) (σ : Sig) (e : Expr) (D' : List (PyData × PyData)) : Prop :=
  ∀ (k : G) (N : Addr → Prop) (g : G) (m : Str → Option Value) (s : Shared) (Q E : Value → Shared → Prop), W c k N g m σ s.heap →
    (∀ d h' tk, Keep s.heap h' → StrTab c.prog c.w h' d D' → Q (.ref d) { s with heap := h', toks := tk }) → wpAny c.M c.A (eval e c.env) Q E s
inductive Disp : List (Option Expr) → List Expr → List (Str × Str) → Prop where
  | nil : Disp [] [] []
  | cons {x y : Str} {k k' : Nat} {p p' : Pos} {ks : List (Option Expr)} {vs : List Expr} {ps : List (Str × Str)} : Disp ks vs ps → Disp (some (.Constant (.str x) k p) :: ks) (.Constant (.str y) k' p' :: vs) ((x, y) :: ps)
inductive DV : List (Value × Value) → List (Str × Str) → Prop where
  | nil : DV [] []
  | cons {x y : Str} {t u : Tok} {vs : List (Value × Value)} {ps : List (Str × Str)} : DV vs ps → DV ((.str x t, .str y u) :: vs) ((x, y) :: ps)
theorem Disp.run {ks : List (Option Expr)} {vs : List Expr} {ps : List (Str × Str)} (h : Disp ks vs ps) {env : Env} {pos : Pos} : ∀ {s : Shared} {Q : List (Value × Value) → Shared → Prop}, (∀ us tk, DV us ps → Q us { s with toks := tk }) → wpAny c.M c.A (evalPairs (pairTrees ks vs env pos)) Q E s := by
  induction h with
  | nil => intro s Q q; exact pairTrees_nil_walk (q [] s.toks .nil)
  | cons h ih =>
    intro s Q q
    refine pairTrees_cons_walk (Calls.Constant_str (Calls.Constant_str (ih fun us tk hd => ?_)))
    exact q _ tk (.cons hd)
theorem DV.keys {us : List (Value × Value)} {ps : List (Str × Str)} (h : DV us ps) : allStrKeys us = true ∧ (strPairs us).map (·.1) = ps.map (·.1) ∧ V.FlatPairs PyData.str (strPairs us) (ps.map fun p => (.str p.1, .str p.2)) := by
  induction h with
  | nil => exact ⟨rfl, rfl, .nil⟩
  | cons h ih => exact ⟨ih.1, by simp [strPairs, ih.2.1], .cons (V.Flat.str _ _) ih.2.2⟩
theorem TB.disp (hst : Stat c.h₁ c.mg c.mb) {ks : List (Option Expr)} {vs : List Expr} {ps : List (Str × Str)} {pos : Pos} (h : Disp ks vs ps) (hall : ks.all (·.isSome) = true) (hl : ks.length = vs.length) (h0 : ks ≠ []) (hlen : ks.length ≤ 15) (hn : (ps.map (·.1)).Nodup) :
    TB c σ (.Dict ks vs pos) (ps.map fun p => (.str p.1, .str p.2)) := by
  intro k N g m s Q E w q
  refine wpAny_Dict_walk (knd := PySem.strKind c.prog c.w) hall hl h0 hlen (h.run fun us tk hd => ?_)
  obtain ⟨h1, h2, h3⟩ := hd.keys
  refine display_done_str h1 (by rw [h2]; exact hn) (Heap.DictOf.new _) fun h' hdict hs => ?_
  refine q _ h' _ (fun b o e => ?_) ⟨?_, strPairs us, hdict, h3⟩
  · rw [hs.2 b (Nat.ne_of_lt (Heap.lt_size e))]; exact Heap.get?_push_of_some _ e
  · rw [beq_eq_false_iff_ne]
    intro e
    obtain ⟨o, _, _, ho, _⟩ := (w.keep₁ · · · : Keep c.h₁ s.heap) |> fun kk => (hst.g.keeps kk)
    have h1 := Heap.lt_size ho
    have h2 : (mainGlobals : Nat) = 3 := by decide +kernel
    have h3 : (sysModules : Nat) = 1 := by decide +kernel
    have h1' : (mainGlobals : Nat) < s.heap.objs.size := h1
    have e' : (s.heap.objs.size : Nat) = (sysModules : Nat) := e
    rw [h2] at h1'; rw [h3] at e'
    exact absurd h1' (by rw [e']; decide)
theorem TB.item {e v : Expr} {D' : List (PyData × PyData)} {pos : Pos} {y : Str} {dv : PyData} (ht : TB c σ v D') (he : EV c σ e (.str y)) (hl : Spec.lookup (.str y) D' = some dv) (hdv : (∃ i, dv = .int i) ∨ (∃ x, dv = .str x))
    (hs : ∀ o k, subscripted e false o k = operate [o, k] (getItem o k)) (hg : ∀ d r, letTemporaryGo v (.ref d) r = pure ()) : EV c σ (.Subscript v e pos) (D.ofPy dv) := by
  intro k N g m s Q E w h
  refine Subscript_ (ht k N g m s _ E w fun d h₀ t₀ k₀ T => ?_)
  refine he k N g m _ _ E (w.keep k₀) fun v₁ h₁ g₁ t₁ k₁ w₁ l₁ r₁ => ?_
  cases r₁
  exact item_strTab (T.keep k₁) hl (fun v hv => h v h₁ g₁ _ (k₀.trans k₁) w₁ l₁ (rep_flat hv hdv)) (hs _ _) (hg d)
theorem TB.get {v e e' : Expr} {D' : List (PyData × PyData)} {p' pos : Pos} {y z : Str} (ht : TB c σ v D') (he : EVs c σ [e, e'] [.str y, .str z]) {r : Str} (hr : (Spec.lookup (.str y) D').getD (.str z) = .str r)
    (hbase : attributeBase v "get" c.env (eval v c.env) = eval v c.env) (hline : (p'.endLine == pos.line) = true) : EV c σ (.Call (.Attribute v "get" p') [e, e'] [] pos) (.str r) := by
  intro k N g m s Q E w h
  refine wpAny_Call_method_lateS hbase (by rw [he.plain]; rfl) hline (ht k N g m s _ E w fun d h₀ t₀ k₀ T => ?_)
  have T₀ := T
  obtain ⟨lo, kvs, hd, hf⟩ := T₀
  obtain ⟨o, es, ep, ho, hex, hr'⟩ := id hd
  refine ⟨"dict", "dict.get", PySem.F.plainAttrs_dict, PySem.F.slot_dict_get, PySem.F.type_dict_get, hd.typeIs, fun b e => ?_, ?_⟩
  · cases e; exact ⟨o, ho, hex.2.1⟩
  · refine Calls.callWith_builtin he.noStar (he.args k N g m _ _ (w.keep k₀) fun vs h₁ g₁ t₁ k₁ w₁ l₁ r₁ => ?_)
    cases r₁ with
    | cons r₁ r₂ => cases r₂ with
      | cons r₂ r₃ =>
        cases r₃; cases r₁; cases r₂
        refine call_get2_strTab (T.keep k₁) (V.Flat.str _ _) fun v hv => ?_
        rw [hr] at hv
        exact h v h₁ g₁ _ (k₀.trans k₁) w₁ l₁ (rep_flat hv (.inr ⟨_, rfl⟩))
/-- a def: its body begins with tokens -/
theorem FN.of_body1 {prog : Program} {w : World} {h₁ : Heap} {mg mb : Str → Option Value} {f : Addr} {n : Nat} {args : List D} {r : D} {o : Obj} {fd : FuncData} {body : List Stmt} {params names : List Str}
    (hst : Stat h₁ mg mb) (ho : h₁.get? f = some o) (hdata : o.data = .func fd) (hcd : h₁.CodeRec fd.code fd.qualname) (hbody : fd.body = .stmts body)
    (hgl : fd.globals = mainGlobals) (hcl : fd.closure = []) (hbl : fd.builtins = builtinsNs)
    (hlen : params.length = args.length) (hp1 : 1 ≤ params.length)
    (hbind : ∀ (s : Shared) (vs : List Value), vs.length = params.length → BindsTo s fd ⟨vs, []⟩ (params.zip vs))
    (hcell : ∀ x ∈ fd.scope.names, x.2 ≠ .cell) (hloc : ∀ x ∈ params ++ names, fd.scope.names.lookup x = some .local ∧ (x == ("__debug__" : Str)) = false) (hnod : (params ++ names).Nodup)
    (hco : fd.scope.isCoroutine = false) (hgen : fd.scope.isGenerator = false) (hk : fd.scope.kind = .function)
    (hsx : ∀ (c : Cfg), c.Ok → c.Is prog w h₁ mg → c.env.scope = fd.scope → c.A.depth + n < recursionLimit → c.A.units + 8 * n + 64 < cLine → SX1 c (fun _ _ => False) (startSig names params args) body (fun fl _ => fl = .ret r)) :
    FN prog w h₁ f (n + 1) args r := by
  intro A s g vs Q E hh hd hu hk₁ hg hr q
  refine wpAny_call (codeAny_call_def (fd := fd) (body := body) (binds := params.zip vs) (by omega) (hk₁ _ _ ho) hdata (hst.nolimit.keeps hk₁) (hcd.keeps hk₁) hbody (hbind s vs (by rw [hlen, hr.length])) hcell (fun x hx => (hloc _ (List.mem_append_left _ (List.of_mem_zip hx).1)).1) (fun h₀ hns hk₂ => ?_) hco hgen hk)
  generalize henv : callEnv fd s.heap.objs.size f = env
  have e1 : env.scope = fd.scope := by rw [← henv]; rfl
  have e2 : env.locals = s.heap.objs.size := by rw [← henv]; rfl
  have e3 : env.globals = mainGlobals := by rw [← henv]; exact hgl
  have e4 : env.builtins = builtinsNs := by rw [← henv]; exact hbl
  have e5 : env.cells = [] := by rw [← henv]; exact hcl
  have hL0 : s.heap.get? s.heap.objs.size = none := Heap.get?_none_of_le (Nat.le_refl _)
  have hLl : h₀.get? s.heap.objs.size ≠ none := by obtain ⟨o, _, _, e, _⟩ := hns; rw [e]; exact fun e => nomatch e
  have hkeys := startSig_keys (names := names) hlen
  have hw : W { prog := prog, w := w, A := A.deeper env, h₁ := h₁, mg := mg, mb := mb, env := env, fp := [s.heap.objs.size] } (fun b => s.heap.get? b) (fun b => s.heap.get? b ≠ none ∧ g b = none) g (fun x => (params.zip vs).reverse.lookup x) (startSig names params args) h₀ := by
    refine { base := fun b o e => hk₁ _ _ e, kin := fun b o e => hk₂ _ _ e, gin := fun b o e => hk₂ _ _ (hg _ _ e), fpk := fun p hp => ?_, fpl := fun p hp => ?_, nN := fun b hb => ⟨hb.1, hb.2⟩, fr := ⟨⟨_, e2 ▸ hns, fun _ _ => rfl⟩, fun x p _ h => ?_⟩, cel := fun x p h => ?_, Lfp := by show env.locals ∈ _; rw [e2]; exact .head _, nod := by rw [hkeys]; exact hnod, lcl := ?_, loc := startSig_holds hr fun x u hm => zip_lookup (List.nodup_append.mp hnod).1 (by rw [hlen, ← hr.length]) hm, sep := fun x u y v a hx _ hf => ?_ }
    · rw [List.mem_singleton.mp hp]; exact ⟨hL0, hg.none_size⟩
    · rw [List.mem_singleton.mp hp]; exact hLl
    · dsimp only at h; rw [e5] at h; cases h
    · dsimp only at h; rw [e5] at h; cases h
    · rw [hkeys]; intro x hx; refine ⟨.inl ?_, (hloc x hx).2⟩; dsimp only; unfold Env.kindOf; rw [e1]; exact (hloc x hx).1
    · rw [startSig_free hx] at hf; cases hf
  refine wpAny_mono (hsx { prog := prog, w := w, A := A.deeper env, h₁ := h₁, mg := mg, mb := mb, env := env, fp := [s.heap.objs.size] } ⟨⟨hst, by dsimp only; rw [e1]; exact hk, e3, e4, hh, by show A.units + 3 + 64 < _; omega, by show A.depth + 1 < _; omega⟩, by dsimp only; rw [e2]; exact .head _, fun x p h => (by dsimp only at h; rw [e5] at h; cases h), fun x y p h => (by dsimp only at h; rw [e5] at h; cases h), fun x p h => (by dsimp only at h; rw [e5] at h; cases h)⟩ ⟨rfl, rfl, rfl, rfl⟩ e1 (by show A.depth + 1 + n < _; omega) (by show A.units + 3 + 8 * n + 64 < _; omega) (fun b => s.heap.get? b) (fun b => s.heap.get? b ≠ none ∧ g b = none) g _ { s with heap := h₀, toks := s.toks + (params.zip vs).length } (by have := hr.length; simp only [List.length_zip]; omega) hw) (fun fl s' hf => ?_) fun _ _ e => e.elim
  obtain ⟨h', tk, g', m', σ', af, rfl, w', hfl, rfl⟩ := hf
  cases hfl with
  | ret hv =>
    have hkeep : Keep s.heap h' := fun b o e => w'.kin b o e
    have hgi : g.In h' := hg.keep hkeep
    refine q _ h' (g.or g') tk hkeep (hgi.or w'.gin) (Le.or_left _ _) (fun b hb => ?_) (hv.mono (Le.or_right hgi w'.gin))
    cases e : g b with
    | some o => exact Le.or_left _ _ _ _ e
    | none => exact G.or_none e (w'.nN b ⟨hb, e⟩).2
end
end Mine
namespace Mine
noncomputable abbrev tk (s : String) : Str := Str.ofString s
/-- the levels of the operations -/
noncomputable def opsTab : List (Str × Int) := [(tk "||", 1), (tk "&&", 2), (tk "==", 3), (tk "!=", 3), (tk "<", 4), (tk ">", 4), (tk "<=", 4), (tk ">=", 4), (tk "+", 5), (tk "-", 5), (tk "*", 6), (tk "/", 6), (tk "%", 6)]
noncomputable def lvl (t : Str) : Option Int := opsTab.lookup t
noncomputable def pyTab : List (Str × Str) := [(tk "||", tk "or"), (tk "&&", tk "and"), (tk "/", tk "//")]
noncomputable def pyOp (t : Str) : Str := (pyTab.lookup t).getD t
/-- 'not ' k times -/
noncomputable def notTxt : Nat → Str
  | 0 => tk ""
  | k + 1 => notTxt k ++ tk "not "
noncomputable def paren (x : Str) : Str := tk "(" ++ x ++ tk ")"
noncomputable def isCmp (i : Int) : Bool := [3, 4].any (· == i)
noncomputable def errMsg (t : Str) : Str := if t.length = 0 then tk "unexpected end of plural form" else tk "unexpected token in plural form: " ++ t
noncomputable def unbal : Str := tk "unbalanced parenthesis in plural form"
inductive PRes where
  | ok (text next : Str) (rest : List Str)
  | bad (msg : Str) (rest : List Str)
  | out
/-- what _parse gives: `start` at its head, `atom` behind the nots, `loop` at the while, `tail` behind it -/
inductive Mode where
  | start (p : Int)
  | loop (p : Int) (res : Str) (j : Int) (nx : Str)
  | tail (p : Int) (res : Str) (nx : Str)
noncomputable def skipNots : List Str → Nat × List Str
  | [] => (0, [])
  | t :: r => if t = tk "!" then ((skipNots r).1 + 1, (skipNots r).2) else (0, t :: r)
noncomputable def run : Nat → Mode → List Str → PRes
  | 0, _, _ => .out
  | f + 1, .start p, toks =>
    match skipNots toks with
    | (_, []) => .out
    | (k, t :: r) =>
      if t = tk "(" then
        match run f (.start (-1)) r with
        | .ok sub nx r' => if nx = tk ")" then (match r' with | [] => .out | nx' :: r'' => run f (.loop p (notTxt k ++ tk "(" ++ sub ++ tk ")") 100 nx') r'') else .bad unbal r'
        | .bad m r' => .bad m r'
        | .out => .out
      else if t = tk "n" then (match r with | [] => .out | nx' :: r'' => run f (.loop p (notTxt k ++ t) 100 nx') r'')
      else match PySem.intText? t with
        | some n => (match r with | [] => .out | nx' :: r'' => run f (.loop p (notTxt k ++ dec n) 100 nx') r'')
        | none => .bad (errMsg t) r
  | f + 1, .loop p res j nx, r =>
    match lvl nx with
    | none => run f (.tail p (if j = p ∧ p = 4 then paren res else res) nx) r
    | some i =>
      if i < p then run f (.tail p (if j = p ∧ p = 4 then paren res else res) nx) r
      else match run f (.start (i + 1)) r with
        | .ok right nx' r' => run f (.loop p ((if isCmp i && isCmp j then paren res else res) ++ tk " " ++ pyOp nx ++ tk " " ++ right) i nx') r'
        | .bad m r' => .bad m r'
        | .out => .out
  | f + 1, .tail p res nx, r =>
    if nx = tk "?" ∧ p ≤ 0 then
      match run f (.start 0) r with
      | .ok yes nx1 r1 =>
        if nx1 = tk ":" then
          match run f (.start (-1)) r1 with
          | .ok no nx2 r2 => .ok (if p = 0 then paren (yes ++ tk " if " ++ res ++ tk " else " ++ no) else yes ++ tk " if " ++ res ++ tk " else " ++ no) nx2 r2
          | .bad m r' => .bad m r'
          | .out => .out
        else .bad (errMsg nx1) r1
      | .bad m r' => .bad m r'
      | .out => .out
    else .ok res nx r
/-- tokens of a bounded size -/
noncomputable def Small (t : Str) : Prop := t.length ≤ 64 ∧ ∀ n, PySem.intText? t = some n → 0 ≤ n ∧ n < 10 ^ 10 ∧ (dec n).length ≤ 64
noncomputable def Smalls (ts : List Str) : Prop := ∀ t ∈ ts, Small t
theorem skipNots_length : ∀ ts : List Str, (skipNots ts).1 + (skipNots ts).2.length = ts.length
  | [] => rfl
  | t :: r => by
    unfold skipNots
    have := skipNots_length r
    split
    · simp only [List.length_cons]; omega
    · simp
theorem skipNots_mem : ∀ (ts : List Str) (x : Str), x ∈ (skipNots ts).2 → x ∈ ts
  | [], _, h => h
  | t :: r, x, h => by
    unfold skipNots at h
    split at h
    · exact .tail _ (skipNots_mem r x h)
    · exact h
theorem notTxt_length : ∀ k, (notTxt k).length = 4 * k
  | 0 => by decide +kernel
  | k + 1 => by
    show (notTxt k ++ tk "not ").length = _
    rw [Str.length_append, notTxt_length k, show (tk "not ").length = 4 by decide +kernel]; omega
theorem paren_length (x : Str) : (paren x).length = x.length + 2 := by
  unfold paren
  rw [Str.length_append, Str.length_append, show (tk "(").length = 1 by decide +kernel, show (tk ")").length = 1 by decide +kernel]; omega
end Mine
namespace Mine
theorem lvl_mem {t : Str} {i : Int} (h : lvl t = some i) : (t, i) ∈ opsTab := mem_of_lookup h
theorem pyOp_length {t : Str} {i : Int} (h : lvl t = some i) : (pyOp t).length ≤ 3 := by
  have hm := lvl_mem h
  have : ∀ q ∈ opsTab, (pyOp q.1).length ≤ 3 := by decide +kernel
  exact this _ hm
theorem lvl_range {t : Str} {i : Int} (h : lvl t = some i) : 1 ≤ i ∧ i ≤ 6 := by
  have hm := lvl_mem h
  have : ∀ q ∈ opsTab, 1 ≤ q.2 ∧ q.2 ≤ 6 := by decide +kernel
  exact this _ hm
theorem ite_paren_length (b : Prop) [Decidable b] (x : Str) : (if b then paren x else x).length ≤ x.length + 2 := by
  split
  · rw [paren_length]; omega
  · omega
theorem run_len : ∀ (f : Nat) (m : Mode) (toks : List Str) (text nx : Str) (rest : List Str), Smalls toks → run f m toks = .ok text nx rest →
    Smalls rest ∧ (match m with
      | .start _ => Small nx ∧ text.length + 80 * (rest.length + 1) ≤ 80 * toks.length
      | .loop _ res _ nx₀ => (Small nx₀ → Small nx) ∧ ∀ B, res.length + 2 ≤ B → text.length + 80 * rest.length ≤ B + 80 * toks.length
      | .tail _ res nx₀ => (Small nx₀ → Small nx) ∧ ∀ B, res.length ≤ B → text.length + 80 * rest.length ≤ B + 80 * toks.length)
  | 0, _, _, _, _, _, _, h => by simp [run] at h
  | f + 1, .start p, toks, text, nx, rest, hs, h => by
    have hl := skipNots_length toks
    have hm := skipNots_mem toks
    unfold run at h
    rcases hk : skipNots toks with ⟨k, r₀⟩
    rw [hk] at h hl hm
    cases r₀ with
    | nil => simp at h
    | cons t r =>
      dsimp only at h hl hm
      have ht : Small t := hs t (hm t (.head _))
      have hr : Smalls r := fun x hx => hs x (hm x (.tail _ hx))
      simp only [List.length_cons] at hl
      have fin : ∀ (res nx' : Str) (r'' : List Str) (B : Nat), Smalls (nx' :: r'') → run f (.loop p res 100 nx') r'' = .ok text nx rest → res.length + 2 ≤ B → B + 80 * r''.length + 80 ≤ 80 * toks.length → Smalls rest ∧ Small nx ∧ text.length + 80 * (rest.length + 1) ≤ 80 * toks.length := by
        intro res nx' r'' B hs' hrun hB hT
        obtain ⟨h1, h2, h3⟩ := run_len f _ r'' text nx rest (fun x hx => hs' x (.tail _ hx)) hrun
        refine ⟨h1, h2 (hs' nx' (.head _)), ?_⟩
        have := h3 B hB
        omega
      by_cases h1 : t = tk "("
      · rw [if_pos h1] at h
        cases hrun : run f (.start (-1)) r with
        | bad m r' => rw [hrun] at h; simp at h
        | out => rw [hrun] at h; simp at h
        | ok sub nx' r' =>
          rw [hrun] at h
          dsimp only at h
          obtain ⟨hr', _, hsub⟩ := run_len f _ r sub nx' r' hr hrun
          by_cases h2 : nx' = tk ")"
          · rw [if_pos h2] at h
            cases r' with
            | nil => simp at h
            | cons nx'' r'' =>
              dsimp only at h
              refine fin _ nx'' r'' (80 * (k + 1 + r.length - (r''.length + 1))) hr' h ?_ ?_
              · simp only [Str.length_append, notTxt_length, show (tk "(").length = 1 by decide +kernel, show (tk ")").length = 1 by decide +kernel]
                simp only [List.length_cons] at hsub
                omega
              · simp only [List.length_cons] at hsub
                omega
          · rw [if_neg h2] at h; simp at h
      · rw [if_neg h1] at h
        by_cases h2 : t = tk "n"
        · rw [if_pos h2] at h
          cases r with
          | nil => simp at h
          | cons nx'' r'' =>
            dsimp only at h
            refine fin _ nx'' r'' (80 * (k + 1)) hr h ?_ ?_
            · simp only [Str.length_append, notTxt_length]; have := ht.1; omega
            · simp only [List.length_cons] at hl; omega
        · rw [if_neg h2] at h
          cases hn : PySem.intText? t with
          | none => rw [hn] at h; simp at h
          | some n =>
            rw [hn] at h
            cases r with
            | nil => simp at h
            | cons nx'' r'' =>
              dsimp only at h
              refine fin _ nx'' r'' (80 * (k + 1)) hr h ?_ ?_
              · simp only [Str.length_append, notTxt_length]; have := (ht.2 n hn).2.2; omega
              · simp only [List.length_cons] at hl; omega
  | f + 1, .loop p res j nx₀, toks, text, nx, rest, hs, h => by
    unfold run at h
    have tl : run f (.tail p (if j = p ∧ p = 4 then paren res else res) nx₀) toks = .ok text nx rest → Smalls rest ∧ (Small nx₀ → Small nx) ∧ ∀ B, res.length + 2 ≤ B → text.length + 80 * rest.length ≤ B + 80 * toks.length := by
      intro hrun
      obtain ⟨h1, h2, h3⟩ := run_len f _ toks text nx rest hs hrun
      exact ⟨h1, h2, fun B hB => h3 B (Nat.le_trans (ite_paren_length _ _) hB)⟩
    cases hl : lvl nx₀ with
    | none => rw [hl] at h; exact tl h
    | some i =>
      rw [hl] at h
      dsimp only at h
      by_cases hi : i < p
      · rw [if_pos hi] at h; exact tl h
      · rw [if_neg hi] at h
        cases hrun : run f (.start (i + 1)) toks with
        | bad m r' => rw [hrun] at h; simp at h
        | out => rw [hrun] at h; simp at h
        | ok right nx' r' =>
          rw [hrun] at h
          dsimp only at h
          obtain ⟨h1, h2, h3⟩ := run_len f _ toks right nx' r' hs hrun
          obtain ⟨h4, h5, h6⟩ := run_len f _ r' text nx rest h1 h
          refine ⟨h4, fun _ => h5 h2, fun B hB => ?_⟩
          have := h6 (B + 80 * (toks.length - r'.length)) (by
            have e1 := ite_paren_length ((isCmp i && isCmp j) = true) res
            have e2 := pyOp_length hl
            simp only [Str.length_append, show (tk " ").length = 1 by decide +kernel]
            omega)
          omega
  | f + 1, .tail p res nx₀, toks, text, nx, rest, hs, h => by
    unfold run at h
    by_cases hc : nx₀ = tk "?" ∧ p ≤ 0
    · rw [if_pos hc] at h
      cases hrun : run f (.start 0) toks with
      | bad m r' => rw [hrun] at h; simp at h
      | out => rw [hrun] at h; simp at h
      | ok yes nx1 r1 =>
        rw [hrun] at h
        dsimp only at h
        obtain ⟨h1, h2, h3⟩ := run_len f _ toks yes nx1 r1 hs hrun
        by_cases hn : nx1 = tk ":"
        · rw [if_pos hn] at h
          cases hrun2 : run f (.start (-1)) r1 with
          | bad m r' => rw [hrun2] at h; simp at h
          | out => rw [hrun2] at h; simp at h
          | ok no nx2 r2 =>
            rw [hrun2] at h
            dsimp only at h
            obtain ⟨h4, h5, h6⟩ := run_len f _ r1 no nx2 r2 h1 hrun2
            injection h with e1 e2 e3
            subst e2 e3
            refine ⟨h4, fun _ => h5, fun B hB => ?_⟩
            rw [← e1]
            have e4 := ite_paren_length (p = 0) (yes ++ tk " if " ++ res ++ tk " else " ++ no)
            simp only [Str.length_append, show (tk " if ").length = 4 by decide +kernel, show (tk " else ").length = 6 by decide +kernel] at e4
            omega
        · rw [if_neg hn] at h; simp at h
    · rw [if_neg hc] at h
      injection h with e1 e2 e3
      subst e1 e2 e3
      exact ⟨hs, id, fun B hB => by omega⟩
end Mine
namespace Mine
noncomputable def dstrs (ts : List Str) : D := .list (ts.map .str)
noncomputable def nats (ns : List Nat) : List D := ns.map fun (n : Nat) => D.int (n : Int)
/-- is an operand due -/
noncomputable def due (row : List Str) : Bool := match row.getLast? with
  | none => true
  | some t => t != tk "n" && (t != tk ")" && !Txt.isdigit t)
/-- the places outside of brackets -/
noncomputable def outGo : Int → Nat → List Str → List Nat
  | _, _, [] => []
  | d, i, t :: r =>
    let d1 := if t = tk "(" then d + 1 else d
    (if d1 = 0 then [i] else []) ++ outGo (if t = tk ")" then d1 - 1 else d1) (i + 1) r
noncomputable def outside (part : List Str) : List Nat := outGo 0 0 part
/-- the matching : -/
noncomputable def colonGo (part : List Str) : Int → List Nat → Int
  | _, [] => -1
  | w, i :: r =>
    if part[i]? = some (tk "?") then colonGo part (w + 1) r
    else if part[i]? = some (tk ":") then (if w - 1 = 0 then (i : Int) else colonGo part (w - 1) r)
    else colonGo part w r
noncomputable def colonOf (part : List Str) (places : List Nat) : Int := colonGo part 0 places
theorem idx_last {α : Type} {ds : List α} {d : α} (h : ds.getLast? = some d) : ds[idx (-1) ds.length]? = some d := by
  rw [← h, List.getLast?_eq_getElem?]; congr 1; simp only [idx]; rw [if_pos (by omega)]; omega
theorem idx_nat (i n : Nat) : idx (i : Int) n = i := by
  simp only [idx]; rw [if_neg (by omega)]; omega
theorem upto_get {n i : Nat} {d : D} (h : (upto n)[i]? = some d) : d = .int (i : Int) ∧ i < n := by
  unfold upto at h
  rw [List.getElem?_map, Option.map_eq_some_iff] at h
  obtain ⟨j, hj, rfl⟩ := h
  have := List.getElem?_eq_some_iff.mp hj
  obtain ⟨h1, h2⟩ := this
  simp at h2 h1
  subst h2
  exact ⟨rfl, h1⟩
theorem upto_length (n : Nat) : (upto n).length = n := by simp [upto]
theorem outGo_mem : ∀ (ts : List Str) (d : Int) (i j : Nat), j ∈ outGo d i ts → i ≤ j ∧ j < i + ts.length
  | [], _, _, _, h => by simp [outGo] at h
  | t :: r, d, i, j, h => by
    unfold outGo at h
    dsimp only at h
    generalize (if t = tk "(" then d + 1 else d) = d1 at h
    rcases List.mem_append.mp h with h | h
    · split at h
      · rw [List.mem_singleton.mp h]; simp
      · cases h
    · have := outGo_mem r _ _ _ h
      simp only [List.length_cons]; omega
theorem outside_lt {ts : List Str} {j : Nat} (h : j ∈ outside ts) : j < ts.length := by
  have := outGo_mem ts 0 0 j h; omega
theorem outside_length (ts : List Str) : (outside ts).length ≤ ts.length := by
  have : ∀ (ts : List Str) (d : Int) (i : Nat), (outGo d i ts).length ≤ ts.length := by
    intro ts
    induction ts with
    | nil => intro d i; simp [outGo]
    | cons t r ih =>
      intro d i
      unfold outGo
      dsimp only
      generalize (if t = tk "(" then d + 1 else d) = d1
      rw [List.length_append]
      have := ih (if t = tk ")" then d1 - 1 else d1) (i + 1)
      simp only [List.length_cons]
      split <;> simp <;> omega
  exact this ts 0 0
end Mine
namespace Mine
noncomputable def stripL : List Nat → List Nat
  | [] => []
  | [c] => [c]
  | c :: d :: r => if c = 48 then stripL (d :: r) else c :: d :: r
/-- a number's text without noughts ahead -/
noncomputable def num (x : Str) : Str := ⟨(stripL x.cps.toList).toArray⟩
theorem tail_eq {x : Str} (h : 1 ≤ x.length) : Txt.slice x (some 1) none = ⟨(x.cps.toList.drop 1).toArray⟩ := by
  rw [slice_from_eq (b := x.length) (by omega) (by omega) rfl]
  congr 2
  rw [List.take_of_length_le]
  · rfl
  · have : x.cps.toList.length = x.length := Array.length_toList
    simp only [List.length_drop, this]; omega
theorem charAt_zero {x : Str} {c : Nat} {r : List Nat} (h : x.cps.toList = c :: r) : Txt.charAt x 0 = some c := by
  have hl : x.length = r.length + 1 := by
    have : x.cps.toList.length = x.length := Array.length_toList
    rw [← this, h]; rfl
  unfold Txt.charAt seqIndex?
  simp only [hl]
  simp [← Array.getElem?_toList, h]
theorem item_zero {x : Str} {c : Nat} {r : List Nat} (h : x.cps.toList = c :: r) : Txt.item x 0 = ⟨#[c]⟩ := by
  unfold Txt.item; rw [charAt_zero h]; rfl
end Mine
namespace Mine
/-- formulas -/
inductive Tr where
  | nm (k : Nat) (t : Str)
  | par (k : Nat) (e : Tr)
  | bin (o : Str) (l r : Tr)
  | cond (c t f : Tr)
noncomputable def lvo (o : Str) : Int := (lvl o).getD 0
noncomputable def Tr.lv : Tr → Int
  | .nm _ _ | .par _ _ => 100
  | .bin o _ _ => lvo o
  | .cond _ _ _ => 0
noncomputable def nots (k : Nat) : List Str := List.replicate k (tk "!")
noncomputable def Tr.flat : Tr → List Str
  | .nm k t => nots k ++ [t]
  | .par k e => nots k ++ tk "(" :: (e.flat ++ [tk ")"])
  | .bin o l r => l.flat ++ o :: r.flat
  | .cond c t f => c.flat ++ tk "?" :: (t.flat ++ tk ":" :: f.flat)
noncomputable def wrap (q : Int) (e : Tr) (x : Str) : Str := if q = e.lv ∧ (q = 4 ∨ q = 0) then paren x else x
noncomputable def Tr.tx : Tr → Str
  | .nm k t => notTxt k ++ num t
  | .par k e => notTxt k ++ tk "(" ++ e.tx ++ tk ")"
  | .bin o l r => (if isCmp (lvo o) && isCmp l.lv then paren l.tx else l.tx) ++ tk " " ++ pyOp o ++ tk " " ++ wrap (lvo o + 1) r r.tx
  | .cond c t f => wrap 0 t t.tx ++ tk " if " ++ c.tx ++ tk " else " ++ f.tx
noncomputable def Tr.txt (q : Int) (e : Tr) : Str := wrap q e e.tx
noncomputable def Atm (t : Str) : Prop := t = tk "n" ∨ Txt.isdigit t = true
noncomputable def Tr.WF : Tr → Prop
  | .nm _ t => Atm t
  | .par _ e => e.WF
  | .bin o l r => (lvl o).isSome = true ∧ l.WF ∧ r.WF ∧ lvo o ≤ l.lv ∧ lvo o < r.lv
  | .cond c t f => c.WF ∧ t.WF ∧ f.WF ∧ 1 ≤ c.lv
structure Tok (t : Str) : Prop where
  dig : Txt.isdigit t = (PySem.intText? t).isSome
  num : ∀ n, PySem.intText? t = some n → dec n = num t
noncomputable def Ends (q : Int) (nx : Str) : Prop := (∀ i, lvl nx = some i → i < q) ∧ (nx = tk "?" → 0 < q)
inductive WRes where
  | ok (nx : Str) (rest : List Str)
  | bad (m : Str) (rest : List Str)
  | out
noncomputable def wk (p : Int) : List Str → Bool → List Str → WRes
  | _, _, [] => .out
  | st, true, t :: r =>
    if t = tk "(" then wk p (tk "(" :: st) true r
    else if t = tk "n" ∨ Txt.isdigit t = true then wk p st false r
    else if t = tk "!" then wk p st true r
    else .bad (errMsg t) r
  | st, false, t :: r =>
    if 0 < lvo t ∧ (st ≠ [] ∨ p ≤ lvo t) then wk p st true r
    else if t = tk "?" ∧ (st ≠ [] ∨ p ≤ 0) then wk p (tk "?" :: st) true r
    else match st with
      | [] => .ok t r
      | x :: st' =>
        if x = tk "(" then (if t = tk ")" then wk p st' false r else .bad unbal r)
        else if t = tk ":" then wk p st' true r else .bad (errMsg t) r
theorem skipNots_eq : ∀ toks : List Str, toks = nots (skipNots toks).1 ++ (skipNots toks).2
  | [] => rfl
  | t :: r => by
    unfold skipNots
    split
    · next h => rw [h]; show _ = tk "!" :: (nots (skipNots r).1 ++ (skipNots r).2); rw [← skipNots_eq r]
    · rfl
theorem wk_nots (p : Int) (st : List Str) : ∀ (k : Nat) (r : List Str), wk p st true (nots k ++ r) = wk p st true r
  | 0, _ => rfl
  | k + 1, r => by
    show wk p st true (tk "!" :: (nots k ++ r)) = _
    rw [← wk_nots p st k r]
    rw [wk, if_neg (by decide +kernel), if_neg (by decide +kernel), if_pos rfl]
theorem lvo_eq {o : Str} {i : Int} (h : lvl o = some i) : lvo o = i := by simp [lvo, h]
theorem lvo_none {o : Str} (h : lvl o = none) : lvo o = 0 := by simp [lvo, h]
theorem lv_pos {o : Str} {i : Int} (h : lvl o = some i) : 1 ≤ i ∧ i ≤ 6 := lvl_range h
theorem lv_nonneg (e : Tr) : 0 ≤ e.lv := by
  cases e with
  | nm | par => simp [Tr.lv]
  | bin o l r =>
    simp only [Tr.lv, lvo]
    cases h : lvl o with
    | none => simp
    | some i => have := lvl_range h; simp; omega
  | cond => simp [Tr.lv]
/-- when the walk at (p, st) allows what a reading at q takes -/
noncomputable def Cmpt (p : Int) (st : List Str) (q : Int) : Prop := st ≠ [] ∨ p ≤ q ∨ p ≤ 0
theorem wk_op {p : Int} {st : List Str} {q i : Int} {t : Str} {r : List Str} (hc : Cmpt p st q) (h : lvl t = some i) (hi : q ≤ i) : wk p st false (t :: r) = wk p st true r := by
  have := lvl_range h
  rw [wk.eq_def]; dsimp only; rw [if_pos]
  rw [lvo_eq h]
  refine ⟨by omega, ?_⟩
  rcases hc with h1 | h1 | h1
  · exact .inl h1
  · exact .inr (by omega)
  · exact .inr (by omega)
theorem lvl_q : lvl (tk "?") = none := by decide +kernel
theorem lvl_c : lvl (tk ")") = none := by decide +kernel
theorem lvl_d : lvl (tk ":") = none := by decide +kernel
theorem wk_q {p : Int} {st : List Str} {q : Int} {r : List Str} (hc : Cmpt p st q) (hi : q ≤ 0) : wk p st false (tk "?" :: r) = wk p (tk "?" :: st) true r := by
  have h2 : st ≠ [] ∨ p ≤ 0 := by
    rcases hc with h1 | h1 | h1
    · exact .inl h1
    · exact .inr (by omega)
    · exact .inr (by omega)
  rw [wk.eq_def]; dsimp only; rw [if_neg (by rw [lvo_none lvl_q]; simp), if_pos ⟨rfl, h2⟩]
theorem wk_end {p : Int} {x : Str} {st : List Str} {t : Str} {r : List Str} {q : Int} (he : Ends q t) (hq : q ≤ 0) : wk p (x :: st) false (t :: r) = if x = tk "(" then (if t = tk ")" then wk p st false r else .bad unbal r) else if t = tk ":" then wk p st true r else .bad (errMsg t) r := by
  have h0 : lvl t = none := by
    cases h : lvl t with
    | none => rfl
    | some i => have := he.1 i h; have := lvl_range h; omega
  rw [wk, if_neg (by rw [lvo_none h0]; simp), if_neg (fun h => by have := he.2 h.1; omega)]
theorem wk_stop {t : Str} {r : List Str} {q : Int} (he : Ends q t) : wk q [] false (t :: r) = .ok t r := by
  rw [wk, if_neg, if_neg]
  · intro h; have := he.2 h.1; rcases h.2 with h | h
    · exact h rfl
    · omega
  · intro h
    cases h1 : lvl t with
    | none => rw [lvo_none h1] at h; omega
    | some i => have := he.1 i h1; rw [lvo_eq h1] at h; rcases h.2 with h | h
                · exact h rfl
                · omega
noncomputable def Agree (q : Int) (hd : List Str) (due : Bool) (toks : List Str) : PRes → Prop
  | .ok text nx rest => (∃ e : Tr, e.WF ∧ q ≤ e.lv ∧ hd ++ toks = e.flat ++ nx :: rest ∧ text = e.txt q ∧ Ends q nx) ∧ rest.length < toks.length ∧ (∀ t ∈ rest, t ∈ toks) ∧ ∀ p st, Cmpt p st q → wk p st due toks = wk p st false (nx :: rest)
  | .bad m rest => ∀ p st, Cmpt p st q → wk p st due toks = .bad m rest
  | .out => ∀ p st, Cmpt p st q → wk p st due toks = .out
theorem run_wk : ∀ (f : Nat) (m : Mode) (toks : List Str), (∀ t ∈ toks, Tok t) →
  match m with
  | .start q => q ≤ 100 → 2 * toks.length < f → Agree q [] true toks (run f m toks)
  | .loop q res j nx => 2 * toks.length + 2 < f → ∀ e : Tr, e.WF → q ≤ e.lv → 1 ≤ e.lv → res = e.tx → j = e.lv → (∀ i, lvl nx = some i → i ≤ j) → Agree q e.flat false (nx :: toks) (run f m toks)
  | .tail q res nx => 2 * toks.length + 1 < f → ∀ e : Tr, e.WF → q ≤ e.lv → 1 ≤ e.lv → res = e.txt q → (∀ i, lvl nx = some i → i < q) → Agree q e.flat false (nx :: toks) (run f m toks) := by
  intro f
  induction f with
  | zero => intro m toks _; cases m <;> intros <;> omega
  | succ f ih =>
    intro m toks hT
    cases m with
    | start q =>
      intro hq100 hf
      unfold run
      have hsk := skipNots_eq toks
      have hnb : ∀ t r, (skipNots toks).2 = t :: r → t ≠ tk "!" := by
        clear hf hsk hT
        induction toks with
        | nil => intro t r h; simp [skipNots] at h
        | cons a b ih2 =>
          intro t r h
          unfold skipNots at h
          split at h
          · exact ih2 t r h
          · next h1 => injection h with h2 _; rw [← h2]; exact h1
      rcases hk : skipNots toks with ⟨k, r₀⟩
      rw [hk] at hsk hnb
      dsimp only at hsk hnb ⊢
      have hlen : toks.length = k + r₀.length := by rw [hsk]; simp [nots]
      have hwk : ∀ p st, wk p st true toks = wk p st true r₀ := fun p st => by rw [hsk]; exact wk_nots p st k r₀
      cases r₀ with
      | nil => exact fun p st _ => by rw [hwk]; rfl
      | cons t r =>
        have hnb := hnb t r rfl
        have hTt : Tok t := hT t (by rw [hsk]; simp)
        have hTr : ∀ x ∈ r, Tok x := fun x hx => hT x (by rw [hsk]; simp [hx])
        simp only [List.length_cons] at hlen
        -- the way on behind an operand
        have after : ∀ (e : Tr) (nx' : Str) (r'' : List Str), e.WF → e.lv = 100 → (∀ x ∈ nx' :: r'', x ∈ toks) → toks = e.flat ++ nx' :: r'' → r''.length + 2 ≤ toks.length → (∀ p st, wk p st true toks = wk p st false (nx' :: r'')) → (q ≤ 100) →
            Agree q [] true toks (run f (.loop q e.tx 100 nx') r'') := by
          intro e nx' r'' he hl hm heq hlt hw hq
          have := ih (.loop q e.tx 100 nx') r'' (fun x hx => hT x (hm x (.tail _ hx))) (by omega) e he (by omega) (by omega) rfl hl.symm (fun i hi => by have := lvl_range hi; omega)
          cases hrun : run f (.loop q e.tx 100 nx') r'' with
          | ok text nx rest =>
            rw [hrun] at this
            obtain ⟨⟨e', h1, h2, h3, h4, h5⟩, h6, h7, h8⟩ := this
            refine ⟨⟨e', h1, h2, by rw [← h3]; exact heq, h4, h5⟩, ?_, fun x hx => hm x (h7 x hx), fun p st hc => by rw [hw]; exact h8 p st hc⟩
            simp only [List.length_cons] at h6; omega
          | bad m rest => rw [hrun] at this; exact fun p st hc => by rw [hw]; exact this p st hc
          | out => rw [hrun] at this; exact fun p st hc => by rw [hw]; exact this p st hc
        have go : ∀ (e : Tr) (r' : List Str), e.WF → e.lv = 100 → (∀ x ∈ r', x ∈ toks) → toks = e.flat ++ r' → r'.length < toks.length → (∀ p st, wk p st true toks = wk p st false r') →
            Agree q [] true toks (match r' with | [] => PRes.out | nx' :: r'' => run f (.loop q e.tx 100 nx') r'') := by
          intro e r' h1 h2 h3 h4 h5 h6
          cases r' with
          | nil => exact fun p st _ => by rw [h6]; rfl
          | cons nx' r'' => exact after e nx' r'' h1 h2 h3 h4 (by simp only [List.length_cons] at h5; omega) h6 hq100
        dsimp only
        by_cases h1 : t = tk "("
        · rw [if_pos h1]
          subst h1
          have sub := ih (.start (-1)) r hTr (by omega) (by omega)
          have hpar : ∀ p st, wk p st true toks = wk p (tk "(" :: st) true r := fun p st => by rw [hwk, wk, if_pos rfl]
          cases hrun : run f (.start (-1)) r with
          | ok text nx rest =>
            rw [hrun] at sub
            obtain ⟨⟨e, a1, a2, a3, a4, a5⟩, a6, a7, a8⟩ := sub
            have hw2 : ∀ p st, wk p st true toks = _ := fun p st => by rw [hpar, a8 p _ (.inl (by simp)), wk_end a5 (by omega), if_pos rfl]
            dsimp only
            by_cases h2 : nx = tk ")"
            · rw [if_pos h2]
              have hx : text = e.tx := by rw [a4]; exact if_neg (by omega)
              have := go (.par k e) rest a1 rfl (fun x hx => by rw [hsk]; simp [a7 x hx]) (by rw [hsk]; simp only [Tr.flat]; rw [List.nil_append] at a3; rw [a3, h2]; simp) (by omega) (fun p st => by rw [hw2, if_pos h2])
              rw [show (notTxt k ++ tk "(" ++ text ++ tk ")") = (Tr.par k e).tx by rw [hx]; rfl]
              exact this
            · rw [if_neg h2]
              exact fun p st _ => by rw [hw2, if_neg h2]
          | bad m rest => rw [hrun] at sub; exact fun p st _ => by rw [hpar]; exact sub p _ (.inl (by simp))
          | out => rw [hrun] at sub; exact fun p st _ => by rw [hpar]; exact sub p _ (.inl (by simp))
        · rw [if_neg h1]
          by_cases h2 : t = tk "n"
          · rw [if_pos h2]
            subst h2
            have := go (.nm k (tk "n")) r (.inl rfl) rfl (fun x hx => by rw [hsk]; simp [hx]) (by rw [hsk]; simp [Tr.flat]) (by omega) (fun p st => by rw [hwk, wk, if_neg h1, if_pos (.inl rfl)])
            rw [show notTxt k ++ tk "n" = (Tr.nm k (tk "n")).tx by show _ = notTxt k ++ num (tk "n"); rw [show num (tk "n") = tk "n" by decide +kernel]]
            exact this
          · rw [if_neg h2]
            cases hi : PySem.intText? t with
            | some n =>
              have hd : Txt.isdigit t = true := by rw [hTt.dig, hi]; rfl
              have := go (.nm k t) r (.inr hd) rfl (fun x hx => by rw [hsk]; simp [hx]) (by rw [hsk]; simp [Tr.flat]) (by omega) (fun p st => by rw [hwk, wk, if_neg h1, if_pos (.inr hd)])
              dsimp only
              rw [show notTxt k ++ dec n = (Tr.nm k t).tx by show _ = notTxt k ++ num t; rw [hTt.num n hi]]
              exact this
            | none =>
              refine fun p st _ => ?_
              rw [hwk, wk, if_neg h1, if_neg, if_neg hnb]
              rintro (h | h)
              · exact h2 h
              · rw [hTt.dig, hi] at h; simp at h
    | loop q res j nx =>
      intro hf e hw hq h1 hres hj hlast
      unfold run
      have tl : (∀ i, lvl nx = some i → i < q) → Agree q e.flat false (nx :: toks) (run f (.tail q (if j = q ∧ q = 4 then paren res else res) nx) toks) := by
        intro hlt
        refine ih (.tail q _ nx) toks hT (by omega) e hw hq h1 ?_ hlt
        rw [hres, hj]
        unfold Tr.txt wrap
        by_cases h : e.lv = q ∧ q = 4
        · rw [if_pos h, if_pos ⟨h.1.symm, .inl h.2⟩]
        · rw [if_neg h, if_neg]
          rintro ⟨a, b | b⟩
          · exact h ⟨a.symm, b⟩
          · omega
      cases hl : lvl nx with
      | none => exact tl (fun i hi => by rw [hl] at hi; cases hi)
      | some i =>
        dsimp only
        have hr := lvl_range hl
        by_cases hiq : i < q
        · rw [if_pos hiq]; exact tl (fun i' hi' => by rw [hl] at hi'; cases hi'; exact hiq)
        · rw [if_neg hiq]
          have hiq : q ≤ i := by omega
          have sub := ih (.start (i + 1)) toks hT (by omega) (by omega)
          have cm : ∀ p st, Cmpt p st q → Cmpt p st (i + 1) := fun p st h => by
            rcases h with h | h | h
            · exact .inl h
            · exact .inr (.inl (by omega))
            · exact .inr (.inr h)
          cases hrun : run f (.start (i + 1)) toks with
          | ok right nx' rest =>
            rw [hrun] at sub
            obtain ⟨⟨e', a1, a2, a3, a4, a5⟩, a6, a7, a8⟩ := sub
            rw [List.nil_append] at a3
            dsimp only
            have := ih (.loop q ((if isCmp i && isCmp j then paren res else res) ++ tk " " ++ pyOp nx ++ tk " " ++ right) i nx') rest (fun x hx => hT x (a7 x hx)) (by omega) (.bin nx e e') ⟨by rw [hl]; rfl, hw, a1, by rw [lvo_eq hl, ← hj]; exact hlast i hl, by rw [lvo_eq hl]; omega⟩
              (by show q ≤ lvo nx; rw [lvo_eq hl]; exact hiq) (by show 1 ≤ lvo nx; rw [lvo_eq hl]; omega) (by rw [Tr.tx, lvo_eq hl, hres, hj, a4]; rfl) (by show i = lvo nx; rw [lvo_eq hl]) (fun i' hi' => by have := a5.1 i' hi'; omega)
            have hfl : (Tr.bin nx e e').flat ++ nx' :: rest = e.flat ++ nx :: toks := by rw [a3]; simp [Tr.flat]
            cases hrun2 : run f (.loop q ((if isCmp i && isCmp j then paren res else res) ++ tk " " ++ pyOp nx ++ tk " " ++ right) i nx') rest with
            | ok text nx₂ rest₂ =>
              rw [hrun2] at this
              obtain ⟨⟨e₂, b1, b2, b3, b4, b5⟩, b6, b7, b8⟩ := this
              refine ⟨⟨e₂, b1, b2, by rw [← hfl]; exact b3, b4, b5⟩, ?_, fun x hx => ?_, fun p st hc => ?_⟩
              · simp only [List.length_cons] at b6 ⊢; omega
              · rcases List.mem_cons.mp (b7 x hx) with h | h
                · rw [a3, h]; simp
                · exact .tail _ (a7 x h)
              · rw [wk_op hc hl hiq, a8 p st (cm p st hc), b8 p st hc]
            | bad m rest₂ => rw [hrun2] at this; exact fun p st hc => by rw [wk_op hc hl hiq, a8 p st (cm p st hc)]; exact this p st hc
            | out => rw [hrun2] at this; exact fun p st hc => by rw [wk_op hc hl hiq, a8 p st (cm p st hc)]; exact this p st hc
          | bad m rest => rw [hrun] at sub; exact fun p st hc => by rw [wk_op hc hl hiq]; exact sub p st (cm p st hc)
          | out => rw [hrun] at sub; exact fun p st hc => by rw [wk_op hc hl hiq]; exact sub p st (cm p st hc)
    | tail q res nx =>
      intro hf e hw hq h1 hres hlt
      unfold run
      by_cases hc : nx = tk "?" ∧ q ≤ 0
      · rw [if_pos hc]
        obtain ⟨hnx, hq0⟩ := hc
        subst hnx
        have hres' : res = e.tx := by rw [hres]; exact if_neg (by omega)
        have sub := ih (.start 0) toks hT (by omega) (by omega)
        cases hrun : run f (.start 0) toks with
        | ok yes nx1 r1 =>
          rw [hrun] at sub
          obtain ⟨⟨e1, a1, a2, a3, a4, a5⟩, a6, a7, a8⟩ := sub
          rw [List.nil_append] at a3
          have hw1 : ∀ p st, Cmpt p st q → wk p st false (tk "?" :: toks) = if nx1 = tk ":" then wk p st true r1 else .bad (errMsg nx1) r1 := fun p st hc => by
            rw [wk_q hc hq0, a8 p _ (.inl (by simp)), wk_end a5 (by omega), if_neg (by decide +kernel)]
          dsimp only
          by_cases h2 : nx1 = tk ":"
          · rw [if_pos h2]
            have sub2 := ih (.start (-1)) r1 (fun x hx => hT x (a7 x hx)) (by omega) (by omega)
            have cm : ∀ p st, Cmpt p st q → Cmpt p st (-1) := fun p st h => by
              rcases h with h | h | h
              · exact .inl h
              · exact .inr (.inr (by omega))
              · exact .inr (.inr h)
            cases hrun2 : run f (.start (-1)) r1 with
            | ok no nx2 r2 =>
              rw [hrun2] at sub2
              obtain ⟨⟨e2, b1, b2, b3, b4, b5⟩, b6, b7, b8⟩ := sub2
              rw [List.nil_append] at b3
              dsimp only
              refine ⟨⟨.cond e e1 e2, ⟨hw, a1, b1, h1⟩, hq0, ?_, ?_, ?_⟩, ?_, fun x hx => .tail _ (a7 x (b7 x hx)), fun p st hc => ?_⟩
              · rw [a3, h2, b3]; simp [Tr.flat]
              · have hno : no = e2.tx := by rw [b4]; exact if_neg (by omega)
                unfold Tr.txt
                unfold wrap
                rw [show (Tr.cond e e1 e2).lv = 0 from rfl]
                have htx : (Tr.cond e e1 e2).tx = yes ++ tk " if " ++ res ++ tk " else " ++ no := by rw [Tr.tx, a4, hres', hno]; rfl
                rw [htx]
                by_cases h0 : q = 0
                · rw [if_pos h0, if_pos ⟨h0, .inr h0⟩]
                · rw [if_neg h0, if_neg (fun h => h0 h.1)]
              · refine ⟨fun i hi => ?_, fun h => ?_⟩
                · have := b5.1 i hi; have := lvl_range hi; omega
                · have := b5.2 h; omega
              · simp only [List.length_cons]; omega
              · rw [hw1 p st hc, if_pos h2, b8 p st (cm p st hc)]
            | bad m rest => rw [hrun2] at sub2; exact fun p st hc => by rw [hw1 p st hc, if_pos h2]; exact sub2 p st (cm p st hc)
            | out => rw [hrun2] at sub2; exact fun p st hc => by rw [hw1 p st hc, if_pos h2]; exact sub2 p st (cm p st hc)
          · rw [if_neg h2]
            exact fun p st hc => by rw [hw1 p st hc, if_neg h2]
        | bad m rest => rw [hrun] at sub; exact fun p st hc => by rw [wk_q hc hq0]; exact sub p _ (.inl (by simp))
        | out => rw [hrun] at sub; exact fun p st hc => by rw [wk_q hc hq0]; exact sub p _ (.inl (by simp))
      · rw [if_neg hc]
        refine ⟨⟨e, hw, hq, rfl, hres, hlt, fun h => ?_⟩, by simp, fun x hx => .tail _ hx, fun p st _ => rfl⟩
        exact Int.not_le.mp fun h' => hc ⟨h, h'⟩
/-- a whole reading -/
theorem run_top {toks : List Str} (hT : ∀ t ∈ toks, Tok t) {q : Int} (hq : q ≤ 100) {f : Nat} (hf : 2 * toks.length < f) :
    match wk q [] true toks with
    | .ok nx rest => ∃ e : Tr, e.WF ∧ q ≤ e.lv ∧ toks = e.flat ++ nx :: rest ∧ Ends q nx ∧ run f (.start q) toks = .ok (e.txt q) nx rest
    | .bad m rest => run f (.start q) toks = .bad m rest
    | .out => run f (.start q) toks = .out := by
  have := run_wk f (.start q) toks hT hq hf
  cases hrun : run f (.start q) toks with
  | ok text nx rest =>
    rw [hrun] at this
    obtain ⟨⟨e, h1, h2, h3, h4, h5⟩, _, _, h6⟩ := this
    rw [h6 q [] (.inr (.inl (Int.le_refl _))), wk_stop h5]
    exact ⟨e, h1, h2, by simpa using h3, h5, by rw [h4]⟩
  | bad m rest => rw [hrun] at this; rw [this q [] (.inr (.inl (Int.le_refl _)))]
  | out => rw [hrun] at this; rw [this q [] (.inr (.inl (Int.le_refl _)))]
end Mine
namespace Mine
noncomputable def dIn (d : Int) (t : Str) : Int := if t = tk "(" then d + 1 else d
noncomputable def dOut (d : Int) (t : Str) : Int := if t = tk ")" then dIn d t - 1 else dIn d t
noncomputable def depGo : Int → List Str → Int
  | d, [] => d
  | d, t :: r => depGo (dOut d t) r
/-- the tokens outside of brackets, with their places -/
noncomputable def op : Int → Nat → List Str → List (Nat × Str)
  | _, _, [] => []
  | d, i, t :: r => (if dIn d t = 0 then [(i, t)] else []) ++ op (dOut d t) (i + 1) r
theorem outGo_op : ∀ (ts : List Str) (d : Int) (i : Nat), outGo d i ts = (op d i ts).map (·.1)
  | [], _, _ => rfl
  | t :: r, d, i => by
    show (if dIn d t = 0 then [i] else []) ++ outGo (dOut d t) (i + 1) r = _
    rw [outGo_op r, op, List.map_append]
    split <;> rfl
theorem op_append : ∀ (a b : List Str) (d : Int) (i : Nat), op d i (a ++ b) = op d i a ++ op (depGo d a) (i + a.length) b
  | [], _, _, _ => rfl
  | t :: r, b, d, i => by
    show (if dIn d t = 0 then [(i, t)] else []) ++ op (dOut d t) (i + 1) (r ++ b) = ((if dIn d t = 0 then [(i, t)] else []) ++ op (dOut d t) (i + 1) r) ++ op (depGo (dOut d t) r) _ b
    rw [op_append r b, List.append_assoc, List.length_cons, show i + 1 + r.length = i + (r.length + 1) by omega]
theorem depGo_append : ∀ (a b : List Str) (d : Int), depGo d (a ++ b) = depGo (depGo d a) b
  | [], _, _ => rfl
  | t :: r, b, d => depGo_append r b _
theorem op_mem : ∀ (ts : List Str) (d : Int) (i : Nat) (j : Nat) (t : Str), (j, t) ∈ op d i ts → i ≤ j ∧ ts[j - i]? = some t
  | [], _, _, _, _, h => by simp [op] at h
  | t :: r, d, i, j, u, h => by
    rw [op] at h
    rcases List.mem_append.mp h with h | h
    · split at h
      · have := List.mem_singleton.mp h; cases this; simp
      · cases h
    · obtain ⟨h1, h2⟩ := op_mem r _ _ _ _ h
      refine ⟨by omega, ?_⟩
      rw [show j - i = (j - (i + 1)) + 1 by omega]; simpa using h2
/-- balanced brackets -/
noncomputable def Bal (a : List Str) : Prop := ∀ d, 0 ≤ d → depGo d a = d ∧ (1 ≤ d → ∀ i, op d i a = [])
noncomputable def Plain (t : Str) : Prop := t ≠ tk "(" ∧ t ≠ tk ")"
theorem Bal.nil : Bal [] := fun _ _ => ⟨rfl, fun _ _ => rfl⟩
theorem Bal.append {a b : List Str} (ha : Bal a) (hb : Bal b) : Bal (a ++ b) := fun d hd => by
  refine ⟨by rw [depGo_append, (ha d hd).1, (hb d hd).1], fun h1 i => ?_⟩
  rw [op_append, (ha d hd).1, (ha d hd).2 h1, (hb d hd).2 h1]; rfl
theorem dIn_plain {t : Str} (h : Plain t) (d : Int) : dIn d t = d := if_neg h.1
theorem dOut_plain {t : Str} (h : Plain t) (d : Int) : dOut d t = d := by rw [dOut, if_neg h.2, dIn_plain h]
theorem Bal.cons {t : Str} (ht : Plain t) {a : List Str} (ha : Bal a) : Bal (t :: a) := fun d hd => by
  refine ⟨by rw [depGo, dOut_plain ht]; exact (ha d hd).1, fun h1 i => ?_⟩
  rw [op, dIn_plain ht, if_neg (by omega), dOut_plain ht]; exact (ha d hd).2 h1 _
theorem Bal.wrap {a : List Str} (ha : Bal a) : Bal (tk "(" :: (a ++ [tk ")"])) := fun d hd => by
  have h1 : dOut d (tk "(") = d + 1 := by rw [dOut, if_neg (by decide +kernel), dIn, if_pos rfl]
  have h2 : dIn d (tk "(") = d + 1 := by rw [dIn, if_pos rfl]
  have h3 : dOut (d + 1) (tk ")") = d := by rw [dOut, if_pos rfl, dIn, if_neg (by decide +kernel)]; omega
  have h4 : dIn (d + 1) (tk ")") = d + 1 := by rw [dIn, if_neg (by decide +kernel)]
  refine ⟨by rw [depGo, h1, depGo_append, (ha (d + 1) (by omega)).1]; exact h3, fun _ i => ?_⟩
  rw [op, h2, if_neg (by omega), h1, op_append, (ha (d + 1) (by omega)).1, (ha (d + 1) (by omega)).2 (by omega)]
  show [] ++ ([] ++ ((if dIn (d + 1) (tk ")") = 0 then _ else []) ++ [])) = _
  rw [h4, if_neg (by omega)]; rfl
noncomputable abbrev O (i : Nat) (a : List Str) : List (Nat × Str) := op 0 i a
theorem O.append {a : List Str} (ha : Bal a) (i : Nat) (b : List Str) : O i (a ++ b) = O i a ++ O (i + a.length) b := by
  show op 0 i (a ++ b) = _; rw [op_append, (ha 0 (by omega)).1]
theorem O.cons {t : Str} (ht : Plain t) (i : Nat) (b : List Str) : O i (t :: b) = (i, t) :: O (i + 1) b := by
  show op 0 i (t :: b) = _; rw [op, dIn_plain ht, if_pos rfl, dOut_plain ht]; rfl
theorem O.wrap {a : List Str} (ha : Bal a) (i : Nat) : O i (tk "(" :: (a ++ [tk ")"])) = [] := by
  have h1 : dOut 0 (tk "(") = 1 := by decide +kernel
  show op 0 i _ = _
  rw [op, h1, op_append, (ha 1 (by omega)).1, (ha 1 (by omega)).2 (by omega)]
  rw [show dIn 0 (tk "(") = 1 by decide +kernel, if_neg (by omega)]
  show [] ++ ([] ++ ((if dIn 1 (tk ")") = 0 then _ else []) ++ [])) = _
  rw [show dIn 1 (tk ")") = 1 by decide +kernel, if_neg (by omega)]; rfl
/-- the tokens alone -/
noncomputable def oT (a : List Str) : List Str := (O 0 a).map (·.2)
theorem oT_shift (a : List Str) : ∀ (d : Int) (i j : Nat), (op d i a).map (·.2) = (op d j a).map (·.2) := by
  induction a with
  | nil => intro d i j; rfl
  | cons t r ih =>
    intro d i j
    rw [op, op, List.map_append, List.map_append, ih _ (i + 1) (j + 1)]
    congr 1
    split <;> rfl
theorem oT_at (a : List Str) (i : Nat) : (O i a).map (·.2) = oT a := oT_shift a 0 i 0
theorem oT_append {a : List Str} (ha : Bal a) (b : List Str) : oT (a ++ b) = oT a ++ oT b := by
  unfold oT; rw [O.append ha, List.map_append, oT_at b]; rfl
theorem oT_cons {t : Str} (ht : Plain t) (b : List Str) : oT (t :: b) = t :: oT b := by
  unfold oT; rw [O.cons ht, List.map_cons, oT_at b]; rfl
theorem oT_wrap {a : List Str} (ha : Bal a) : oT (tk "(" :: (a ++ [tk ")"])) = [] := by unfold oT; rw [O.wrap ha]; rfl
/-- the places where P holds -/
noncomputable def pl (P : Str → Bool) (a : List Str) : List Nat := ((O 0 a).filter (fun x => P x.2)).map (·.1)
theorem pl_nil {P : Str → Bool} {a : List Str} (h : ∀ t ∈ oT a, P t = false) : pl P a = [] := by
  unfold pl
  rw [List.map_eq_nil_iff, List.filter_eq_nil_iff]
  intro x hx
  rw [h x.2 (List.mem_map_of_mem (f := (·.2)) hx)]; exact Bool.false_ne_true
theorem filter_none {P : Str → Bool} {a : List Str} (h : ∀ t ∈ oT a, P t = false) (i : Nat) : (O i a).filter (fun x => P x.2) = [] := by
  rw [List.filter_eq_nil_iff]
  intro x hx
  rw [h x.2 (by rw [← oT_at a i]; exact List.mem_map_of_mem (f := (·.2)) hx)]; exact Bool.false_ne_true
theorem pl_first {P : Str → Bool} {a b : List Str} {t : Str} (ha : Bal a) (ht : Plain t) (hp : P t = true) (h : ∀ t ∈ oT a, P t = false) : ∃ r, pl P (a ++ t :: b) = a.length :: r := by
  unfold pl
  rw [O.append ha, O.cons ht, List.filter_append, filter_none h, List.filter_cons, if_pos (by exact hp)]
  exact ⟨((O (0 + a.length + 1) b).filter (fun x => P x.2)).map (·.1), by simp⟩
theorem pl_last {P : Str → Bool} {a b : List Str} {t : Str} (ha : Bal a) (ht : Plain t) (hp : P t = true) (h : ∀ t ∈ oT b, P t = false) : (pl P (a ++ t :: b)).getLast? = some a.length := by
  unfold pl
  rw [O.append ha, O.cons ht, List.filter_append, List.filter_cons, if_pos (by exact hp), filter_none h]
  simp
theorem pl_one {P : Str → Bool} {a b : List Str} {t : Str} (ha : Bal a) (ht : Plain t) (hp : P t = true) (h : ∀ t ∈ oT a, P t = false) (h' : ∀ t ∈ oT b, P t = false) : pl P (a ++ t :: b) = [a.length] := by
  unfold pl
  rw [O.append ha, O.cons ht, List.filter_append, List.filter_cons, if_pos (by exact hp), filter_none h, filter_none h']
  simp
theorem outside_pl (P : Str → Bool) (a : List Str) : (outside a).filter (fun i => (a[i]?).elim false P) = pl P a := by
  unfold outside pl
  rw [outGo_op, List.filter_map]
  congr 1
  apply List.filter_congr
  intro x hx
  obtain ⟨h1, h2⟩ := op_mem a 0 0 x.1 x.2 hx
  rw [Nat.sub_zero] at h2
  simp [h2]
/-- the colon that answers -/
noncomputable def cw : Int → List (Nat × Str) → Int
  | _, [] => -1
  | w, (i, t) :: r =>
    if t = tk "?" then cw (w + 1) r
    else if t = tk ":" then (if w - 1 = 0 then (i : Int) else cw (w - 1) r)
    else cw w r
theorem colonGo_cw (part : List Str) : ∀ (ps : List (Nat × Str)) (w : Int), (∀ x ∈ ps, part[x.1]? = some x.2) → colonGo part w (ps.map (·.1)) = cw w ps
  | [], _, _ => rfl
  | (i, t) :: r, w, h => by
    have h0 : part[i]? = some t := h (i, t) (.head _)
    have ih := fun w => colonGo_cw part r w fun x hx => h x (.tail _ hx)
    show (if part[i]? = some (tk "?") then _ else _) = _
    rw [h0, cw]
    simp only [Option.some.injEq, ih]
theorem colonOf_cw (part : List Str) : colonOf part (outside part) = cw 0 (O 0 part) := by
  unfold colonOf outside
  rw [outGo_op]
  refine colonGo_cw part _ 0 fun x hx => ?_
  have := (op_mem part 0 0 x.1 x.2 hx).2
  simpa using this
/-- no ? and no : outside -/
noncomputable def NQ (a : List Str) : Prop := ∀ t ∈ oT a, t ≠ tk "?" ∧ t ≠ tk ":"
/-- ? and : answer each other -/
noncomputable def QB (a : List Str) : Prop := ∀ (w : Int) (i : Nat) (r : List (Nat × Str)), 1 ≤ w → cw w (O i a ++ r) = cw w r
theorem cw_none : ∀ (ps : List (Nat × Str)) (w : Int) (r : List (Nat × Str)), (∀ x ∈ ps, x.2 ≠ tk "?" ∧ x.2 ≠ tk ":") → cw w (ps ++ r) = cw w r
  | [], _, _, _ => rfl
  | (i, t) :: q, w, r, h => by
    have h0 := h (i, t) (.head _)
    rw [List.cons_append, cw, if_neg h0.1, if_neg h0.2]
    exact cw_none q w r fun x hx => h x (.tail _ hx)
theorem NQ.cw {a : List Str} (h : NQ a) (w : Int) (i : Nat) (r : List (Nat × Str)) : cw w (O i a ++ r) = cw w r :=
  cw_none _ w r fun x hx => h x.2 (by rw [← oT_at a i]; exact List.mem_map_of_mem (f := (·.2)) hx)
theorem NQ.qb {a : List Str} (h : NQ a) : QB a := fun w i r _ => h.cw w i r
theorem plain_q : Plain (tk "?") := ⟨by decide +kernel, by decide +kernel⟩
theorem plain_d : Plain (tk ":") := ⟨by decide +kernel, by decide +kernel⟩
theorem QB.cond {a b c : List Str} (ha : NQ a) (hba : Bal a) (hb : QB b) (hbb : Bal b) (hc : QB c) : QB (a ++ tk "?" :: (b ++ tk ":" :: c)) := by
  intro w i r hw
  rw [O.append hba, O.cons plain_q, O.append hbb, O.cons plain_d]
  simp only [List.append_assoc, List.cons_append]
  rw [ha.cw, cw, if_pos rfl, hb _ _ _ (by omega), cw, if_neg (by decide +kernel), if_pos rfl, if_neg (by omega), show w + 1 - 1 = w by omega]
  exact hc w _ r hw
theorem colon_cond {a b c : List Str} (ha : NQ a) (hba : Bal a) (hb : QB b) (hbb : Bal b) : colonOf (a ++ tk "?" :: (b ++ tk ":" :: c)) (outside (a ++ tk "?" :: (b ++ tk ":" :: c))) = ((a.length + 1 + b.length : Nat) : Int) := by
  rw [colonOf_cw, O.append hba, O.cons plain_q, O.append hbb, O.cons plain_d]
  rw [ha.cw, cw, if_pos rfl, hb _ _ _ (by omega), cw, if_neg (by decide +kernel), if_pos rfl, if_pos (by omega)]
  simp
end Mine
namespace Mine
section
variable {c : Cfg} {σ σ' σ₁ σ₂ : Sig} {E : Value → Shared → Prop} {Φ : AFlow → Sig → Prop} {rest : List Stmt}
noncomputable def pTest (part : List Str) (P : Str → Bool) : D → Bool
  | .int i => (part[i.toNat]?).elim false P
  | _ => false
theorem filter_places (part : List Str) (P : Str → Bool) : ((nats (outside part)).filter (pTest part P)).map id = nats (pl P part) := by
  rw [List.map_id, ← outside_pl P part]
  unfold nats
  rw [List.filter_map]
  congr 1
theorem places_scalar {part : List Str} {d : D} (h : d ∈ nats (outside part)) : ∃ i : Nat, d = .int (i : Int) ∧ ∃ t, part[i]? = some t := by
  unfold nats at h
  obtain ⟨i, hi, rfl⟩ := List.mem_map.mp h
  have := outside_lt hi
  exact ⟨i, rfl, part[i], by simp [this]⟩
/-- [at for at in places if ..] -/
theorem EV.places (ok : c.Ev) {iter t : Expr} {px p1 pos : Pos} {scope : Scope} (part : List Str) (P : Str → Bool) (cap : Sig) (hlen : part.length ≤ 1000)
    (hi : IT c σ iter (nats (outside part)))
    (hcell : ∀ y ∈ scope.names, y.2 ≠ .cell) (hkind : scope.kind = .function) (hnames : ∀ y ∈ scope.names, y.2 = .local → scope.names.lookup y.1 = some .local) (hx : scope.names.lookup (tk "at") = some .local)
    (hfree : ∀ n ∈ freesOf scope.names, c.env.kindOf n = some .cell ∧ n ∈ σ.map (·.1))
    (hcap : ∀ q ∈ cap, q ∈ σ ∧ q.2.free = false ∧ scope.names.lookup q.1 = some .free ∧ q.1 ∈ freesOf scope.names) (hnod : (tk "at" :: cap.map (·.1)).Nodup)
    (ht : ∀ c' (i : Nat) x, CompOf c c' scope → part[i]? = some x → EVB c' ((tk "at", .val (.int (i : Int))) :: cap) t (P x))
    (hs : ∀ v, foldedSetIterable iter c.env v = pure v) : EV c σ (.ListComp (.Name (tk "at") p1) [⟨.Name (tk "at") px, iter, [t], 0⟩] scope pos) (.list (nats (pl P part))) := by
  have hol := outside_length part
  have := EV.comp (p := pTest part P) (f := id) ok (elt := .Name (tk "at") p1) (pos := pos) (px := px) (ifs := [t]) cap hi (by simp [nats]; omega) (fun d hd => by obtain ⟨i, rfl, _⟩ := places_scalar hd; exact .int _) (fun d hd => by obtain ⟨i, rfl, _⟩ := places_scalar hd; exact .int _) hcell hkind hnames hx (by decide) hfree hcap hnod
    (.inr ⟨t, rfl, fun c' d co hd => by
      obtain ⟨i, rfl, x, hx'⟩ := places_scalar hd
      have := ht c' i x co hx'
      show EVB c' _ t ((part[((i : Int)).toNat]?).elim false P)
      rw [Int.toNat_natCast, hx']; exact this⟩)
    (fun c' d co hd _ => EV.name co.ev .head) hs
  rw [filter_places] at this
  exact this
theorem swaps_comp (ok : c.Ev) {elt : Expr} {gens : List Comprehension} {scope : Scope} {pos py : Pos} {y : Str} {n : Nat} (hyk : c.env.kindOf y = some .local) (hl : (py.line == pos.line) = true) (hno : (!(scope.names.any fun (n, k) => n == y && (k == .local || k == .cell))) = true) :
    swapsWith (.ListComp elt gens scope pos) (some (.Name y py)) n c.env = pure true := by
  have hb : c.env.blockKind = .function := by unfold Env.blockKind; rw [ok.hk]; rfl
  show (pure (c.env.blockKind == .function && c.env.kindOf y == some .local && py.line == pos.line && !(scope.names.any fun (n, k) => n == y && (k == .local || k == .cell))) : Sem Bool) = pure true
  rw [hb, hyk, hl, hno]; rfl
theorem SX.places (ok : c.Ok) {iter t : Expr} {px p1 py pos spos : Pos} {y : Str} {scope : Scope} (part : List Str) (P : Str → Bool) (cap : Sig) (hlen : part.length ≤ 1000)
    (hi : IT c σ iter (nats (outside part)))
    (hcell : ∀ y ∈ scope.names, y.2 ≠ .cell) (hkind : scope.kind = .function) (hnames : ∀ y ∈ scope.names, y.2 = .local → scope.names.lookup y.1 = some .local) (hx : scope.names.lookup (tk "at") = some .local)
    (hfree : ∀ n ∈ freesOf scope.names, c.env.kindOf n = some .cell ∧ n ∈ σ.map (·.1))
    (hcap : ∀ q ∈ cap, q ∈ σ ∧ q.2.free = false ∧ scope.names.lookup q.1 = some .free ∧ q.1 ∈ freesOf scope.names) (hnod : (tk "at" :: cap.map (·.1)).Nodup)
    (ht : ∀ c' (i : Nat) x, CompOf c c' scope → part[i]? = some x → EVB c' ((tk "at", .val (.int (i : Int))) :: cap) t (P x))
    (hs : ∀ v, foldedSetIterable iter c.env v = pure v)
    (hline : (py.line == pos.line) = true) (hno : (!(scope.names.any fun (n, k) => n == y && (k == .local || k == .cell))) = true) (hyk : c.env.kindOf y = some .local)
    (hu : Upd σ y (.val (.list (nats (pl P part)))) σ') (cont : SX c E σ' rest Φ) : SX c E σ (.Assign [.Name y py] (.ListComp (.Name (tk "at") p1) [⟨.Name (tk "at") px, iter, [t], 0⟩] scope pos) spos :: rest) Φ := by
  have hol := outside_length part
  refine SX.assignComp (p := pTest part P) (f := id) ok cap hi (by simp [nats]; omega) (fun d hd => by obtain ⟨i, rfl, _⟩ := places_scalar hd; exact .int _) (fun d hd => by obtain ⟨i, rfl, _⟩ := places_scalar hd; exact .int _) hcell hkind hnames hx (by decide) hfree hcap hnod
    (.inr ⟨t, rfl, fun c' d co hd => by
      obtain ⟨i, rfl, x, hx'⟩ := places_scalar hd
      have := ht c' i x co hx'
      show EVB c' _ t ((part[((i : Int)).toNat]?).elim false P)
      rw [Int.toNat_natCast, hx']; exact this⟩)
    (fun c' d co hd _ => EV.name co.ev .head) hs (swaps_comp ok.toEv hyk hline hno) hyk (by rw [filter_places]; exact hu) cont
theorem TB.itemT {e v : Expr} {D' : List (PyData × PyData)} {pos : Pos} {y : Str} {dv : PyData} (ht : TB c σ v D') (he : EV c σ e (.str y)) (hl : Spec.lookup (.str y) D' = some dv) (hdv : (∃ i, dv = .int i) ∨ (∃ x, dv = .str x))
    (hs : ∀ o k, subscripted e false o k = operate [o, k] (getItem o k)) : EV c σ (.Subscript v e pos) (D.ofPy dv) := by
  intro k N g m s Q E w h
  refine Subscript_ (ht k N g m s _ E w fun d h₀ t₀ k₀ T => ?_)
  refine he k N g m _ _ E (w.keep k₀) fun v₁ h₁ g₁ t₁ k₁ w₁ l₁ r₁ => ?_
  cases r₁
  obtain ⟨lo, kvs, hd, hf⟩ := T.keep k₁
  obtain ⟨v, hv, hfl⟩ := hf.of_lookup V.same_str hl
  exact subscriptTail_builtinR hd.typeIs slot_dict_getitem.lookup (wpAny_getItem_of (strKind_is _ _ _ _) hd.mapOf hv ⟨rfl, h v h₁ g₁ _ (k₀.trans k₁) w₁ l₁ (rep_flat hfl hdv)⟩) (hs _ _)
/-- equality of deep data -/
theorem OP2.eq_deep {d₁ d₂ : D} (h1 : d₁.pure = true) (h2 : d₂.pure = true) (hd : c.A.units + min d₁.toPy.depth d₂.toPy.depth < cLine) : OP2 c (compareOp .Eq) d₁ d₂ (.bool (PyData.eqv d₁.toPy d₂.toPy)) := .of fun s g v₁ v₂ Q E hg r1 r2 q => by
  obtain ⟨as, ra⟩ := r1.reads hg h1
  obtain ⟨bs, rb⟩ := r2.reads hg h2
  exact SeqAt.compareEq_reads ra rb (d₁.canLay h1) (d₂.canLay h2) hd (q _ s.toks (.bool _))
end
theorem cut_map {α β : Type} (f : α → β) (i j : Option Int) (l : List α) : cut i j (l.map f) = (cut i j l).map f := by
  unfold cut; rw [List.map_take, List.map_drop, List.length_map]
theorem clip_nat {n a : Nat} (h : a ≤ n) : clipAt n (a : Int) = a := by unfold clipAt; rw [if_neg (by omega)]; omega
theorem cut_take {α : Type} {l : List α} {n : Nat} (h : n ≤ l.length) : cut none (some (n : Int)) l = l.take n := by
  unfold cut; simp [clip_nat h]
theorem cut_drop {α : Type} {l : List α} {n : Nat} (h : n ≤ l.length) : cut (some (n : Int)) none l = l.drop n := by
  unfold cut; simp only [Option.elim, clip_nat h]; rw [List.take_of_length_le]; simp
theorem cut_mid {α : Type} {l : List α} {a b : Nat} (ha : a ≤ l.length) (hb : b ≤ l.length) : cut (some (a : Int)) (some (b : Int)) l = (l.drop a).take (b - a) := by
  unfold cut; simp only [Option.elim, clip_nat ha, clip_nat hb]
theorem cut_inner {α : Type} (x y : α) (m : List α) : cut (some 1) (some (-1)) (x :: (m ++ [y])) = m := by
  have h1 : clipAt (x :: (m ++ [y])).length 1 = 1 := clip_nat (n := (x :: (m ++ [y])).length) (a := 1) (by simp)
  have h2 : clipAt (x :: (m ++ [y])).length (-1) = m.length + 1 := by unfold clipAt; rw [if_pos (by decide)]; simp only [List.length_cons, List.length_append, List.length_cons, List.length_nil]; omega
  unfold cut
  simp only [Option.elim, h1, h2]
  simp
end Mine
namespace Mine
noncomputable def tiers : List (List Str) := [[tk "||"], [tk "&&"], [tk "==", tk "!="], [tk "<", tk ">", tk "<=", tk ">="], [tk "+", tk "-"], [tk "*", tk "/", tk "%"]]
noncomputable def isIn (s : List Str) (t : Str) : Bool := s.any (· == t)
noncomputable def eqT (x : Str) (t : Str) : Bool := t == x
noncomputable def cmps : List Str := [tk "==", tk "!=", tk "<", tk ">", tk "<=", tk ">="]
noncomputable def fnd (part : List Str) : List (List Str) → List Nat
  | [] => []
  | s :: r => if pl (isIn s) part = [] then fnd part r else pl (isIn s) part
noncomputable def reaches (part : List Str) (at_ : Nat) : Prop := (∃ o, part[at_]? = some o ∧ (o = tk "||" ∨ o = tk "&&")) ∨ pl (isIn cmps) (part.take at_) ≠ []
/-- what _law_tree gives -/
inductive TreeR : Nat → List Str → D → Prop where
  | ask {n : Nat} {a b c : List Str} {x y z : D} : Bal a → NQ a → Bal b → QB b → TreeR n a x → TreeR n b y → TreeR n c z → TreeR (n + 1) (a ++ tk "?" :: (b ++ tk ":" :: c)) (.list [.str (tk "?"), x, y, z])
  | neg {n : Nat} {r : List Str} {x : D} : pl (eqT (tk "?")) (tk "!" :: r) = [] → (∀ at_, (fnd (tk "!" :: r) tiers).getLast? = some at_ → ¬ reaches (tk "!" :: r) at_) → TreeR n r x → TreeR (n + 1) (tk "!" :: r) (.list [.str (tk "!"), x])
  | op {n : Nat} {a b : List Str} {o : Str} {x y : D} : pl (eqT (tk "?")) (a ++ o :: b) = [] → (fnd (a ++ o :: b) tiers).getLast? = some a.length → (a.head? = some (tk "!") → reaches (a ++ o :: b) a.length) → a ≠ [] → TreeR n a x → TreeR n b y → TreeR (n + 1) (a ++ o :: b) (.list [.str o, x, y])
  | par {n : Nat} {m : List Str} {x : D} : Bal m → TreeR n m x → TreeR (n + 1) (tk "(" :: (m ++ [tk ")"])) x
  | leaf {n : Nat} {t : Str} : t ≠ tk "!" → t ≠ tk "?" → Plain t → lvl t = none → t.length ≤ 100 → TreeR (n + 1) [t] (.str (num t))
theorem TreeR.mono {n : Nat} {p : List Str} {d : D} (h : TreeR n p d) : ∀ m, n ≤ m → TreeR m p d := by
  induction h with
  | ask h1 h2 h3 h4 _ _ _ i1 i2 i3 => intro m hm; obtain ⟨m, rfl⟩ : ∃ k, m = k + 1 := ⟨m - 1, by omega⟩; exact .ask h1 h2 h3 h4 (i1 m (by omega)) (i2 m (by omega)) (i3 m (by omega))
  | neg h1 h2 _ i1 => intro m hm; obtain ⟨m, rfl⟩ : ∃ k, m = k + 1 := ⟨m - 1, by omega⟩; exact .neg h1 h2 (i1 m (by omega))
  | op h1 h2 h3 h4 _ _ i1 i2 => intro m hm; obtain ⟨m, rfl⟩ : ∃ k, m = k + 1 := ⟨m - 1, by omega⟩; exact .op h1 h2 h3 h4 (i1 m (by omega)) (i2 m (by omega))
  | par h1 _ i1 => intro m hm; obtain ⟨m, rfl⟩ : ∃ k, m = k + 1 := ⟨m - 1, by omega⟩; exact .par h1 (i1 m (by omega))
  | leaf h1 h2 h3 h4 h5 => intro m hm; obtain ⟨m, rfl⟩ : ∃ k, m = k + 1 := ⟨m - 1, by omega⟩; exact .leaf h1 h2 h3 h4 h5
/-- facts of formulas -/
noncomputable def Tr.cmpOut : Tr → Bool
  | .nm _ _ | .par _ _ => false
  | .bin o l r => isCmp (lvo o) || (l.cmpOut || r.cmpOut)
  | .cond c t f => c.cmpOut || (t.cmpOut || f.cmpOut)
noncomputable def Tr.lead : Tr → Nat
  | .nm k _ | .par k _ => k
  | .bin _ l _ => l.lead
  | .cond c _ _ => c.lead
/-- without the nots ahead -/
noncomputable def Tr.bare : Tr → Tr
  | .nm _ t => .nm 0 t
  | .par _ e => .par 0 e
  | .bin o l r => .bin o l.bare r
  | .cond c t f => .cond c.bare t f
noncomputable def neg : Nat → D → D
  | 0, d => d
  | k + 1, d => .list [.str (tk "!"), neg k d]
/-- the tree that both readings give; s: the nots ahead are left out -/
noncomputable def Tr.sem : Bool → Tr → D
  | s, .nm k t => neg (if s then 0 else k) (.str (num t))
  | s, .par k e => neg (if s then 0 else k) (e.sem false)
  | s, .bin o l r => if lvo o ≤ 2 ∨ l.cmpOut = true then .list [.str o, l.sem s, r.sem false] else neg (if s then 0 else l.lead) (.list [.str o, l.sem true, r.sem false])
  | s, .cond c t f => .list [.str (tk "?"), c.sem s, t.sem false, f.sem false]
/-- no not behind a comparison or a sign of reckoning -/
noncomputable def Tr.NB : Tr → Prop
  | .nm _ _ => True
  | .par _ e => e.NB
  | .bin o l r => l.NB ∧ r.NB ∧ (3 ≤ lvo o → r.lead = 0)
  | .cond c t f => c.NB ∧ t.NB ∧ f.NB
theorem flat_lead : ∀ e : Tr, e.flat = nots e.lead ++ e.bare.flat
  | .nm k t => rfl
  | .par k e => rfl
  | .bin o l r => by
    show l.flat ++ o :: r.flat = nots l.lead ++ (l.bare.flat ++ o :: r.flat)
    rw [flat_lead l, List.append_assoc]
  | .cond c t f => by
    show c.flat ++ _ = nots c.lead ++ (c.bare.flat ++ _)
    rw [flat_lead c, List.append_assoc]
theorem bare_lv : ∀ e : Tr, e.bare.lv = e.lv
  | .nm _ _ | .par _ _ | .bin _ _ _ | .cond _ _ _ => rfl
theorem bare_WF : ∀ e : Tr, e.WF → e.bare.WF
  | .nm _ _, h => h
  | .par _ _, h => h
  | .bin o l r, h => ⟨h.1, bare_WF l h.2.1, h.2.2.1, by rw [bare_lv]; exact h.2.2.2.1, h.2.2.2.2⟩
  | .cond c t f, h => ⟨bare_WF c h.1, h.2.1, h.2.2.1, by rw [bare_lv]; exact h.2.2.2⟩
theorem bare_head : ∀ e : Tr, e.WF → e.bare.flat.head? ≠ some (tk "!") ∧ e.bare.flat ≠ []
  | .nm _ t, h => by
    refine ⟨?_, by simp [Tr.bare, Tr.flat]⟩
    show some t ≠ _
    intro e
    have e := Option.some.inj e
    subst e
    rcases h with h | h
    · exact absurd h (by decide +kernel)
    · exact absurd h (by decide +kernel)
  | .par _ e, _ => ⟨by show some (tk "(") ≠ some (tk "!"); decide +kernel, by simp [Tr.bare, Tr.flat]⟩
  | .bin o l r, h => by
    have ih := bare_head l h.2.1
    show (l.bare.flat ++ _).head? ≠ _ ∧ _
    cases hl : l.bare.flat with
    | nil => exact absurd hl ih.2
    | cons a b => rw [hl] at ih; exact ⟨ih.1, by simp [Tr.bare, Tr.flat]⟩
  | .cond c t f, h => by
    have ih := bare_head c h.1
    show (c.bare.flat ++ _).head? ≠ _ ∧ _
    cases hl : c.bare.flat with
    | nil => exact absurd hl ih.2
    | cons a b => rw [hl] at ih; exact ⟨ih.1, by simp [Tr.bare, Tr.flat]⟩
theorem plain_op {o : Str} {i : Int} (h : lvl o = some i) : Plain o := by
  have : ∀ p ∈ opsTab, Plain p.1 := by unfold Plain opsTab; decide +kernel
  exact this _ (lvl_mem h)
theorem plain_op' {o : Str} (h : (lvl o).isSome = true) : Plain o := by
  obtain ⟨i, hi⟩ := Option.isSome_iff_exists.mp h; exact plain_op hi
theorem plain_not : Plain (tk "!") := ⟨by decide +kernel, by decide +kernel⟩
theorem atm_plain {t : Str} (h : Atm t) : Plain t := by
  rcases h with h | h
  · subst h; exact ⟨by decide +kernel, by decide +kernel⟩
  · constructor <;> (intro e; subst e; exact absurd h (by decide +kernel))
theorem bal_nots (k : Nat) : Bal (nots k) := by
  induction k with
  | zero => exact .nil
  | succ k ih => exact .cons plain_not ih
theorem flat_bal : ∀ e : Tr, e.WF → Bal e.flat
  | .nm k t, h => (bal_nots k).append (.cons (atm_plain h) .nil)
  | .par k e, h => (bal_nots k).append (flat_bal e h).wrap
  | .bin o l r, h => (flat_bal l h.2.1).append (.cons (plain_op' h.1) (flat_bal r h.2.2.1))
  | .cond c t f, h => (flat_bal c h.1).append (.cons plain_q ((flat_bal t h.2.1).append (.cons plain_d (flat_bal f h.2.2.1))))
theorem oT_nots (k : Nat) : oT (nots k) = nots k := by
  induction k with
  | zero => rfl
  | succ k ih => show oT (tk "!" :: nots k) = _; rw [oT_cons plain_not, ih]; rfl
theorem oT_nm {k : Nat} {t : Str} (h : Atm t) : oT (nots k ++ [t]) = nots k ++ [t] := by rw [oT_append (bal_nots k), oT_nots, oT_cons (atm_plain h)]; rfl
theorem mem_nots {k : Nat} {t : Str} (h : t ∈ nots k) : t = tk "!" := List.eq_of_mem_replicate h
/-- what stands outside: nots, an atom, operations at least as strong, or a condition's signs -/
theorem out_kinds : ∀ e : Tr, e.WF → ∀ t ∈ oT e.flat, t = tk "!" ∨ Atm t ∨ (∃ i, lvl t = some i ∧ e.lv ≤ i) ∨ (e.lv = 0 ∧ (t = tk "?" ∨ t = tk ":"))
  | .nm k t, h, u, hu => by
    rw [show (Tr.nm k t).flat = nots k ++ [t] from rfl, oT_nm h] at hu
    rcases List.mem_append.mp hu with h1 | h1
    · exact .inl (mem_nots h1)
    · rw [List.mem_singleton.mp h1]; exact .inr (.inl h)
  | .par k e, h, u, hu => by
    rw [show (Tr.par k e).flat = nots k ++ tk "(" :: (e.flat ++ [tk ")"]) from rfl, oT_append (bal_nots k), oT_nots, oT_wrap (flat_bal e h), List.append_nil] at hu
    exact .inl (mem_nots hu)
  | .bin o l r, h, u, hu => by
    obtain ⟨h1, h2, h3, h4, h5⟩ := h
    obtain ⟨i, hi⟩ := Option.isSome_iff_exists.mp h1
    have hlo := lvo_eq hi
    have hr := lvl_range hi
    rw [show (Tr.bin o l r).flat = l.flat ++ o :: r.flat from rfl, oT_append (flat_bal l h2), oT_cons (plain_op hi)] at hu
    show _ ∨ _ ∨ (∃ i, lvl u = some i ∧ lvo o ≤ i) ∨ _
    rcases List.mem_append.mp hu with h6 | h6
    · rcases out_kinds l h2 u h6 with h7 | h7 | ⟨j, h7, h8⟩ | ⟨h7, h8⟩
      · exact .inl h7
      · exact .inr (.inl h7)
      · exact .inr (.inr (.inl ⟨j, h7, by omega⟩))
      · omega
    · rcases List.mem_cons.mp h6 with h6 | h6
      · subst h6; exact .inr (.inr (.inl ⟨i, hi, by omega⟩))
      · rcases out_kinds r h3 u h6 with h7 | h7 | ⟨j, h7, h8⟩ | ⟨h7, h8⟩
        · exact .inl h7
        · exact .inr (.inl h7)
        · exact .inr (.inr (.inl ⟨j, h7, by omega⟩))
        · omega
  | .cond c t f, h, u, hu => by
    obtain ⟨h1, h2, h3, h4⟩ := h
    rw [show (Tr.cond c t f).flat = c.flat ++ tk "?" :: (t.flat ++ tk ":" :: f.flat) from rfl, oT_append (flat_bal c h1), oT_cons plain_q, oT_append (flat_bal t h2), oT_cons plain_d] at hu
    show _ ∨ _ ∨ (∃ i, lvl u = some i ∧ (0 : Int) ≤ i) ∨ ((0 : Int) = 0 ∧ _)
    have low : ∀ e : Tr, e.WF → u ∈ oT e.flat → u = tk "!" ∨ Atm u ∨ (∃ i, lvl u = some i ∧ (0 : Int) ≤ i) ∨ ((0 : Int) = 0 ∧ (u = tk "?" ∨ u = tk ":")) → u = tk "!" ∨ Atm u ∨ (∃ i, lvl u = some i ∧ (0 : Int) ≤ i) ∨ ((0 : Int) = 0 ∧ (u = tk "?" ∨ u = tk ":")) := fun _ _ _ h => h
    have up : ∀ e : Tr, (u = tk "!" ∨ Atm u ∨ (∃ i, lvl u = some i ∧ e.lv ≤ i) ∨ (e.lv = 0 ∧ (u = tk "?" ∨ u = tk ":"))) → u = tk "!" ∨ Atm u ∨ (∃ i, lvl u = some i ∧ (0 : Int) ≤ i) ∨ ((0 : Int) = 0 ∧ (u = tk "?" ∨ u = tk ":")) := by
      rintro e (h7 | h7 | ⟨j, h7, h8⟩ | ⟨h7, h8⟩)
      · exact .inl h7
      · exact .inr (.inl h7)
      · exact .inr (.inr (.inl ⟨j, h7, by have := lvl_range h7; omega⟩))
      · exact .inr (.inr (.inr ⟨rfl, h8⟩))
    rcases List.mem_append.mp hu with h6 | h6
    · exact up c (out_kinds c h1 u h6)
    · rcases List.mem_cons.mp h6 with h6 | h6
      · exact .inr (.inr (.inr ⟨rfl, .inl h6⟩))
      · rcases List.mem_append.mp h6 with h6 | h6
        · exact up t (out_kinds t h2 u h6)
        · rcases List.mem_cons.mp h6 with h6 | h6
          · exact .inr (.inr (.inr ⟨rfl, .inr h6⟩))
          · exact up f (out_kinds f h3 u h6)
theorem lvl_not : lvl (tk "!") = none := by decide +kernel
theorem atm_lvl {t : Str} (h : Atm t) : lvl t = none := by
  cases hl : lvl t with
  | none => rfl
  | some i =>
    exfalso
    have : ∀ p ∈ opsTab, ¬ (p.1 = tk "n") ∧ Txt.isdigit p.1 = false := by unfold opsTab; decide +kernel
    have := this _ (lvl_mem hl)
    rcases h with h | h
    · exact this.1 h
    · rw [this.2] at h; cases h
theorem atm_q {t : Str} (h : Atm t) : t ≠ tk "?" ∧ t ≠ tk ":" ∧ t ≠ tk "!" := by
  rcases h with h | h
  · subst h; decide +kernel
  · refine ⟨?_, ?_, ?_⟩ <;> (intro e; subst e; exact absurd h (by decide +kernel))
theorem op_q {t : Str} {i : Int} (h : lvl t = some i) : t ≠ tk "?" ∧ t ≠ tk ":" ∧ t ≠ tk "!" := by
  have : ∀ p ∈ opsTab, p.1 ≠ tk "?" ∧ p.1 ≠ tk ":" ∧ p.1 ≠ tk "!" := by unfold opsTab; decide +kernel
  exact this _ (lvl_mem h)
theorem flat_NQ {e : Tr} (h : e.WF) (hl : 1 ≤ e.lv) : NQ e.flat := fun t ht => by
  rcases out_kinds e h t ht with h7 | h7 | ⟨j, h7, h8⟩ | ⟨h7, h8⟩
  · subst h7; decide +kernel
  · exact ⟨(atm_q h7).1, (atm_q h7).2.1⟩
  · exact ⟨(op_q h7).1, (op_q h7).2.1⟩
  · omega
theorem flat_QB : ∀ e : Tr, e.WF → QB e.flat
  | .nm k t, h => (flat_NQ (e := .nm k t) h (by show (1 : Int) ≤ 100; decide)).qb
  | .par k e, h => (flat_NQ (e := .par k e) h (by show (1 : Int) ≤ 100; decide)).qb
  | .bin o l r, h => (flat_NQ (e := .bin o l r) h (by
      obtain ⟨i, hi⟩ := Option.isSome_iff_exists.mp h.1
      show 1 ≤ lvo o; rw [lvo_eq hi]; exact (lvl_range hi).1)).qb
  | .cond c t f, h => QB.cond (flat_NQ h.1 h.2.2.2) (flat_bal c h.1) (flat_QB t h.2.1) (flat_bal t h.2.1) (flat_QB f h.2.2.1)
end Mine
namespace Mine
theorem tier_lvl (t : Str) {k : Nat} {s : List Str} (h : tiers[k]? = some s) : isIn s t = decide (lvl t = some ((k : Int) + 1)) := by
  have hk : k < 6 := by have := (List.getElem?_eq_some_iff.mp h).1; exact this
  cases hl : lvl t with
  | some i =>
    have all : ∀ p ∈ opsTab, ∀ k : _root_.Fin 6, isIn (tiers[k]?.getD []) p.1 = decide (p.2 = (k.val : Int) + 1) := by unfold opsTab tiers; decide +kernel
    have := all _ (lvl_mem hl) ⟨k, hk⟩
    have h' : tiers[(⟨k, hk⟩ : _root_.Fin 6)]?.getD [] = s := by
      show tiers[k]?.getD [] = s; rw [h]; rfl
    rw [h'] at this
    rw [this]; simp
  | none =>
    simp only [reduceCtorEq, decide_false]
    cases hs : isIn s t with
    | false => rfl
    | true =>
      exfalso
      unfold isIn at hs
      obtain ⟨x, hx, he⟩ := List.any_eq_true.mp hs
      have hxt : x = t := eq_of_beq he
      subst hxt
      have all : ∀ s ∈ tiers, ∀ x ∈ s, (lvl x).isSome = true := by unfold tiers; decide +kernel
      have := all s (List.mem_of_getElem? h) x hx
      rw [hl] at this; cases this
theorem cmps_lvl (t : Str) : isIn cmps t = isCmp (lvo t) := by
  cases hl : lvl t with
  | some i =>
    have all : ∀ p ∈ opsTab, isIn cmps p.1 = isCmp p.2 := by unfold opsTab; decide +kernel
    rw [lvo_eq hl]; exact all _ (lvl_mem hl)
  | none =>
    rw [lvo_none hl]
    cases hs : isIn cmps t with
    | false => rfl
    | true =>
      exfalso
      unfold isIn at hs
      obtain ⟨x, hx, he⟩ := List.any_eq_true.mp hs
      have hxt : x = t := eq_of_beq he
      subst hxt
      have all : ∀ x ∈ cmps, (lvl x).isSome = true := by unfold cmps; decide +kernel
      have := all x hx
      rw [hl] at this; cases this
theorem fnd_skip {part : List Str} : ∀ (pre post : List (List Str)), (∀ s ∈ pre, pl (isIn s) part = []) → fnd part (pre ++ post) = fnd part post
  | [], _, _ => rfl
  | s :: r, post, h => by
    rw [List.cons_append, fnd, if_pos (h s (.head _))]
    exact fnd_skip r post fun s hs => h s (.tail _ hs)
theorem fnd_none {part : List Str} (h : ∀ t ∈ oT part, lvl t = none) : fnd part tiers = [] := by
  have : fnd part (tiers ++ []) = fnd part [] := fnd_skip tiers [] fun s hs => pl_nil fun t ht => by
    obtain ⟨k, hk⟩ := List.getElem?_of_mem hs
    rw [tier_lvl t hk, h t ht]; simp
  simpa [fnd] using this
theorem fnd_op {a b : List Str} {o : Str} {i : Int} (ho : lvl o = some i) (ha : Bal a) (h1 : ∀ t ∈ oT a, ∀ j, lvl t = some j → i ≤ j) (h2 : ∀ t ∈ oT b, ∀ j, lvl t = some j → i < j) : (fnd (a ++ o :: b) tiers).getLast? = some a.length := by
  have hr := lvl_range ho
  obtain ⟨k, hk⟩ : ∃ k : Nat, i = (k : Int) + 1 := ⟨(i - 1).toNat, by omega⟩
  have hk6 : k < tiers.length := by show k < 6; omega
  have hg : tiers[k]? = some tiers[k] := List.getElem?_eq_getElem hk6
  have hsp : tiers = tiers.take k ++ (tiers[k] :: tiers.drop (k + 1)) := by rw [← List.drop_eq_getElem_cons hk6, List.take_append_drop]
  have hout : ∀ t ∈ oT (a ++ o :: b), ∀ j, lvl t = some j → i ≤ j := by
    intro t ht j hj
    rw [oT_append ha, oT_cons (plain_op ho)] at ht
    rcases List.mem_append.mp ht with h | h
    · exact h1 t h j hj
    · rcases List.mem_cons.mp h with h | h
      · subst h; rw [ho] at hj; cases hj; omega
      · have := h2 t h j hj; omega
  have hl : (pl (isIn tiers[k]) (a ++ o :: b)).getLast? = some a.length := by
    refine pl_last ha (plain_op ho) ?_ fun t ht => ?_
    · rw [tier_lvl o hg, ho, hk]; simp
    · rw [tier_lvl t hg]
      refine decide_eq_false fun e => ?_
      have := h2 t ht _ e; omega
  rw [hsp, fnd_skip, fnd, if_neg]
  · exact hl
  · intro e; rw [e] at hl; simp at hl
  · intro s hs
    refine pl_nil fun t ht => ?_
    obtain ⟨j, hj⟩ := List.getElem?_of_mem hs
    have hjk : j < k := by
      have := (List.getElem?_eq_some_iff.mp hj).1
      rw [List.length_take] at this; omega
    rw [List.getElem?_take_of_lt hjk] at hj
    rw [tier_lvl t hj]
    refine decide_eq_false fun e => ?_
    have := hout t ht _ e; omega
theorem pl_ne {P : Str → Bool} {a : List Str} (h : (oT a).any P = true) : pl P a ≠ [] := by
  obtain ⟨t, ht, hp⟩ := List.any_eq_true.mp h
  intro e
  unfold pl at e
  rw [List.map_eq_nil_iff, List.filter_eq_nil_iff] at e
  obtain ⟨x, hx, rfl⟩ := List.mem_map.mp ht
  exact e x hx hp
theorem cmp_out : ∀ e : Tr, e.WF → (oT e.flat).any (isIn cmps) = e.cmpOut
  | .nm k t, h => by
    rw [show (Tr.nm k t).flat = nots k ++ [t] from rfl, oT_nm h]
    rw [List.any_eq_false.mpr]
    · rfl
    · intro x hx
      rw [cmps_lvl]
      rcases List.mem_append.mp hx with h1 | h1
      · rw [mem_nots h1]; decide +kernel
      · rw [List.mem_singleton.mp h1, lvo_none (atm_lvl h)]; decide
  | .par k e, h => by
    rw [show (Tr.par k e).flat = nots k ++ tk "(" :: (e.flat ++ [tk ")"]) from rfl, oT_append (bal_nots k), oT_nots, oT_wrap (flat_bal e h), List.append_nil]
    rw [List.any_eq_false.mpr]
    · rfl
    · intro x hx
      rw [cmps_lvl, mem_nots hx]; decide +kernel
  | .bin o l r, h => by
    rw [show (Tr.bin o l r).flat = l.flat ++ o :: r.flat from rfl, oT_append (flat_bal l h.2.1), oT_cons (plain_op' h.1), List.any_append, List.any_cons, cmp_out l h.2.1, cmp_out r h.2.2.1, cmps_lvl]
    show _ = (_ || (_ || _))
    cases l.cmpOut <;> cases isCmp (lvo o) <;> simp
  | .cond c t f, h => by
    rw [show (Tr.cond c t f).flat = c.flat ++ tk "?" :: (t.flat ++ tk ":" :: f.flat) from rfl, oT_append (flat_bal c h.1), oT_cons plain_q, oT_append (flat_bal t h.2.1), oT_cons plain_d]
    simp only [List.any_append, List.any_cons, cmp_out c h.1, cmp_out t h.2.1, cmp_out f h.2.2.1, show isIn cmps (tk "?") = false by decide +kernel, show isIn cmps (tk ":") = false by decide +kernel, Bool.false_or]
    rfl
noncomputable def Tr.withLead (j : Nat) : Tr → Tr
  | .nm _ t => .nm j t
  | .par _ e => .par j e
  | .bin o l r => .bin o (l.withLead j) r
  | .cond c t f => .cond (c.withLead j) t f
theorem withLead_flat (j : Nat) : ∀ e : Tr, (e.withLead j).flat = nots j ++ e.bare.flat
  | .nm _ t => rfl
  | .par _ e => rfl
  | .bin o l r => by
    show (l.withLead j).flat ++ o :: r.flat = nots j ++ (l.bare.flat ++ o :: r.flat)
    rw [withLead_flat j l, List.append_assoc]
  | .cond c t f => by
    show (c.withLead j).flat ++ _ = nots j ++ (c.bare.flat ++ _)
    rw [withLead_flat j c, List.append_assoc]
theorem withLead_lv (j : Nat) : ∀ e : Tr, (e.withLead j).lv = e.lv
  | .nm _ _ | .par _ _ | .bin _ _ _ | .cond _ _ _ => rfl
theorem withLead_WF (j : Nat) : ∀ e : Tr, e.WF → (e.withLead j).WF
  | .nm _ _, h => h
  | .par _ _, h => h
  | .bin _ l _, h => ⟨h.1, withLead_WF j l h.2.1, h.2.2.1, by rw [withLead_lv]; exact h.2.2.2.1, h.2.2.2.2⟩
  | .cond c _ _, h => ⟨withLead_WF j c h.1, h.2.1, h.2.2.1, by rw [withLead_lv]; exact h.2.2.2⟩
theorem withLead_cmp (j : Nat) : ∀ e : Tr, (e.withLead j).cmpOut = e.cmpOut
  | .nm _ _ => rfl
  | .par _ _ => rfl
  | .bin o l r => by show (_ || ((l.withLead j).cmpOut || _)) = _; rw [withLead_cmp j l]; rfl
  | .cond c t f => by show ((c.withLead j).cmpOut || _) = _; rw [withLead_cmp j c]; rfl
theorem flat_noq {e : Tr} (h : e.WF) (hl : 1 ≤ e.lv) : pl (eqT (tk "?")) e.flat = [] := pl_nil fun t ht => by
  have := (flat_NQ h hl t ht).1
  unfold eqT
  exact beq_eq_false_iff_ne.mpr this
theorem bin_fnd {o : Str} {l r : Tr} (h : (Tr.bin o l r).WF) : (fnd (l.flat ++ o :: r.flat) tiers).getLast? = some l.flat.length := by
  obtain ⟨h1, h2, h3, h4, h5⟩ := h
  obtain ⟨i, hi⟩ := Option.isSome_iff_exists.mp h1
  rw [lvo_eq hi] at h4 h5
  have hr := lvl_range hi
  refine fnd_op hi (flat_bal l h2) (fun t ht j hj => ?_) (fun t ht j hj => ?_)
  · rcases out_kinds l h2 t ht with h7 | h7 | ⟨j', h7, h8⟩ | ⟨h7, h8⟩
    · subst h7; rw [lvl_not] at hj; cases hj
    · rw [atm_lvl h7] at hj; cases hj
    · rw [hj] at h7; cases h7; omega
    · omega
  · rcases out_kinds r h3 t ht with h7 | h7 | ⟨j', h7, h8⟩ | ⟨h7, h8⟩
    · subst h7; rw [lvl_not] at hj; cases hj
    · rw [atm_lvl h7] at hj; cases hj
    · rw [hj] at h7; cases h7; omega
    · omega
theorem opd_fnd {e : Tr} (h : e.WF) (hl : 100 ≤ e.lv) : fnd e.flat tiers = [] := fnd_none fun t ht => by
  rcases out_kinds e h t ht with h7 | h7 | ⟨j', h7, h8⟩ | ⟨h7, h8⟩
  · subst h7; exact lvl_not
  · exact atm_lvl h7
  · have := lvl_range h7; omega
  · omega
theorem flat_ne (e : Tr) : e.flat ≠ [] := by
  cases e <;> simp [Tr.flat]
theorem bin_lv {o : Str} {l r : Tr} (h : (Tr.bin o l r).WF) : 1 ≤ lvo o ∧ lvo o ≤ 6 := by
  obtain ⟨i, hi⟩ := Option.isSome_iff_exists.mp h.1
  rw [lvo_eq hi]; exact lvl_range hi
theorem lvo_low {o : Str} (h : o = tk "||" ∨ o = tk "&&") : lvo o ≤ 2 := by
  rcases h with rfl | rfl <;> decide +kernel
theorem low_lvo {o : Str} (h : (lvl o).isSome = true) (h' : lvo o ≤ 2) : o = tk "||" ∨ o = tk "&&" := by
  obtain ⟨i, hi⟩ := Option.isSome_iff_exists.mp h
  have : ∀ p ∈ opsTab, p.2 ≤ 2 → p.1 = tk "||" ∨ p.1 = tk "&&" := by unfold opsTab; decide +kernel
  rw [lvo_eq hi] at h'
  exact this _ (lvl_mem hi) h'
theorem get_mid (a : List Str) (o : Str) (b : List Str) : (a ++ o :: b)[a.length]? = some o := by simp
theorem take_mid (a b : List Str) : (a ++ b).take a.length = a := by simp
theorem tree_flat : ∀ e : Tr, e.WF → (∀ t ∈ e.flat, t.length ≤ 100) → TreeR e.flat.length e.flat (e.sem false) ∧ (3 ≤ e.lv → TreeR e.bare.flat.length e.bare.flat (e.sem true))
  | .nm k t, h, hs => by
    have hB : TreeR 1 [t] (.str (num t)) := .leaf (atm_q h).2.2 (atm_q h).1 (atm_plain h) (atm_lvl h) (hs t (by simp [Tr.flat]))
    have step : ∀ j, TreeR (j + 1) (nots j ++ [t]) (neg j (.str (num t))) := by
      intro j
      induction j with
      | zero => exact hB
      | succ j ih =>
        have e1 : tk "!" :: (nots j ++ [t]) = (Tr.nm (j + 1) t).flat := rfl
        show TreeR _ (tk "!" :: (nots j ++ [t])) _
        refine .neg (by rw [e1]; exact flat_noq (e := .nm (j + 1) t) h (by show (1 : Int) ≤ 100; decide)) (fun at_ ha => ?_) ih
        rw [e1, opd_fnd (e := .nm (j + 1) t) h (by show (100 : Int) ≤ 100; decide)] at ha; cases ha
    have hlen : (Tr.nm k t).flat.length = k + 1 := by simp [Tr.flat, nots]
    exact ⟨by rw [hlen]; exact step k, fun _ => hB⟩
  | .par k e, h, hs => by
    obtain ⟨ih, _⟩ := tree_flat e h fun t ht => hs t (by simp [Tr.flat, ht])
    have hB : TreeR (e.flat.length + 1) (tk "(" :: (e.flat ++ [tk ")"])) (e.sem false) := .par (flat_bal e h) ih
    have step : ∀ j, TreeR (e.flat.length + 1 + j) (nots j ++ tk "(" :: (e.flat ++ [tk ")"])) (neg j (e.sem false)) := by
      intro j
      induction j with
      | zero => exact hB
      | succ j ih =>
        have e1 : tk "!" :: (nots j ++ tk "(" :: (e.flat ++ [tk ")"])) = (Tr.par (j + 1) e).flat := rfl
        show TreeR _ (tk "!" :: (nots j ++ tk "(" :: (e.flat ++ [tk ")"]))) _
        refine .neg (by rw [e1]; exact flat_noq (e := .par (j + 1) e) h (by show (1 : Int) ≤ 100; decide)) (fun at_ ha => ?_) ih
        rw [e1, opd_fnd (e := .par (j + 1) e) h (by show (100 : Int) ≤ 100; decide)] at ha; cases ha
    have hlen : (Tr.par k e).flat.length = k + (e.flat.length + 2) := by simp [Tr.flat, nots]
    exact ⟨(step k).mono _ (by rw [hlen]; omega), fun _ => hB.mono _ (by simp [Tr.bare, Tr.flat, nots])⟩
  | .bin o l r, h, hs => by
    have hlv := bin_lv h
    obtain ⟨i1, i2⟩ := tree_flat l h.2.1 fun t ht => hs t (by simp [Tr.flat, ht])
    obtain ⟨j1, j2⟩ := tree_flat r h.2.2.1 fun t ht => hs t (by simp [Tr.flat, ht])
    have hlen : (Tr.bin o l r).flat.length = l.flat.length + (r.flat.length + 1) := by simp [Tr.flat]
    have hlen0 : l.flat.length = l.lead + l.bare.flat.length := by rw [flat_lead l]; simp [nots]
    -- by the operation
    have byop : ∀ (n j : Nat) (x : D), r.flat.length ≤ n → ((l.withLead j).flat.head? = some (tk "!") → reaches ((l.withLead j).flat ++ o :: r.flat) (l.withLead j).flat.length) → TreeR n (l.withLead j).flat x →
        TreeR (n + 1) ((l.withLead j).flat ++ o :: r.flat) (.list [.str o, x, r.sem false]) := by
      intro n j x hn hr hx
      have hW := withLead_WF j _ h
      exact .op (flat_noq (e := (Tr.bin o l r).withLead j) hW (by rw [withLead_lv]; show 1 ≤ lvo o; omega)) (bin_fnd hW) hr (flat_ne _) hx (j1.mono _ (by omega))
    have hw0 : (l.withLead 0).flat = l.bare.flat := withLead_flat 0 l
    have hwl : (l.withLead l.lead).flat = l.flat := by rw [withLead_flat, ← flat_lead]
    have hB : 3 ≤ lvo o → TreeR (l.bare.flat.length + r.flat.length + 1) (l.bare.flat ++ o :: r.flat) (.list [.str o, l.sem true, r.sem false]) := by
      intro h3
      have := byop (l.bare.flat.length + r.flat.length) 0 (l.sem true) (by omega) (fun e => by rw [hw0] at e; exact absurd e (bare_head l h.2.1).1) (by rw [hw0]; exact (i2 (by have := h.2.2.2.1; omega)).mono _ (by omega))
      rw [hw0] at this; exact this
    constructor
    · rw [hlen]
      show TreeR _ (l.flat ++ o :: r.flat) _
      rw [Tr.sem]
      by_cases hc : lvo o ≤ 2 ∨ l.cmpOut = true
      · rw [if_pos hc]
        have := byop (l.flat.length + r.flat.length) l.lead (l.sem false) (by omega) (fun _ => ?_) (by rw [hwl]; exact i1.mono _ (by omega))
        · rw [hwl] at this; exact this
        · rcases hc with hc | hc
          · exact .inl ⟨o, get_mid _ _ _, low_lvo h.1 hc⟩
          · refine .inr ?_
            rw [take_mid, hwl]
            exact pl_ne (by rw [cmp_out l h.2.1]; exact hc)
      · rw [if_neg hc]
        have h3 : 3 ≤ lvo o := by have := fun h => hc (.inl h); omega
        have hnc : l.cmpOut = false := by cases hq : l.cmpOut with
          | false => rfl
          | true => exact absurd (.inr hq) hc
        have step : ∀ j, TreeR (l.bare.flat.length + r.flat.length + 1 + j) ((l.withLead j).flat ++ o :: r.flat) (neg j (.list [.str o, l.sem true, r.sem false])) := by
          intro j
          induction j with
          | zero => rw [hw0]; exact hB h3
          | succ j ih =>
            have e1 : (l.withLead (j + 1)).flat = tk "!" :: (l.withLead j).flat := by rw [withLead_flat, withLead_flat]; rfl
            have hW := withLead_WF (j + 1) _ h
            have hq := flat_noq (e := (Tr.bin o l r).withLead (j + 1)) hW (by rw [withLead_lv]; show 1 ≤ lvo o; omega)
            have hf := bin_fnd hW
            have hq' : pl (eqT (tk "?")) ((l.withLead (j + 1)).flat ++ o :: r.flat) = [] := hq
            rw [e1] at hq' ⊢
            refine .neg hq' (fun at_ ha => ?_) ih
            rw [show tk "!" :: ((l.withLead j).flat.append (o :: r.flat)) = (l.withLead (j + 1)).flat ++ o :: r.flat by rw [e1]; rfl] at ha ⊢
            rw [hf] at ha
            cases ha
            rintro (⟨o', h1, h2⟩ | h1)
            · rw [get_mid] at h1; cases h1
              have := lvo_low h2; omega
            · rw [take_mid] at h1
              refine h1 (pl_nil fun t ht => ?_)
              have := cmp_out (l.withLead (j + 1)) (withLead_WF _ _ h.2.1)
              rw [withLead_cmp, hnc] at this
              exact eq_false_of_ne_true (List.any_eq_false.mp this t ht)
        have := step l.lead
        rw [hwl] at this
        rw [if_neg Bool.false_ne_true]
        exact this.mono _ (by omega)
    · intro h3
      have h3 : 3 ≤ lvo o := h3
      have hb : (Tr.bin o l r).bare.flat.length = l.bare.flat.length + r.flat.length + 1 := by simp [Tr.bare, Tr.flat]; omega
      rw [hb]
      show TreeR _ (l.bare.flat ++ o :: r.flat) _
      rw [Tr.sem]
      split
      · exact hB h3
      · exact hB h3
  | .cond c t f, h, hs => by
    obtain ⟨i1, _⟩ := tree_flat c h.1 fun t ht => hs t (by simp [Tr.flat, ht])
    obtain ⟨i2, _⟩ := tree_flat t h.2.1 fun u ht => hs u (by simp [Tr.flat, ht])
    obtain ⟨i3, _⟩ := tree_flat f h.2.2.1 fun u ht => hs u (by simp [Tr.flat, ht])
    have hlen : (Tr.cond c t f).flat.length = c.flat.length + t.flat.length + f.flat.length + 1 + 1 := by simp [Tr.flat]; omega
    refine ⟨?_, fun h3 => by have : (3 : Int) ≤ 0 := h3; omega⟩
    rw [hlen]
    exact .ask (flat_bal c h.1) (flat_NQ h.1 h.2.2.2) (flat_bal t h.2.1) (flat_QB t h.2.1) (i1.mono _ (by omega)) (i2.mono _ (by omega)) (i3.mono _ (by omega))
end Mine
namespace Mine
/-- the formula with the brackets that _parse writes -/
noncomputable def wrapT (q : Int) (e e' : Tr) : Tr := if q = e.lv ∧ (q = 4 ∨ q = 0) then .par 0 e' else e'
noncomputable def Tr.nrm : Tr → Tr
  | .nm k t => .nm k (num t)
  | .par k e => .par k e.nrm
  | .bin o l r => .bin o (if isCmp (lvo o) && isCmp l.lv then .par 0 l.nrm else l.nrm) (wrapT (lvo o + 1) r r.nrm)
  | .cond c t f => .cond c.nrm (wrapT 0 t t.nrm) f.nrm
noncomputable def Tr.nrmq (q : Int) (e : Tr) : Tr := wrapT q e e.nrm
/-- digits and n alone -/
noncomputable def Wd (x : Str) : Prop := x.cps.toList ≠ [] ∧ ∀ c ∈ x.cps.toList, c = 110 ∨ (48 ≤ c ∧ c ≤ 57)
noncomputable instance (x : Str) : Decidable (Wd x) := by unfold Wd; infer_instance
/-- every atom is such a word -/
noncomputable def Tr.Wds : Tr → Prop
  | .nm _ t => Wd (num t) ∧ num (num t) = num t ∧ Atm (num t)
  | .par _ e => e.Wds
  | .bin _ l r => l.Wds ∧ r.Wds
  | .cond c t f => c.Wds ∧ t.Wds ∧ f.Wds
/-- no comparison beside a comparison, no condition between ? and : -/
noncomputable def Tr.NC : Tr → Prop
  | .nm _ _ => True
  | .par _ e => e.NC
  | .bin o l r => l.NC ∧ r.NC ∧ (isCmp (lvo o) = true → l.cmpOut = false ∧ r.cmpOut = false)
  | .cond c t f => c.NC ∧ t.NC ∧ f.NC ∧ 1 ≤ t.lv
theorem isCmp_iff (i : Int) : isCmp i = true ↔ i = 3 ∨ i = 4 := by
  simp only [isCmp, List.any_cons, List.any_nil, Bool.or_false, Bool.or_eq_true, beq_iff_eq]; omega
theorem nrm_lv (e : Tr) : e.nrm.lv = e.lv := by cases e <;> rfl
theorem wrapT_lv (q : Int) (e e' : Tr) (h : e'.lv = e.lv) : e.lv ≤ (wrapT q e e').lv ∨ (wrapT q e e').lv = 100 := by
  unfold wrapT; split
  · exact .inr rfl
  · exact .inl (by rw [h]; exact Int.le_refl _)
theorem strong_cmp : ∀ e : Tr, e.WF → 5 ≤ e.lv → e.cmpOut = false
  | .nm _ _, _, _ => rfl
  | .par _ _, _, _ => rfl
  | .bin o l r, h, h5 => by
    have h5 : 5 ≤ lvo o := h5
    have hc : isCmp (lvo o) = false := by
      cases hq : isCmp (lvo o) with
      | false => rfl
      | true => have := (isCmp_iff _).mp hq; omega
    have := h.2.2.2
    show (isCmp (lvo o) || (l.cmpOut || r.cmpOut)) = false
    rw [hc, strong_cmp l h.2.1 (by omega), strong_cmp r h.2.2.1 (by omega)]; rfl
  | .cond _ _ _, _, h5 => by have : (5 : Int) ≤ 0 := h5; omega
theorem nrm_WF : ∀ e : Tr, e.WF → e.Wds → e.nrm.WF
  | .nm _ _, _, h => h.2.2
  | .par _ e, h, hw => nrm_WF e h hw
  | .bin o l r, h, hw => by
    have i1 := nrm_WF l h.2.1 hw.1
    have i2 := nrm_WF r h.2.2.1 hw.2
    have hl := bin_lv h
    refine ⟨h.1, ?_, ?_, ?_, ?_⟩
    · split
      · exact i1
      · exact i1
    · unfold wrapT; split
      · exact i2
      · exact i2
    · split
      · show lvo o ≤ 100; omega
      · rw [nrm_lv]; exact h.2.2.2.1
    · rcases wrapT_lv (lvo o + 1) r r.nrm (nrm_lv r) with h1 | h1
      · have := h.2.2.2.2; omega
      · rw [h1]; omega
  | .cond c t f, h, hw => by
    refine ⟨nrm_WF c h.1 hw.1, ?_, nrm_WF f h.2.2.1 hw.2.2, by rw [nrm_lv]; exact h.2.2.2⟩
    unfold wrapT; split
    · exact nrm_WF t h.2.1 hw.2.1
    · exact nrm_WF t h.2.1 hw.2.1
theorem nrm_NC : ∀ e : Tr, e.WF → e.Wds → e.nrm.NC
  | .nm _ _, _, _ => trivial
  | .par _ e, h, hw => nrm_NC e h hw
  | .bin o l r, h, hw => by
    have hlv := bin_lv h
    refine ⟨?_, ?_, fun hc => ⟨?_, ?_⟩⟩
    · split
      · exact nrm_NC l h.2.1 hw.1
      · exact nrm_NC l h.2.1 hw.1
    · unfold wrapT; split
      · exact nrm_NC r h.2.2.1 hw.2
      · exact nrm_NC r h.2.2.1 hw.2
    · by_cases h1 : isCmp l.lv = true
      · rw [hc, h1]; rfl
      · rw [if_neg (by simp [h1])]
        refine strong_cmp _ (nrm_WF l h.2.1 hw.1) ?_
        rw [nrm_lv]
        have := (isCmp_iff _).mp hc
        have h2 := h.2.2.2.1
        have h3 : ¬ (l.lv = 3 ∨ l.lv = 4) := fun e => h1 ((isCmp_iff _).mpr e)
        omega
    · unfold wrapT
      split
      · rfl
      · next h1 =>
        refine strong_cmp _ (nrm_WF r h.2.2.1 hw.2) ?_
        rw [nrm_lv]
        have := (isCmp_iff _).mp hc
        have h2 := h.2.2.2.2
        by_cases h3 : lvo o = 3
        · have : ¬ r.lv = 4 := fun e => h1 ⟨by omega, .inl (by omega)⟩
          omega
        · omega
  | .cond c t f, h, hw => by
    refine ⟨nrm_NC c h.1 hw.1, ?_, nrm_NC f h.2.2.1 hw.2.2, ?_⟩
    · unfold wrapT; split
      · exact nrm_NC t h.2.1 hw.2.1
      · exact nrm_NC t h.2.1 hw.2.1
    · unfold wrapT; split
      · show (1 : Int) ≤ 100; decide
      · next h1 =>
        rw [nrm_lv]
        have := lv_nonneg t
        have : ¬ (0 : Int) = t.lv := fun e => h1 ⟨e, .inr rfl⟩
        omega
theorem nrm_cmp : ∀ e : Tr, e.WF → e.cmpOut = false → e.nrm.cmpOut = false
  | .nm _ _, _, _ => rfl
  | .par _ _, _, _ => rfl
  | .bin o l r, h, hc => by
    have hc : (isCmp (lvo o) || (l.cmpOut || r.cmpOut)) = false := hc
    rw [Bool.or_eq_false_iff, Bool.or_eq_false_iff] at hc
    show (isCmp (lvo o) || (_ || _)) = false
    rw [hc.1, Bool.false_and, if_neg Bool.false_ne_true, nrm_cmp l h.2.1 hc.2.1]
    unfold wrapT
    split
    · rfl
    · rw [nrm_cmp r h.2.2.1 hc.2.2]; rfl
  | .cond c t f, h, hc => by
    have hc : (c.cmpOut || (t.cmpOut || f.cmpOut)) = false := hc
    rw [Bool.or_eq_false_iff, Bool.or_eq_false_iff] at hc
    show (c.nrm.cmpOut || (_ || f.nrm.cmpOut)) = false
    rw [nrm_cmp c h.1 hc.1, nrm_cmp f h.2.2.1 hc.2.2]
    unfold wrapT
    split
    · rfl
    · rw [nrm_cmp t h.2.1 hc.2.1]; rfl
theorem nrm_lead : ∀ e : Tr, e.WF → e.cmpOut = false → e.nrm.lead = e.lead
  | .nm _ _, _, _ => rfl
  | .par _ _, _, _ => rfl
  | .bin o l r, h, hc => by
    have hc : (isCmp (lvo o) || (l.cmpOut || r.cmpOut)) = false := hc
    rw [Bool.or_eq_false_iff, Bool.or_eq_false_iff] at hc
    show (if isCmp (lvo o) && isCmp l.lv then Tr.par 0 l.nrm else l.nrm).lead = l.lead
    rw [hc.1, Bool.false_and, if_neg Bool.false_ne_true, nrm_lead l h.2.1 hc.2.1]
  | .cond c t f, h, hc => by
    have hc : (c.cmpOut || (t.cmpOut || f.cmpOut)) = false := hc
    rw [Bool.or_eq_false_iff, Bool.or_eq_false_iff] at hc
    exact nrm_lead c h.1 hc.1
theorem isCmp_out {e : Tr} (h : isCmp e.lv = true) : e.cmpOut = true := by
  cases e with
  | nm | par => exact absurd h (by show ¬ isCmp 100 = true; decide)
  | bin o l r => show (isCmp (lvo o) || _) = true; rw [show isCmp (lvo o) = true from h]; rfl
  | cond => exact absurd h (by show ¬ isCmp 0 = true; decide)
theorem wrapT_sem (q : Int) (e : Tr) (h : e.nrm.sem false = e.sem false) : (wrapT q e e.nrm).sem false = e.sem false := by
  unfold wrapT; split
  · exact h
  · exact h
theorem nrm_sem : ∀ (e : Tr) (s : Bool), e.WF → e.Wds → (s = true → e.cmpOut = false) → e.nrm.sem s = e.sem s
  | .nm k t, s, _, hw, _ => by show neg _ (.str (num (num t))) = _; rw [hw.2.1]; rfl
  | .par k e, s, h, hw, _ => by show neg _ (e.nrm.sem false) = _; rw [nrm_sem e false h hw (fun e => nomatch e)]; rfl
  | .bin o l r, s, h, hw, hs => by
    have hlv := bin_lv h
    have ir := wrapT_sem (lvo o + 1) r (nrm_sem r false h.2.2.1 hw.2 (fun e => nomatch e))
    show (Tr.bin o (if isCmp (lvo o) && isCmp l.lv then .par 0 l.nrm else l.nrm) (wrapT (lvo o + 1) r r.nrm)).sem s = (Tr.bin o l r).sem s
    by_cases h2 : lvo o ≤ 2
    · have : isCmp (lvo o) = false := by
        cases hq : isCmp (lvo o) with
        | false => rfl
        | true => have := (isCmp_iff _).mp hq; omega
      rw [this, Bool.false_and, if_neg Bool.false_ne_true]
      rw [Tr.sem, Tr.sem, ir, if_pos (Or.inl h2), if_pos (Or.inl h2)]
      rw [nrm_sem l s h.2.1 hw.1 (fun e => by
        have := hs e
        rw [show (Tr.bin o l r).cmpOut = (isCmp (lvo o) || (l.cmpOut || r.cmpOut)) from rfl, Bool.or_eq_false_iff, Bool.or_eq_false_iff] at this
        exact this.2.1)]
    · have h3 : 3 ≤ lvo o := by omega
      cases hl : l.cmpOut with
      | true =>
        have hlv2 : ¬ 5 ≤ l.lv := fun e => by rw [strong_cmp l h.2.1 e] at hl; cases hl
        have hle := h.2.2.2.1
        have ho : isCmp (lvo o) = true := (isCmp_iff _).mpr (by omega)
        have hll : isCmp l.lv = true := (isCmp_iff _).mpr (by omega)
        have hsf : s = false := by
          cases s with
          | false => rfl
          | true =>
            have := hs rfl
            rw [show (Tr.bin o l r).cmpOut = (isCmp (lvo o) || (l.cmpOut || r.cmpOut)) from rfl, ho] at this
            cases this
        subst hsf
        rw [ho, hll]
        show (Tr.bin o (.par 0 l.nrm) (wrapT (lvo o + 1) r r.nrm)).sem false = _
        have e2 : (Tr.bin o l r).sem false = .list [.str o, l.sem false, r.sem false] := by rw [Tr.sem, if_pos (Or.inr hl)]
        have e1 : (Tr.bin o (.par 0 l.nrm) (wrapT (lvo o + 1) r r.nrm)).sem false = neg 0 (.list [.str o, l.nrm.sem false, (wrapT (lvo o + 1) r r.nrm).sem false]) := if_neg (fun hh => hh.elim h2 (fun e => nomatch e))
        rw [e1, e2, ir, nrm_sem l false h.2.1 hw.1 (fun e => nomatch e)]; rfl
      | false =>
        have hll : isCmp l.lv = false := by
          cases hq : isCmp l.lv with
          | false => rfl
          | true => rw [isCmp_out hq] at hl; cases hl
        rw [hll, Bool.and_false, if_neg Bool.false_ne_true]
        have n1 : ¬ (lvo o ≤ 2 ∨ l.nrm.cmpOut = true) := fun hh => hh.elim h2 (fun e => by rw [nrm_cmp l h.2.1 hl] at e; cases e)
        have n2 : ¬ (lvo o ≤ 2 ∨ l.cmpOut = true) := fun hh => hh.elim h2 (fun e => by rw [hl] at e; cases e)
        rw [Tr.sem, Tr.sem, ir, if_neg n1, if_neg n2, nrm_lead l h.2.1 hl]
        rw [nrm_sem l true h.2.1 hw.1 (fun _ => hl)]
  | .cond c t f, s, h, hw, hs => by
    show D.list [_, c.nrm.sem s, (wrapT 0 t t.nrm).sem false, f.nrm.sem false] = _
    rw [wrapT_sem 0 t (nrm_sem t false h.2.1 hw.2.1 (fun e => nomatch e)), nrm_sem f false h.2.2.1 hw.2.2 (fun e => nomatch e), nrm_sem c s h.1 hw.1 (fun e => by
      have := hs e
      rw [show (Tr.cond c t f).cmpOut = (c.cmpOut || (t.cmpOut || f.cmpOut)) from rfl, Bool.or_eq_false_iff] at this
      exact this.1)]
    rfl
end Mine
namespace Mine
noncomputable def pnots (k : Nat) : List Str := List.replicate k (tk "not")
/-- the words of Python, brackets as they stand -/
noncomputable def Tr.pf : Tr → List Str
  | .nm k t => pnots k ++ [t]
  | .par k e => pnots k ++ tk "(" :: (e.pf ++ [tk ")"])
  | .bin o l r => l.pf ++ pyOp o :: r.pf
  | .cond c t f => t.pf ++ tk "if" :: (c.pf ++ tk "else" :: f.pf)
noncomputable def ptiers : List (List Str) := [cmps, [tk "+", tk "-"], [tk "*", tk "//", tk "%"]]
/-- the level of a word of Python -/
noncomputable def pyLv : List (Str × Int) := [(tk "or", 1), (tk "and", 2), (tk "==", 3), (tk "!=", 3), (tk "<", 4), (tk ">", 4), (tk "<=", 4), (tk ">=", 4), (tk "+", 5), (tk "-", 5), (tk "*", 6), (tk "//", 6), (tk "%", 6)]
noncomputable def pk (t : Str) : Option Int := pyLv.lookup t
noncomputable def backTab : List (Str × Str) := [(tk "//", tk "/")]
noncomputable def backOp (w : Str) : Str := (backTab.lookup w).getD w
noncomputable def Kw (t : Str) : Prop := t = tk "if" ∨ t = tk "else" ∨ t = tk "not"
inductive PyR : Nat → List Str → D → Prop where
  | cond {n : Nat} {a b c : List Str} {x y z : D} : Bal a → Bal b → (∀ t ∈ oT a, t ≠ tk "if" ∧ t ≠ tk "else") → (∀ t ∈ oT b, t ≠ tk "else") → PyR n b x → PyR n a y → PyR n c z → PyR (n + 1) (a ++ tk "if" :: (b ++ tk "else" :: c)) (.list [.str (tk "?"), x, y, z])
  | or {n : Nat} {a b : List Str} {x y : D} : pl (eqT (tk "if")) (a ++ tk "or" :: b) = [] → (pl (eqT (tk "or")) (a ++ tk "or" :: b)).getLast? = some a.length → PyR n a x → PyR n b y → PyR (n + 1) (a ++ tk "or" :: b) (.list [.str (tk "||"), x, y])
  | and {n : Nat} {a b : List Str} {x y : D} : pl (eqT (tk "if")) (a ++ tk "and" :: b) = [] → pl (eqT (tk "or")) (a ++ tk "and" :: b) = [] → (pl (eqT (tk "and")) (a ++ tk "and" :: b)).getLast? = some a.length → PyR n a x → PyR n b y → PyR (n + 1) (a ++ tk "and" :: b) (.list [.str (tk "&&"), x, y])
  | neg {n : Nat} {r : List Str} {x : D} : pl (eqT (tk "if")) (tk "not" :: r) = [] → pl (eqT (tk "or")) (tk "not" :: r) = [] → pl (eqT (tk "and")) (tk "not" :: r) = [] → PyR n r x → PyR (n + 1) (tk "not" :: r) (.list [.str (tk "!"), x])
  | bin {n : Nat} {a b : List Str} {o : Str} {x y : D} : pl (eqT (tk "if")) (a ++ o :: b) = [] → pl (eqT (tk "or")) (a ++ o :: b) = [] → pl (eqT (tk "and")) (a ++ o :: b) = [] → a ≠ [] → a.head? ≠ some (tk "not") → b.head? ≠ some (tk "not") → (pl (isIn cmps) (a ++ o :: b)).length ≤ 1 → (fnd (a ++ o :: b) ptiers).getLast? = some a.length → PyR n a x → PyR n b y → PyR (n + 1) (a ++ o :: b) (.list [.str (backOp o), x, y])
  | par {n : Nat} {m : List Str} {x : D} : Bal m → PyR n m x → PyR (n + 1) (tk "(" :: (m ++ [tk ")"])) x
  | leaf {n : Nat} {t : Str} : Wd t → PyR (n + 1) [t] (.str t)
theorem PyR.mono {n : Nat} {p : List Str} {d : D} (h : PyR n p d) : ∀ m, n ≤ m → PyR m p d := by
  induction h with
  | cond h1 h2 h3 h4 _ _ _ i1 i2 i3 => intro m hm; obtain ⟨m, rfl⟩ : ∃ k, m = k + 1 := ⟨m - 1, by omega⟩; exact .cond h1 h2 h3 h4 (i1 m (by omega)) (i2 m (by omega)) (i3 m (by omega))
  | or h1 h2 _ _ i1 i2 => intro m hm; obtain ⟨m, rfl⟩ : ∃ k, m = k + 1 := ⟨m - 1, by omega⟩; exact .or h1 h2 (i1 m (by omega)) (i2 m (by omega))
  | and h1 h2 h3 _ _ i1 i2 => intro m hm; obtain ⟨m, rfl⟩ : ∃ k, m = k + 1 := ⟨m - 1, by omega⟩; exact .and h1 h2 h3 (i1 m (by omega)) (i2 m (by omega))
  | neg h1 h2 h3 _ i1 => intro m hm; obtain ⟨m, rfl⟩ : ∃ k, m = k + 1 := ⟨m - 1, by omega⟩; exact .neg h1 h2 h3 (i1 m (by omega))
  | bin h1 h2 h3 h4 h5 h6 h7 h8 _ _ i1 i2 => intro m hm; obtain ⟨m, rfl⟩ : ∃ k, m = k + 1 := ⟨m - 1, by omega⟩; exact .bin h1 h2 h3 h4 h5 h6 h7 h8 (i1 m (by omega)) (i2 m (by omega))
  | par h1 _ i1 => intro m hm; obtain ⟨m, rfl⟩ : ∃ k, m = k + 1 := ⟨m - 1, by omega⟩; exact .par h1 (i1 m (by omega))
  | leaf h1 => intro m hm; obtain ⟨m, rfl⟩ : ∃ k, m = k + 1 := ⟨m - 1, by omega⟩; exact .leaf h1
/-- all atoms are plain words -/
noncomputable def Tr.Ws : Tr → Prop
  | .nm _ t => Wd t ∧ num t = t
  | .par _ e => e.Ws
  | .bin _ l r => l.Ws ∧ r.Ws
  | .cond c t f => c.Ws ∧ t.Ws ∧ f.Ws
theorem wd_ne {x y : Str} (h : Wd x) (hy : ¬ Wd y) : x ≠ y := fun e => hy (e ▸ h)
theorem wd_plain {x : Str} (h : Wd x) : Plain x := ⟨wd_ne h (by decide +kernel), wd_ne h (by decide +kernel)⟩
theorem wd_pk {x : Str} (h : Wd x) : pk x = none := by
  cases hl : pk x with
  | none => rfl
  | some i =>
    exfalso
    have all : ∀ p ∈ pyLv, ¬ Wd p.1 := by unfold pyLv; decide +kernel
    refine all (x, i) ?_ h
    unfold pk at hl
    revert hl
    generalize pyLv = l
    induction l with
    | nil => intro hl; simp at hl
    | cons p l ih =>
      intro hl
      rw [List.lookup_cons] at hl
      split at hl
      · next he => cases hl; rw [eq_of_beq he]; exact .head _
      · exact .tail _ (ih hl)
theorem pk_op {o : Str} {i : Int} (h : lvl o = some i) : pk (pyOp o) = some i := by
  have all : ∀ p ∈ opsTab, pk (pyOp p.1) = some p.2 := by unfold opsTab; decide +kernel
  exact all _ (lvl_mem h)
theorem back_op {o : Str} {i : Int} (h : lvl o = some i) (h3 : 3 ≤ i) : backOp (pyOp o) = o := by
  have all : ∀ p ∈ opsTab, 3 ≤ p.2 → backOp (pyOp p.1) = p.1 := by unfold opsTab; decide +kernel
  exact all _ (lvl_mem h) h3
theorem plain_pyOp {o : Str} {i : Int} (h : lvl o = some i) : Plain (pyOp o) := by
  have all : ∀ p ∈ opsTab, Plain (pyOp p.1) := by unfold opsTab Plain; decide +kernel
  exact all _ (lvl_mem h)
theorem kw_pk : pk (tk "if") = none ∧ pk (tk "else") = none ∧ pk (tk "not") = none := by decide +kernel
theorem plain_pnot : Plain (tk "not") := ⟨by decide +kernel, by decide +kernel⟩
theorem plain_if : Plain (tk "if") := ⟨by decide +kernel, by decide +kernel⟩
theorem plain_else : Plain (tk "else") := ⟨by decide +kernel, by decide +kernel⟩
theorem bal_pnots (k : Nat) : Bal (pnots k) := by
  induction k with
  | zero => exact .nil
  | succ k ih => exact .cons plain_pnot ih
theorem pf_bal : ∀ e : Tr, e.WF → e.Ws → Bal e.pf
  | .nm k _, _, hw => (bal_pnots k).append (.cons (wd_plain hw.1) .nil)
  | .par k e, h, hw => (bal_pnots k).append (pf_bal e h hw).wrap
  | .bin o l r, h, hw => by
    obtain ⟨i, hi⟩ := Option.isSome_iff_exists.mp h.1
    exact (pf_bal l h.2.1 hw.1).append (.cons (plain_pyOp hi) (pf_bal r h.2.2.1 hw.2))
  | .cond c t f, h, hw => (pf_bal t h.2.1 hw.2.1).append (.cons plain_if ((pf_bal c h.1 hw.1).append (.cons plain_else (pf_bal f h.2.2.1 hw.2.2))))
theorem oT_pnots (k : Nat) : oT (pnots k) = pnots k := by
  induction k with
  | zero => rfl
  | succ k ih => show oT (tk "not" :: pnots k) = _; rw [oT_cons plain_pnot, ih]; rfl
theorem mem_pnots {k : Nat} {t : Str} (h : t ∈ pnots k) : t = tk "not" := List.eq_of_mem_replicate h
/-- what stands outside -/
noncomputable def PKind (q : Int) (t : Str) : Prop := t = tk "not" ∨ Wd t ∨ (∃ o i, lvl o = some i ∧ t = pyOp o ∧ q ≤ i) ∨ (q = 0 ∧ (t = tk "if" ∨ t = tk "else"))
theorem PKind.down {q q' : Int} {t : Str} (h : PKind q t) (hq : q' ≤ q) (h0 : 1 ≤ q ∨ q' = 0) : PKind q' t := by
  rcases h with h | h | ⟨o, i, h1, h2, h3⟩ | ⟨h1, h2⟩
  · exact .inl h
  · exact .inr (.inl h)
  · exact .inr (.inr (.inl ⟨o, i, h1, h2, by omega⟩))
  · exact .inr (.inr (.inr ⟨by omega, h2⟩))
theorem pf_kinds : ∀ e : Tr, e.WF → e.Ws → ∀ t ∈ oT e.pf, PKind e.lv t
  | .nm k t, h, hw, u, hu => by
    rw [show (Tr.nm k t).pf = pnots k ++ [t] from rfl, oT_append (bal_pnots k), oT_pnots, oT_cons (wd_plain hw.1)] at hu
    rcases List.mem_append.mp hu with h1 | h1
    · exact .inl (mem_pnots h1)
    · rw [List.mem_singleton.mp h1]; exact .inr (.inl hw.1)
  | .par k e, h, hw, u, hu => by
    rw [show (Tr.par k e).pf = pnots k ++ tk "(" :: (e.pf ++ [tk ")"]) from rfl, oT_append (bal_pnots k), oT_pnots, oT_wrap (pf_bal e h hw), List.append_nil] at hu
    exact .inl (mem_pnots hu)
  | .bin o l r, h, hw, u, hu => by
    have hlv := bin_lv h
    obtain ⟨h1, h2, h3, h4, h5⟩ := h
    obtain ⟨i, hi⟩ := Option.isSome_iff_exists.mp h1
    rw [show (Tr.bin o l r).pf = l.pf ++ pyOp o :: r.pf from rfl, oT_append (pf_bal l h2 hw.1), oT_cons (plain_pyOp hi)] at hu
    show PKind (lvo o) u
    rcases List.mem_append.mp hu with h6 | h6
    · exact (pf_kinds l h2 hw.1 u h6).down h4 (.inl (by omega))
    · rcases List.mem_cons.mp h6 with h6 | h6
      · exact .inr (.inr (.inl ⟨o, i, hi, h6, by rw [lvo_eq hi]; exact Int.le_refl _⟩))
      · exact (pf_kinds r h3 hw.2 u h6).down (by omega) (.inl (by omega))
  | .cond c t f, h, hw, u, hu => by
    obtain ⟨h1, h2, h3, h4⟩ := h
    rw [show (Tr.cond c t f).pf = t.pf ++ tk "if" :: (c.pf ++ tk "else" :: f.pf) from rfl, oT_append (pf_bal t h2 hw.2.1), oT_cons plain_if, oT_append (pf_bal c h1 hw.1), oT_cons plain_else] at hu
    show PKind 0 u
    rcases List.mem_append.mp hu with h6 | h6
    · exact (pf_kinds t h2 hw.2.1 u h6).down (lv_nonneg t) (.inr rfl)
    · rcases List.mem_cons.mp h6 with h6 | h6
      · exact .inr (.inr (.inr ⟨rfl, .inl h6⟩))
      · rcases List.mem_append.mp h6 with h6 | h6
        · exact (pf_kinds c h1 hw.1 u h6).down (lv_nonneg c) (.inr rfl)
        · rcases List.mem_cons.mp h6 with h6 | h6
          · exact .inr (.inr (.inr ⟨rfl, .inr h6⟩))
          · exact (pf_kinds f h3 hw.2.2 u h6).down (lv_nonneg f) (.inr rfl)
theorem PKind.pk {q : Int} {t : Str} (h : PKind q t) {i : Int} (hi : pk t = some i) : q ≤ i ∧ ∃ o, lvl o = some i ∧ t = pyOp o := by
  rcases h with h | h | ⟨o, j, h1, h2, h3⟩ | ⟨h1, h2⟩
  · subst h; rw [kw_pk.2.2] at hi; cases hi
  · rw [wd_pk h] at hi; cases hi
  · subst h2; rw [pk_op h1] at hi; cases hi; exact ⟨h3, o, h1, rfl⟩
  · rcases h2 with rfl | rfl
    · rw [kw_pk.1] at hi; cases hi
    · rw [kw_pk.2.1] at hi; cases hi
theorem PKind.noif {q : Int} {t : Str} (h : PKind q t) (hq : 1 ≤ q) : t ≠ tk "if" ∧ t ≠ tk "else" := by
  rcases h with h | h | ⟨o, j, h1, h2, h3⟩ | ⟨h1, h2⟩
  · subst h; decide +kernel
  · exact ⟨wd_ne h (by decide +kernel), wd_ne h (by decide +kernel)⟩
  · subst h2
    have all : ∀ p ∈ opsTab, pyOp p.1 ≠ tk "if" ∧ pyOp p.1 ≠ tk "else" := by unfold opsTab; decide +kernel
    exact all _ (lvl_mem h1)
  · omega
theorem pk_or : pk (tk "or") = some 1 ∧ pk (tk "and") = some 2 := by decide +kernel
theorem eqT_none {x : Str} {a : List Str} (h : ∀ t ∈ oT a, t ≠ x) : ∀ t ∈ oT a, eqT x t = false := fun t ht => beq_eq_false_iff_ne.mpr (h t ht)
theorem pf_noif {e : Tr} (h : e.WF) (hw : e.Ws) (hl : 1 ≤ e.lv) : pl (eqT (tk "if")) e.pf = [] := pl_nil (eqT_none fun t ht => ((pf_kinds e h hw t ht).noif hl).1)
theorem pf_no {e : Tr} (h : e.WF) (hw : e.Ws) {x : Str} {i : Int} (hx : pk x = some i) (hl : i < e.lv) : ∀ t ∈ oT e.pf, eqT x t = false :=
  eqT_none fun t ht e' => by subst e'; have := ((pf_kinds e h hw t ht).pk hx).1; omega
end Mine
namespace Mine
theorem pk_mem {t : Str} {i : Int} (h : pk t = some i) : (t, i) ∈ pyLv := by
  unfold pk at h
  revert h
  generalize pyLv = l
  induction l with
  | nil => intro hl; simp at hl
  | cons p l ih =>
    intro hl
    rw [List.lookup_cons] at hl
    split at hl
    · next he => cases hl; rw [eq_of_beq he]; exact .head _
    · exact .tail _ (ih hl)
theorem isIn_mem {s : List Str} {t : Str} (h : isIn s t = true) : t ∈ s := by
  unfold isIn at h
  obtain ⟨x, hx, he⟩ := List.any_eq_true.mp h
  rw [← eq_of_beq he]; exact hx
theorem pt_cmps (t : Str) (h : isIn cmps t = true) : pk t = some 3 ∨ pk t = some 4 := by
  have all : ∀ x ∈ cmps, pk x = some 3 ∨ pk x = some 4 := by unfold cmps; decide +kernel
  exact all t (isIn_mem h)
theorem pt_add (t : Str) (h : isIn [tk "+", tk "-"] t = true) : pk t = some 5 := by
  have all : ∀ x ∈ [tk "+", tk "-"], pk x = some 5 := by decide +kernel
  exact all t (isIn_mem h)
theorem pt_mul (t : Str) (h : isIn [tk "*", tk "//", tk "%"] t = true) : pk t = some 6 := by
  have all : ∀ x ∈ [tk "*", tk "//", tk "%"], pk x = some 6 := by decide +kernel
  exact all t (isIn_mem h)
theorem pf_lv {e : Tr} (h : e.WF) (hw : e.Ws) {P : Str → Bool} (hP : ∀ t, P t = true → ∃ i, pk t = some i ∧ i < e.lv) : ∀ t ∈ oT e.pf, P t = false := fun t ht => by
  cases hp : P t with
  | false => rfl
  | true =>
    obtain ⟨i, hi, hl⟩ := hP t hp
    have := ((pf_kinds e h hw t ht).pk hi).1
    omega
theorem withLead_pf (j : Nat) : ∀ e : Tr, e.WF → 1 ≤ e.lv → (e.withLead j).pf = pnots j ++ (e.withLead 0).pf
  | .nm _ _, _, _ => rfl
  | .par _ _, _, _ => rfl
  | .bin o l r, h, _ => by
    have := bin_lv h
    show (l.withLead j).pf ++ _ = pnots j ++ ((l.withLead 0).pf ++ _)
    rw [withLead_pf j l h.2.1 (by have := h.2.2.2.1; omega), List.append_assoc]
  | .cond _ _ _, _, h => by have : (1 : Int) ≤ 0 := h; omega
theorem withLead_Ws (j : Nat) : ∀ e : Tr, e.Ws → (e.withLead j).Ws
  | .nm _ _, h => h
  | .par _ _, h => h
  | .bin _ l _, h => ⟨withLead_Ws j l h.1, h.2⟩
  | .cond c _ _, h => ⟨withLead_Ws j c h.1, h.2⟩
theorem withLead_lead : ∀ e : Tr, e.withLead e.lead = e
  | .nm _ _ => rfl
  | .par _ _ => rfl
  | .bin o l r => by show Tr.bin o (l.withLead l.lead) r = _; rw [withLead_lead l]
  | .cond c t f => by show Tr.cond (c.withLead c.lead) t f = _; rw [withLead_lead c]
theorem pf_head : ∀ e : Tr, e.WF → e.Ws → 1 ≤ e.lv → (e.withLead 0).pf.head? ≠ some (tk "not") ∧ (e.withLead 0).pf ≠ []
  | .nm _ t, _, hw, _ => ⟨by show some t ≠ _; exact fun e => wd_ne hw.1 (by decide +kernel) (Option.some.inj e), by simp [Tr.withLead, Tr.pf]⟩
  | .par _ e, _, _, _ => ⟨by show some (tk "(") ≠ some (tk "not"); decide +kernel, by simp [Tr.withLead, Tr.pf]⟩
  | .bin o l r, h, hw, _ => by
    have := bin_lv h
    have ih := pf_head l h.2.1 hw.1 (by have := h.2.2.2.1; omega)
    show ((l.withLead 0).pf ++ _).head? ≠ _ ∧ ((l.withLead 0).pf ++ _) ≠ []
    cases hl : (l.withLead 0).pf with
    | nil => exact absurd hl ih.2
    | cons a b => rw [hl] at ih; exact ⟨ih.1, by simp⟩
  | .cond _ _ _, _, _, h => by have : (1 : Int) ≤ 0 := h; omega
theorem pf_ne (e : Tr) : e.pf ≠ [] := by cases e <;> simp [Tr.pf]
theorem bin_pfnd {o : Str} {l r : Tr} (h : (Tr.bin o l r).WF) (hw : (Tr.bin o l r).Ws) (h3 : 3 ≤ lvo o) (hn : isCmp (lvo o) = true → 5 ≤ l.lv ∧ 5 ≤ r.lv) :
    (pl (isIn cmps) (l.pf ++ pyOp o :: r.pf)).length ≤ 1 ∧ (fnd (l.pf ++ pyOp o :: r.pf) ptiers).getLast? = some l.pf.length := by
  obtain ⟨h1, h2, h3', h4, h5⟩ := h
  obtain ⟨i, hi⟩ := Option.isSome_iff_exists.mp h1
  have hlo := lvo_eq hi
  have hr := lvl_range hi
  have hp := plain_pyOp hi
  have hb := pf_bal l h2 hw.1
  have tabs : ∀ p ∈ opsTab, 3 ≤ p.2 → isIn cmps (pyOp p.1) = isCmp p.2 ∧ isIn [tk "+", tk "-"] (pyOp p.1) = decide (p.2 = 5) ∧ isIn [tk "*", tk "//", tk "%"] (pyOp p.1) = decide (p.2 = 6) := by unfold opsTab; decide +kernel
  obtain ⟨t1, t2, t3⟩ := tabs _ (lvl_mem hi) (by show 3 ≤ i; omega)
  dsimp only at t1 t2 t3
  have lo : ∀ {P : Str → Bool} {k : Int} (e : Tr), e.WF → e.Ws → (∀ t, P t = true → ∃ j, pk t = some j ∧ j ≤ k) → k < e.lv → ∀ t ∈ oT e.pf, P t = false := fun e he hw hP hk => pf_lv he hw fun t ht => by
    obtain ⟨j, h1, h2⟩ := hP t ht; exact ⟨j, h1, by omega⟩
  have c4 : ∀ t, isIn cmps t = true → ∃ j, pk t = some j ∧ j ≤ 4 := fun t ht => by
    rcases pt_cmps t ht with h | h
    · exact ⟨3, h, by omega⟩
    · exact ⟨4, h, by omega⟩
  have c5 : ∀ t, isIn [tk "+", tk "-"] t = true → ∃ j, pk t = some j ∧ j ≤ 5 := fun t ht => ⟨5, pt_add t ht, by omega⟩
  have c6 : ∀ t, isIn [tk "*", tk "//", tk "%"] t = true → ∃ j, pk t = some j ∧ j ≤ 6 := fun t ht => ⟨6, pt_mul t ht, by omega⟩
  have none_of : ∀ {P : Str → Bool}, (∀ t ∈ oT l.pf, P t = false) → P (pyOp o) = false → (∀ t ∈ oT r.pf, P t = false) → pl P (l.pf ++ pyOp o :: r.pf) = [] := by
    intro P p1 p2 p3
    refine pl_nil fun t ht => ?_
    rw [oT_append hb, oT_cons hp] at ht
    rcases List.mem_append.mp ht with h | h
    · exact p1 t h
    · rcases List.mem_cons.mp h with h | h
      · rw [h]; exact p2
      · exact p3 t h
  by_cases hc : isCmp (lvo o) = true
  · obtain ⟨h6, h7⟩ := hn hc
    have := pl_one hb hp (by rw [t1, ← hlo]; exact hc) (lo l h2 hw.1 c4 (by omega)) (lo r h3' hw.2 c4 (by omega))
    refine ⟨by rw [this]; simp, ?_⟩
    unfold ptiers
    rw [fnd, this, if_neg (by simp)]; rfl
  · have hn4 : ¬ (lvo o = 3 ∨ lvo o = 4) := fun e => hc ((isCmp_iff _).mpr e)
    have h0 : pl (isIn cmps) (l.pf ++ pyOp o :: r.pf) = [] := none_of (lo l h2 hw.1 c4 (by omega)) (by rw [t1, ← hlo]; exact eq_false_of_ne_true hc) (lo r h3' hw.2 c4 (by omega))
    refine ⟨by rw [h0]; simp, ?_⟩
    unfold ptiers
    rw [fnd, if_pos h0]
    by_cases h5' : i = 5
    · have := pl_last (P := isIn [tk "+", tk "-"]) hb hp (by rw [t2]; exact decide_eq_true h5') (lo r h3' hw.2 c5 (by omega))
      rw [fnd, if_neg (fun e => by rw [e] at this; simp at this)]
      exact this
    · have h6' : i = 6 := by omega
      rw [fnd, if_pos (none_of (lo l h2 hw.1 c5 (by omega)) (by rw [t2]; exact decide_eq_false h5') (lo r h3' hw.2 c5 (by omega)))]
      have := pl_last (P := isIn [tk "*", tk "//", tk "%"]) hb hp (by rw [t3]; exact decide_eq_true h6') (lo r h3' hw.2 c6 (by omega))
      rw [fnd, if_neg (fun e => by rw [e] at this; simp at this)]
      exact this
theorem pk_low {x : Str} {i : Int} (hx : pk x = some i) {e : Tr} (h : e.WF) (hw : e.Ws) (hl : i < e.lv) : pl (eqT x) e.pf = [] := pl_nil (pf_no h hw hx hl)
theorem cmp_lv {e : Tr} (hc : e.cmpOut = false) (h : 3 ≤ e.lv) : 5 ≤ e.lv := by
  have : ¬ (e.lv = 3 ∨ e.lv = 4) := fun q => by rw [isCmp_out ((isCmp_iff _).mpr q)] at hc; cases hc
  omega
theorem py_pf : ∀ e : Tr, e.WF → e.Ws → e.NC → e.NB → PyR e.pf.length e.pf (e.sem false) ∧ (3 ≤ e.lv → PyR (e.withLead 0).pf.length (e.withLead 0).pf (e.sem true))
  | .nm k t, h, hw, _, _ => by
    have hB : PyR 1 [t] (.str (num t)) := by rw [hw.2]; exact .leaf hw.1
    have step : ∀ j, PyR (j + 1) (pnots j ++ [t]) (neg j (.str (num t))) := by
      intro j
      induction j with
      | zero => exact hB
      | succ j ih =>
        show PyR _ (Tr.nm (j + 1) t).pf _
        exact .neg (pf_noif (e := .nm (j + 1) t) h hw (by show (1 : Int) ≤ 100; decide)) (pk_low (e := .nm (j + 1) t) pk_or.1 h hw (by show (1 : Int) < 100; decide)) (pk_low (e := .nm (j + 1) t) pk_or.2 h hw (by show (2 : Int) < 100; decide)) ih
    have hlen : (Tr.nm k t).pf.length = k + 1 := by simp [Tr.pf, pnots]
    exact ⟨by rw [hlen]; exact step k, fun _ => hB⟩
  | .par k e, h, hw, hc, hb => by
    obtain ⟨ih, _⟩ := py_pf e h hw hc hb
    have hB : PyR (e.pf.length + 1) (tk "(" :: (e.pf ++ [tk ")"])) (e.sem false) := .par (pf_bal e h hw) ih
    have step : ∀ j, PyR (e.pf.length + 1 + j) (pnots j ++ tk "(" :: (e.pf ++ [tk ")"])) (neg j (e.sem false)) := by
      intro j
      induction j with
      | zero => exact hB
      | succ j ih =>
        show PyR _ (Tr.par (j + 1) e).pf _
        exact .neg (pf_noif (e := .par (j + 1) e) h hw (by show (1 : Int) ≤ 100; decide)) (pk_low (e := .par (j + 1) e) pk_or.1 h hw (by show (1 : Int) < 100; decide)) (pk_low (e := .par (j + 1) e) pk_or.2 h hw (by show (2 : Int) < 100; decide)) ih
    have hlen : (Tr.par k e).pf.length = k + (e.pf.length + 2) := by simp [Tr.pf, pnots]
    exact ⟨(step k).mono _ (by rw [hlen]; omega), fun _ => hB.mono _ (by simp [Tr.withLead, Tr.pf, pnots])⟩
  | .bin o l r, h, hw, hc, hb => by
    have hlv := bin_lv h
    obtain ⟨i1, i2⟩ := py_pf l h.2.1 hw.1 hc.1 hb.1
    obtain ⟨j1, j2⟩ := py_pf r h.2.2.1 hw.2 hc.2.1 hb.2.1
    obtain ⟨i, hi⟩ := Option.isSome_iff_exists.mp h.1
    have hlo := lvo_eq hi
    have hll := h.2.2.2.1
    have hrr := h.2.2.2.2
    have hlen : (Tr.bin o l r).pf.length = l.pf.length + r.pf.length + 1 := by simp [Tr.pf]; omega
    have hlbal := pf_bal l h.2.1 hw.1
    by_cases h2 : lvo o ≤ 2
    · refine ⟨?_, fun h3 => by have : 3 ≤ lvo o := h3; omega⟩
      rw [hlen, Tr.sem, if_pos (Or.inl h2)]
      show PyR _ (l.pf ++ pyOp o :: r.pf) _
      have hnoif := pf_noif (e := .bin o l r) h hw (by show 1 ≤ lvo o; omega)
      rcases low_lvo h.1 h2 with ho | ho
      · subst ho
        have hi1 : lvo (tk "||") = 1 := by decide +kernel
        rw [show pyOp (tk "||") = tk "or" by decide +kernel]
        have hnoif : pl (eqT (tk "if")) (l.pf ++ tk "or" :: r.pf) = [] := hnoif
        refine .or hnoif (pl_last hlbal ⟨by decide +kernel, by decide +kernel⟩ (by decide +kernel) (pf_no h.2.2.1 hw.2 pk_or.1 (by omega))) (i1.mono _ (by omega)) (j1.mono _ (by omega))
      · subst ho
        have hi1 : lvo (tk "&&") = 2 := by decide +kernel
        rw [show pyOp (tk "&&") = tk "and" by decide +kernel]
        have hnoif : pl (eqT (tk "if")) (l.pf ++ tk "and" :: r.pf) = [] := hnoif
        have hnoor : pl (eqT (tk "or")) (l.pf ++ tk "and" :: r.pf) = [] := pk_low (e := .bin (tk "&&") l r) pk_or.1 h hw (by show (1 : Int) < lvo (tk "&&"); omega)
        exact .and hnoif hnoor (pl_last hlbal ⟨by decide +kernel, by decide +kernel⟩ (by decide +kernel) (pf_no h.2.2.1 hw.2 pk_or.2 (by omega))) (i1.mono _ (by omega)) (j1.mono _ (by omega))
    · have h3 : 3 ≤ lvo o := by omega
      have hnc : l.cmpOut = false := by
        by_cases hq : isCmp (lvo o) = true
        · exact (hc.2.2 hq).1
        · refine strong_cmp l h.2.1 ?_
          have : ¬ (lvo o = 3 ∨ lvo o = 4) := fun q => hq ((isCmp_iff _).mpr q)
          omega
      have hsem : ∀ s, (Tr.bin o l r).sem s = neg (if s then 0 else l.lead) (.list [.str o, l.sem true, r.sem false]) := fun s => by
        rw [Tr.sem, if_neg]; rintro (q | q)
        · omega
        · rw [hnc] at q; cases q
      have hW0 := withLead_WF 0 _ h
      have hWs0 := withLead_Ws 0 _ hw
      have hl1 : 1 ≤ l.lv := by omega
      have hr1 : 1 ≤ r.lv := by omega
      have hcc : isCmp (lvo o) = true → 5 ≤ (l.withLead 0).lv ∧ 5 ≤ r.lv := fun q => ⟨by rw [withLead_lv]; exact cmp_lv hnc (by omega), cmp_lv (hc.2.2 q).2 (by omega)⟩
      have hB : PyR ((l.withLead 0).pf.length + r.pf.length + 1) ((l.withLead 0).pf ++ pyOp o :: r.pf) (.list [.str o, l.sem true, r.sem false]) := by
        obtain ⟨f1, f2⟩ := bin_pfnd (o := o) (l := l.withLead 0) (r := r) hW0 hWs0 h3 hcc
        have n1 := pf_noif hW0 hWs0 (by rw [withLead_lv]; show 1 ≤ lvo o; omega)
        have n2 := pk_low pk_or.1 hW0 hWs0 (by rw [withLead_lv]; show 1 < lvo o; omega)
        have n3 := pk_low pk_or.2 hW0 hWs0 (by rw [withLead_lv]; show 2 < lvo o; omega)
        have hd := pf_head l h.2.1 hw.1 hl1
        have hr0 : r = r.withLead 0 := by have := withLead_lead r; rw [hb.2.2 h3] at this; exact this.symm
        have hd2 : r.pf.head? ≠ some (tk "not") := by rw [hr0]; exact (pf_head r h.2.2.1 hw.2 hr1).1
        have := PyR.bin (n := (l.withLead 0).pf.length + r.pf.length) n1 n2 n3 hd.2 hd.1 hd2 f1 f2 ((i2 (by omega)).mono _ (by omega)) (j1.mono _ (by omega))
        rw [back_op hi (by omega)] at this
        exact this
      have step : ∀ j, PyR ((l.withLead 0).pf.length + r.pf.length + 1 + j) ((l.withLead j).pf ++ pyOp o :: r.pf) (neg j (.list [.str o, l.sem true, r.sem false])) := by
        intro j
        induction j with
        | zero => exact hB
        | succ j ih =>
          have e1 : (l.withLead (j + 1)).pf = tk "not" :: (l.withLead j).pf := by rw [withLead_pf _ l h.2.1 hl1, withLead_pf j l h.2.1 hl1]; rfl
          have hW := withLead_WF (j + 1) _ h
          have hWs := withLead_Ws (j + 1) _ hw
          have n1 := pf_noif hW hWs (by rw [withLead_lv]; show 1 ≤ lvo o; omega)
          have n2 := pk_low pk_or.1 hW hWs (by rw [withLead_lv]; show 1 < lvo o; omega)
          have n3 := pk_low pk_or.2 hW hWs (by rw [withLead_lv]; show 2 < lvo o; omega)
          have e2 : ((Tr.bin o l r).withLead (j + 1)).pf = tk "not" :: ((l.withLead j).pf ++ pyOp o :: r.pf) := by
            show (l.withLead (j + 1)).pf ++ _ = _; rw [e1]; rfl
          rw [e2] at n1 n2 n3
          rw [e1]
          exact .neg n1 n2 n3 ih
      have hlead : l.pf.length = l.lead + (l.withLead 0).pf.length := by
        have := withLead_pf l.lead l h.2.1 hl1
        rw [withLead_lead] at this
        rw [this]; simp [pnots]
      refine ⟨?_, fun _ => ?_⟩
      · rw [hsem, if_neg Bool.false_ne_true, hlen]
        have := step l.lead
        rw [withLead_lead] at this
        exact this.mono _ (by omega)
      · rw [hsem, if_pos rfl]
        exact hB.mono _ (by simp [Tr.withLead, Tr.pf]; omega)
  | .cond c t f, h, hw, hc, hb => by
    obtain ⟨i1, _⟩ := py_pf c h.1 hw.1 hc.1 hb.1
    obtain ⟨i2, _⟩ := py_pf t h.2.1 hw.2.1 hc.2.1 hb.2.1
    obtain ⟨i3, _⟩ := py_pf f h.2.2.1 hw.2.2 hc.2.2.1 hb.2.2
    have hlen : (Tr.cond c t f).pf.length = c.pf.length + t.pf.length + f.pf.length + 1 + 1 := by simp [Tr.pf]; omega
    refine ⟨?_, fun h3 => by have : (3 : Int) ≤ 0 := h3; omega⟩
    rw [hlen]
    exact .cond (pf_bal t h.2.1 hw.2.1) (pf_bal c h.1 hw.1) (fun u hu => (pf_kinds t h.2.1 hw.2.1 u hu).noif hc.2.2.2) (fun u hu => ((pf_kinds c h.1 hw.1 u hu).noif h.2.2.2).2) (i1.mono _ (by omega)) (i2.mono _ (by omega)) (i3.mono _ (by omega))
end Mine
namespace Mine
theorem flatMap_free (c : Nat) (z : List Nat) : ∀ l : List Nat, c ∉ l → l.flatMap (fun k => if k = c then z else [k]) = l
  | [], _ => rfl
  | k :: r, h => by
    have h1 : ¬ k = c := fun e => h (e ▸ List.mem_cons_self ..)
    rw [List.flatMap_cons, if_neg h1, flatMap_free c z r fun m => h (List.mem_cons_of_mem _ m)]; rfl
theorem flatMap_join (c : Nat) (z : Str) : ∀ parts : List Str, (∀ p ∈ parts, c ∉ p.cps.toList) → (Str.join ⟨#[c]⟩ parts).cps.toList.flatMap (fun k => if k = c then z.cps.toList else [k]) = (Str.join z parts).cps.toList
  | [], _ => rfl
  | [p], h => flatMap_free c _ _ (h p (List.mem_singleton.mpr rfl))
  | p :: q :: r, h => by
    have ih := flatMap_join c z (q :: r) fun a ha => h a (List.mem_cons_of_mem _ ha)
    show (p ++ ⟨#[c]⟩ ++ Str.join ⟨#[c]⟩ (q :: r)).cps.toList.flatMap _ = (p ++ z ++ Str.join z (q :: r)).cps.toList
    simp only [Str.cps_append, Array.toList_append]
    rw [List.flatMap_append, List.flatMap_append, ih, flatMap_free c _ _ (h p (List.mem_cons_self ..))]
    simp
theorem replace_flat (x z : Str) (c : Nat) : (Txt.replace x ⟨#[c]⟩ z).cps.toList = x.cps.toList.flatMap (fun k => if k = c then z.cps.toList else [k]) := by
  rw [StrLaws.replace_one, ← flatMap_join c z _ (StrLaws.split_free x c), StrLaws.join_split]
/-- ( and ) set apart -/
noncomputable def ex (l : List Nat) : List Nat := l.flatMap fun c => if c = 40 then [40, 32] else if c = 41 then [32, 41] else [c]
noncomputable def X (x : Str) : List Nat := ex x.cps.toList
theorem X_append (a b : Str) : X (a ++ b) = X a ++ X b := by
  unfold X ex; rw [Str.cps_append, Array.toList_append, List.flatMap_append]
noncomputable def apart (x : Str) : Str := Txt.replace (Txt.replace x (tk "(") (tk "( ")) (tk ")") (tk " )")
theorem apart_X (x : Str) : (apart x).cps.toList = X x := by
  have e1 : tk "(" = ⟨#[40]⟩ := by decide +kernel
  have e2 : tk ")" = ⟨#[41]⟩ := by decide +kernel
  have e3 : (tk "( ").cps.toList = [40, 32] := by decide +kernel
  have e4 : (tk " )").cps.toList = [32, 41] := by decide +kernel
  unfold apart X ex
  rw [e1, e2, replace_flat, replace_flat, e3, e4, List.flatMap_assoc]
  congr 1
  funext c
  by_cases h : c = 40
  · subst h; rfl
  · rw [if_neg h, if_neg h]; simp
/-- a row of letters spells the words -/
noncomputable def Sp (l : List Nat) (ws : List Str) : Prop := ∃ W0 w, ws = W0 ++ [w] ∧ w.length ≠ 0 ∧ ∀ us, l.foldl KWd.step (us, Str.empty) = (us ++ W0, w)
theorem space32 : Unicode.isSpace 32 = true := by decide +kernel
theorem Sp.cat {a b : List Nat} {A B : List Str} (ha : Sp a A) (hb : Sp b B) : Sp (a ++ 32 :: b) (A ++ B) := by
  obtain ⟨A0, w, rfl, hw, h1⟩ := ha
  obtain ⟨B0, v, rfl, hv, h2⟩ := hb
  refine ⟨A0 ++ [w] ++ B0, v, by simp, hv, fun us => ?_⟩
  rw [List.foldl_append, h1, List.foldl_cons]
  rw [show KWd.step (us ++ A0, w) 32 = (us ++ A0 ++ [w], Str.empty) by unfold KWd.step; rw [if_pos space32, if_neg hw]]
  rw [h2]; simp
theorem foldl_run : ∀ (l : List Nat) (us : List Str) (r : Str), (∀ c ∈ l, Unicode.isSpace c = false) → l.foldl KWd.step (us, r) = (us, ⟨r.cps ++ l.toArray⟩)
  | [], us, r, _ => by simp
  | c :: l, us, r, h => by
    rw [List.foldl_cons]
    rw [show KWd.step (us, r) c = (us, r ++ ⟨#[c]⟩) by unfold KWd.step; rw [if_neg (by rw [h c (List.mem_cons_self ..)]; exact Bool.false_ne_true)]]
    rw [foldl_run l us _ fun d hd => h d (List.mem_cons_of_mem _ hd), Str.cps_append]
    congr 2
    simp
theorem Sp.word {w : Str} (hw : w.length ≠ 0) (h : ∀ c ∈ w.cps.toList, Unicode.isSpace c = false) : Sp w.cps.toList [w] :=
  ⟨[], w, rfl, hw, fun us => by
    rw [foldl_run _ _ _ h, List.append_nil]
    congr 1
    show (⟨#[] ++ w.cps.toList.toArray⟩ : Str) = w
    cases w; simp⟩
theorem Sp.words {x : Str} {ws : List Str} (h : Sp x.cps.toList ws) : Txt.words x = ws := by
  obtain ⟨W0, w, rfl, hw, h1⟩ := h
  have : KWd.scan x = (W0, w) := by unfold KWd.scan; rw [h1]; rfl
  rw [KWd.words_of this, if_neg hw]
/-- a written word without brackets -/
theorem Sp.lit {w : Str} (h : w.length ≠ 0 ∧ ∀ c ∈ w.cps.toList, Unicode.isSpace c = false ∧ c ≠ 40 ∧ c ≠ 41) : Sp (X w) [w] := by
  have : X w = w.cps.toList := by
    unfold X ex
    have := fun c hc => (h.2 c hc).2
    generalize w.cps.toList = l at this
    induction l with
    | nil => rfl
    | cons c l ih =>
      have hc := this c (.head _)
      rw [List.flatMap_cons, if_neg hc.1, if_neg hc.2, ih fun d hd => this d (.tail _ hd)]; rfl
  rw [this]; exact Sp.word h.1 fun c hc => (h.2 c hc).1
theorem digit_nosp {c : Nat} (h : c = 110 ∨ (48 ≤ c ∧ c ≤ 57)) : Unicode.isSpace c = false ∧ c ≠ 40 ∧ c ≠ 41 := by
  refine ⟨?_, by omega, by omega⟩
  have : c = 110 ∨ c = 48 ∨ c = 49 ∨ c = 50 ∨ c = 51 ∨ c = 52 ∨ c = 53 ∨ c = 54 ∨ c = 55 ∨ c = 56 ∨ c = 57 := by omega
  rcases this with rfl | rfl | rfl | rfl | rfl | rfl | rfl | rfl | rfl | rfl | rfl <;> decide +kernel
theorem Sp.wd {w : Str} (h : Wd w) : Sp (X w) [w] := Sp.lit ⟨fun e => h.1 (by
  have : w.cps.toList.length = 0 := by rw [Array.length_toList]; exact e
  exact List.length_eq_zero_iff.mp this), fun c hc => digit_nosp (h.2 c hc)⟩
theorem X_sp : X (tk " ") = [32] := by decide +kernel
theorem X_lp : X (tk "(") = [40, 32] := by decide +kernel
theorem X_rp : X (tk ")") = [32, 41] := by decide +kernel
theorem Sp.par {x : Str} {ws : List Str} (h : Sp (X x) ws) : Sp (X (tk "(" ++ x ++ tk ")")) (tk "(" :: (ws ++ [tk ")"])) := by
  rw [X_append, X_append, X_lp, X_rp]
  have h1 : Sp [40] [tk "("] := by
    have := Sp.word (w := tk "(") (by decide +kernel) (by decide +kernel)
    exact this
  have h2 : Sp [41] [tk ")"] := by
    have := Sp.word (w := tk ")") (by decide +kernel) (by decide +kernel)
    exact this
  have := h1.cat (h.cat h2)
  simpa using this
theorem Sp.nots {x : Str} {ws : List Str} (h : Sp (X x) ws) : ∀ k, Sp (X (notTxt k ++ x)) (pnots k ++ ws) := by
  have h1 : Sp (X (tk "not")) [tk "not"] := Sp.lit (by decide +kernel)
  have key : ∀ k (x : Str) ws, Sp (X x) ws → Sp (X (notTxt k ++ x)) (pnots k ++ ws) := by
    intro k
    induction k with
    | zero => intro x ws h; rw [X_append, show X (notTxt 0) = [] by decide +kernel]; exact h
    | succ k ih =>
      intro x ws h
      have := ih (tk "not " ++ x) (tk "not" :: ws) (by
        rw [X_append, show X (tk "not ") = X (tk "not") ++ [32] by decide +kernel]
        have := h1.cat h
        simpa using this)
      have e : pnots (k + 1) ++ ws = pnots k ++ tk "not" :: ws := by
        unfold pnots; rw [List.replicate_succ']; simp
      rw [e]
      have e2 : X (notTxt (k + 1) ++ x) = X (notTxt k ++ (tk "not " ++ x)) := by
        rw [X_append, X_append, X_append, show notTxt (k + 1) = notTxt k ++ tk "not " from rfl, X_append, List.append_assoc]
      rw [e2]; exact this
  intro k
  exact key k x ws h
theorem Sp.three {x y : Str} {o : Str} {xs ys : List Str} (h1 : Sp (X x) xs) (h2 : Sp (X o) [o]) (h3 : Sp (X y) ys) : Sp (X (x ++ tk " " ++ o ++ tk " " ++ y)) (xs ++ o :: ys) := by
  simp only [X_append, X_sp]
  have := h1.cat (h2.cat h3)
  simpa using this
theorem op_lit {o : Str} {i : Int} (h : lvl o = some i) : Sp (X (pyOp o)) [pyOp o] := by
  have all : ∀ p ∈ opsTab, (pyOp p.1).length ≠ 0 ∧ ∀ c ∈ (pyOp p.1).cps.toList, Unicode.isSpace c = false ∧ c ≠ 40 ∧ c ≠ 41 := by unfold opsTab; decide +kernel
  exact Sp.lit (all _ (lvl_mem h))
theorem Sp.wrap {q : Int} {e : Tr} (h : Sp (X e.tx) e.nrm.pf) : Sp (X (wrap q e e.tx)) (wrapT q e e.nrm).pf := by
  unfold Mine.wrap wrapT
  split
  · exact h.par
  · exact h
theorem Sp.tx : ∀ e : Tr, e.WF → e.Wds → Sp (X e.tx) e.nrm.pf
  | .nm k t, _, hw => Sp.nots (Sp.wd hw.1) k
  | .par k e, h, hw => by
    have := Sp.nots (Sp.tx e h hw).par k
    show Sp (X (notTxt k ++ tk "(" ++ e.tx ++ tk ")")) (pnots k ++ tk "(" :: (e.nrm.pf ++ [tk ")"]))
    rw [X_append, X_append, X_append] at this ⊢
    simpa using this
  | .bin o l r, h, hw => by
    obtain ⟨i, hi⟩ := Option.isSome_iff_exists.mp h.1
    have i1 := Sp.tx l h.2.1 hw.1
    have hl : Sp (X (if isCmp (lvo o) && isCmp l.lv then paren l.tx else l.tx)) (if isCmp (lvo o) && isCmp l.lv then Tr.par 0 l.nrm else l.nrm).pf := by
      split
      · exact i1.par
      · exact i1
    exact Sp.three hl (op_lit hi) (Sp.tx r h.2.2.1 hw.2).wrap
  | .cond c t f, h, hw => by
    have h1 : Sp (X (tk "if")) [tk "if"] := Sp.lit (by decide +kernel)
    have h2 : Sp (X (tk "else")) [tk "else"] := Sp.lit (by decide +kernel)
    have := (Sp.tx t h.2.1 hw.2.1).wrap (q := 0) |>.cat (h1.cat ((Sp.tx c h.1 hw.1).cat (h2.cat (Sp.tx f h.2.2.1 hw.2.2))))
    show Sp (X (Mine.wrap 0 t t.tx ++ tk " if " ++ c.tx ++ tk " else " ++ f.tx)) ((wrapT 0 t t.nrm).pf ++ tk "if" :: (c.nrm.pf ++ tk "else" :: f.nrm.pf))
    simp only [X_append, show X (tk " if ") = 32 :: (X (tk "if") ++ [32]) by decide +kernel, show X (tk " else ") = 32 :: (X (tk "else") ++ [32]) by decide +kernel]
    simpa using this
/-- the words of a text -/
theorem words_txt {q : Int} {e : Tr} (h : e.WF) (hw : e.Wds) : Txt.words (apart (e.txt q)) = (e.nrmq q).pf := by
  refine Sp.words ?_
  rw [apart_X]
  exact (Sp.tx e h hw).wrap
end Mine
namespace Mine
structure Gd (t : Str) : Prop where
  tok : Tok t
  sm : Small t
  ok : PyData.strOk t = true
  atm : Atm t → Wd (num t) ∧ num (num t) = num t ∧ Atm (num t) ∧ PyData.strOk (num t) = true
noncomputable def atmB (t : Str) : Bool := t == tk "n" || Txt.isdigit t
noncomputable def gdB (t : Str) : Bool :=
  decide (t.length ≤ 64) && PyData.strOk t &&
  (match PySem.intText? t with
    | none => !Txt.isdigit t
    | some n => Txt.isdigit t && decide (0 ≤ n) && decide (n < 10 ^ 10) && decide ((dec n).length ≤ 64) && (dec n == num t)) &&
  (!atmB t || (decide (Wd (num t)) && (num (num t) == num t) && atmB (num t) && PyData.strOk (num t)))
theorem atmB_iff (t : Str) : atmB t = true ↔ Atm t := by
  unfold atmB Atm
  rw [Bool.or_eq_true, beq_iff_eq]
theorem Gd.of {t : Str} (h : gdB t = true) : Gd t := by
  unfold gdB at h
  simp only [Bool.and_eq_true] at h
  obtain ⟨⟨⟨h1, h2⟩, h3⟩, h4⟩ := h
  refine ⟨⟨?_, ?_⟩, ⟨of_decide_eq_true h1, ?_⟩, h2, ?_⟩
  · cases hi : PySem.intText? t with
    | none => rw [hi] at h3; simpa using h3
    | some n => rw [hi] at h3; simp only [Bool.and_eq_true] at h3; simpa using h3.1.1.1.1
  · intro n hi
    rw [hi] at h3; simp only [Bool.and_eq_true] at h3
    exact eq_of_beq h3.2
  · intro n hi
    rw [hi] at h3; simp only [Bool.and_eq_true, decide_eq_true_eq] at h3
    exact ⟨h3.1.1.1.2, h3.1.1.2, h3.1.2⟩
  · intro ha
    rw [(atmB_iff t).mpr ha] at h4
    simp only [Bool.not_true, Bool.false_or, Bool.and_eq_true, decide_eq_true_eq] at h4
    exact ⟨h4.1.1.1, eq_of_beq h4.1.1.2, (atmB_iff _).mp h4.1.2, h4.2⟩
noncomputable def numTok (a b : Int) : Str := Txt.mul (tk "0") a ++ dec b
theorem numTok_gd {a b : Int} (ha : 0 ≤ a) (ha' : a < 3) (hb : 0 ≤ b) (hb' : b < 130) : Gd (numTok a b) ∧ Txt.isdigit (numTok a b) = true := by
  have all : ∀ a : _root_.Fin 3, ∀ b : _root_.Fin 130, (gdB (numTok (a.val : Int) (b.val : Int)) && Txt.isdigit (numTok (a.val : Int) (b.val : Int))) = true := by decide +kernel
  have := all ⟨a.toNat, by omega⟩ ⟨b.toNat, by omega⟩
  dsimp only at this
  rw [Int.toNat_of_nonneg ha, Int.toNat_of_nonneg hb, Bool.and_eq_true] at this
  exact ⟨Gd.of this.1, this.2⟩
noncomputable def fixed : List Str := [tk "n", tk "(", tk ")", tk "!", tk "?", tk ":", tk "", tk "7", tk "||", tk "&&", tk "==", tk "!=", tk "<", tk ">", tk "<=", tk ">=", tk "+", tk "-", tk "*", tk "/", tk "%"]
theorem fixed_gd : ∀ t ∈ fixed, Gd t := fun t ht => Gd.of (by
  have all : ∀ t ∈ fixed, gdB t = true := by unfold fixed; decide +kernel
  exact all t ht)
end Mine
namespace Mine
noncomputable def fOps : List Str := [tk "||", tk "&&", tk "==", tk "!=", tk "<", tk ">", tk "<=", tk ">=", tk "+", tk "-", tk "*", tk "/", tk "%", tk "<", tk "==", tk ">=", tk "&&", tk "||", tk "-"]
noncomputable def ftok (lim : Int) (g : List Str → Bool) (row opened : List Str) (x : Int) : Str × List Str :=
  if due row = true then
    if 5 ≤ x.fmod 16 ∧ x.fmod 16 < 9 then (numTok ((x.fdiv 2080).fmod 3) ((x.fdiv 16).fmod 130), opened)
    else if 9 ≤ x.fmod 16 ∧ x.fmod 16 < lim then (tk "(", opened ++ [tk "("])
    else if lim ≤ x.fmod 16 ∧ g row = true then (tk "!", opened)
    else (tk "n", opened)
  else if x.fmod 32 < 19 then ((fOps[(x.fmod 32).toNat]?).getD (tk "n"), opened)
  else if x.fmod 32 < 23 ∨ opened = [] then (tk "?", opened ++ [tk "?"])
  else if opened.getLast? = some (tk "(") then (tk ")", opened.dropLast)
  else (tk ":", opened.dropLast)
noncomputable def fstep (lim : Int) (g : List Str → Bool) (p : List Str × List Str) (x : Int) : List Str × List Str := (p.1 ++ [(ftok lim g p.1 p.2 x).1], (ftok lim g p.1 p.2 x).2)
/-- what closes: the last opened comes first -/
noncomputable def closers : List Str → List Str
  | [] => []
  | x :: r => if x = tk "(" then tk ")" :: closers r else tk ":" :: tk "n" :: closers r
noncomputable def closeUp (p : List Str × List Str) : List Str := p.1 ++ ((if due p.1 then [tk "n"] else []) ++ closers p.2.reverse)
noncomputable def form (lim : Int) (g : List Str → Bool) (cells : List Int) : List Str := closeUp (cells.foldl (fstep lim g) ([], []))
theorem due_snoc (row : List Str) (t : Str) : due (row ++ [t]) = (t != tk "n" && (t != tk ")" && !Txt.isdigit t)) := by
  unfold due; simp
structure Inv (n : Nat) (row opened : List Str) : Prop where
  wk : ∀ tail, wk (-1) [] true (row ++ tail) = wk (-1) opened.reverse (due row) tail
  gd : ∀ t ∈ row, Gd t
  len : row.length = n
  olen : opened.length ≤ n
  opn : ∀ x ∈ opened, x = tk "(" ∨ x = tk "?"
theorem Inv.nil : Inv 0 [] [] := ⟨fun _ => rfl, (by intro t h; cases h), rfl, Nat.le_refl _, (by intro t h; cases h)⟩
theorem wk_atom {p : Int} {st : List Str} {t : Str} (h : Atm t) (tail : List Str) : Mine.wk p st true (t :: tail) = Mine.wk p st false tail := by
  rw [Mine.wk, if_neg, if_pos (show t = tk "n" ∨ Txt.isdigit t = true from h)]
  intro e; subst e
  rcases h with h | h
  · exact absurd h (by decide +kernel)
  · exact absurd h (by decide +kernel)
theorem wk_open {p : Int} {st : List Str} (tail : List Str) : Mine.wk p st true (tk "(" :: tail) = Mine.wk p (tk "(" :: st) true tail := by rw [Mine.wk, if_pos rfl]
theorem wk_bang {p : Int} {st : List Str} (tail : List Str) : Mine.wk p st true (tk "!" :: tail) = Mine.wk p st true tail := by
  rw [Mine.wk, if_neg (by decide +kernel), if_neg (by decide +kernel), if_pos rfl]
theorem wk_close {p : Int} {st : List Str} (tail : List Str) : Mine.wk p (tk "(" :: st) false (tk ")" :: tail) = Mine.wk p st false tail := by
  rw [Mine.wk, if_neg (by rw [lvo_none lvl_c]; simp), if_neg (fun h => absurd h.1 (by decide +kernel)), if_pos rfl, if_pos rfl]
theorem wk_colon {p : Int} {st : List Str} (tail : List Str) : Mine.wk p (tk "?" :: st) false (tk ":" :: tail) = Mine.wk p st true tail := by
  rw [Mine.wk, if_neg (by rw [lvo_none lvl_d]; simp), if_neg (fun h => absurd h.1 (by decide +kernel)), if_neg (by decide +kernel), if_pos rfl]
theorem atm_due (row : List Str) {t : Str} (h : Atm t) : due (row ++ [t]) = false := by
  rw [due_snoc]
  rcases h with h | h
  · subst h; simp
  · rw [h]; simp
theorem fx {t : Str} (h : t ∈ fixed) : Gd t := fixed_gd t h
theorem fOps_ok : ∀ k < 19, ∃ t, fOps[k]? = some t ∧ t ∈ fixed ∧ (lvl t).isSome = true := by
  have all : ∀ k : _root_.Fin 19, (fOps[k.val]?).elim false (fun t => decide (t ∈ fixed) && (lvl t).isSome) = true := by unfold fOps fixed; decide +kernel
  intro k hk
  have := all ⟨k, hk⟩
  dsimp only at this
  cases h : fOps[k]? with
  | none => rw [h] at this; cases this
  | some t => rw [h] at this; simp only [Option.elim, Bool.and_eq_true, decide_eq_true_eq] at this; exact ⟨t, rfl, this⟩
theorem fmod_range (x : Int) {m : Int} (hm : 0 < m) : 0 ≤ x.fmod m ∧ x.fmod m < m := by
  rw [Int.fmod_eq_emod_of_nonneg x (Int.le_of_lt hm)]
  exact ⟨Int.emod_nonneg x (by omega), Int.emod_lt_of_pos x hm⟩
theorem Inv.put {n : Nat} {row opened : List Str} (h : Inv n row opened) {t : Str} {opened' : List Str} (ht : Gd t) (ho : opened'.length ≤ n + 1) (hp : ∀ x ∈ opened', x = tk "(" ∨ x = tk "?")
    (hw : ∀ tail, Mine.wk (-1) opened.reverse (due row) (t :: tail) = Mine.wk (-1) opened'.reverse (due (row ++ [t])) tail) : Inv (n + 1) (row ++ [t]) opened' := by
  refine ⟨fun tail => ?_, fun u hu => ?_, by simp [h.len], ho, hp⟩
  · rw [List.append_assoc, h.wk]; exact hw tail
  · rcases List.mem_append.mp hu with q | q
    · exact h.gd u q
    · rw [List.mem_singleton.mp q]; exact ht
theorem Inv.step {lim : Int} {g : List Str → Bool} {n : Nat} {row opened : List Str} (h : Inv n row opened) (x : Int) : Inv (n + 1) (fstep lim g (row, opened) x).1 (fstep lim g (row, opened) x).2 := by
  have hol := h.olen
  have push : ∀ y, (y = tk "(" ∨ y = tk "?") → ∀ z ∈ opened ++ [y], z = tk "(" ∨ z = tk "?" := fun y hy z hz => by
    rcases List.mem_append.mp hz with q | q
    · exact h.opn z q
    · rw [List.mem_singleton.mp q]; exact hy
  show Inv (n + 1) (row ++ [(ftok lim g row opened x).1]) (ftok lim g row opened x).2
  unfold ftok
  have r16 := fmod_range x (m := 16) (by decide)
  have r32 := fmod_range x (m := 32) (by decide)
  split
  · next hd =>
    split
    · have hn := numTok_gd (fmod_range (x.fdiv 2080) (m := 3) (by decide)).1 (fmod_range (x.fdiv 2080) (m := 3) (by decide)).2 (fmod_range (x.fdiv 16) (m := 130) (by decide)).1 (fmod_range (x.fdiv 16) (m := 130) (by decide)).2
      dsimp only
      refine h.put hn.1 (by omega) h.opn fun tail => ?_
      rw [hd, atm_due row (.inr hn.2)]; exact wk_atom (.inr hn.2) tail
    · split
      · dsimp only
        refine h.put (fx (by decide +kernel)) (by simp; omega) (push _ (.inl rfl)) fun tail => ?_
        rw [hd, due_snoc, show (tk "(" != tk "n" && (tk "(" != tk ")" && !Txt.isdigit (tk "("))) = true by decide +kernel, List.reverse_append]
        exact wk_open tail
      · split
        · dsimp only
          refine h.put (fx (by decide +kernel)) (by omega) h.opn fun tail => ?_
          rw [hd, due_snoc, show (tk "!" != tk "n" && (tk "!" != tk ")" && !Txt.isdigit (tk "!"))) = true by decide +kernel]
          exact wk_bang tail
        · dsimp only
          refine h.put (fx (by decide +kernel)) (by omega) h.opn fun tail => ?_
          rw [hd, atm_due row (.inl rfl)]; exact wk_atom (.inl rfl) tail
  · next hd =>
    have hd : due row = false := eq_false_of_ne_true hd
    split
    · obtain ⟨t, ht, hf, hl⟩ := fOps_ok (x.fmod 32).toNat (by omega)
      obtain ⟨i, hi⟩ := Option.isSome_iff_exists.mp hl
      rw [ht]
      refine h.put (fx hf) (by show opened.length ≤ n + 1; omega) h.opn fun tail => ?_
      have : due (row ++ [t]) = true := by
        rw [due_snoc]
        have all : ∀ p ∈ opsTab, (p.1 != tk "n" && (p.1 != tk ")" && !Txt.isdigit p.1)) = true := by unfold opsTab; decide +kernel
        exact all _ (lvl_mem hi)
      rw [hd]
      show Mine.wk (-1) _ false (t :: tail) = Mine.wk (-1) _ (due (row ++ [t])) tail
      rw [this]
      have := lvl_range hi
      exact wk_op (q := -1) (.inr (.inl (Int.le_refl _))) hi (by omega)
    · split
      · dsimp only
        refine h.put (fx (by decide +kernel)) (by simp; omega) (push _ (.inr rfl)) fun tail => ?_
        rw [hd, due_snoc, show (tk "?" != tk "n" && (tk "?" != tk ")" && !Txt.isdigit (tk "?"))) = true by decide +kernel, List.reverse_append]
        exact wk_q (q := -1) (.inr (.inl (Int.le_refl _))) (by decide)
      · next hne =>
        have hne : opened ≠ [] := fun e => hne (.inr e)
        obtain ⟨o', y, rfl⟩ : ∃ o' y, opened = o' ++ [y] := ⟨opened.dropLast, opened.getLast hne, (List.dropLast_concat_getLast hne).symm⟩
        have hy := h.opn y (by simp)
        have ho' : ∀ z ∈ o', z = tk "(" ∨ z = tk "?" := fun z hz => h.opn z (by simp [hz])
        simp only [List.length_append, List.length_singleton] at hol
        split
        · next hl =>
          have hy : y = tk "(" := by simpa using hl
          subst hy
          dsimp only
          refine h.put (fx (by decide +kernel)) (by simp; omega) (by simpa using ho') fun tail => ?_
          rw [hd, due_snoc, show (tk ")" != tk "n" && (tk ")" != tk ")" && !Txt.isdigit (tk ")"))) = false by decide +kernel, List.reverse_append, List.dropLast_concat]
          exact wk_close tail
        · next hl =>
          have hy : y = tk "?" := by
            rcases hy with q | q
            · exact absurd (by simp [q]) hl
            · exact q
          subst hy
          dsimp only
          refine h.put (fx (by decide +kernel)) (by simp; omega) (by simpa using ho') fun tail => ?_
          rw [hd, due_snoc, show (tk ":" != tk "n" && (tk ":" != tk ")" && !Txt.isdigit (tk ":"))) = true by decide +kernel, List.reverse_append, List.dropLast_concat]
          exact wk_colon tail
theorem Inv.fold {lim : Int} {g : List Str → Bool} : ∀ (cells : List Int) (n : Nat) (p : List Str × List Str), Inv n p.1 p.2 → Inv (n + cells.length) (cells.foldl (fstep lim g) p).1 (cells.foldl (fstep lim g) p).2
  | [], _, _, h => h
  | x :: r, n, p, h => by
    have := Inv.fold (lim := lim) (g := g) r (n + 1) (fstep lim g p x) (h.step x)
    rw [List.length_cons, List.foldl_cons, show n + (r.length + 1) = n + 1 + r.length by omega]
    exact this
theorem wk_closers : ∀ (st : List Str) (tail : List Str), (∀ x ∈ st, x = tk "(" ∨ x = tk "?") → Mine.wk (-1) st false (closers st ++ tail) = Mine.wk (-1) [] false tail
  | [], _, _ => rfl
  | x :: r, tail, h => by
    have ih := wk_closers r tail fun y hy => h y (.tail _ hy)
    rcases h x (.head _) with rfl | rfl
    · rw [closers, if_pos rfl, List.cons_append, wk_close, ih]
    · rw [closers, if_neg (by decide +kernel), List.cons_append, List.cons_append, wk_colon, wk_atom (.inl rfl), ih]
theorem closers_len : ∀ st : List Str, (closers st).length ≤ 2 * st.length
  | [] => Nat.le_refl _
  | x :: r => by
    have := closers_len r
    unfold closers
    split <;> simp only [List.length_cons] <;> omega
theorem closers_gd : ∀ st : List Str, ∀ t ∈ closers st, t ∈ [tk "n", tk ")", tk ":"]
  | [], _, h => by cases h
  | x :: r, t, h => by
    unfold closers at h
    split at h
    · rcases List.mem_cons.mp h with rfl | h
      · decide +kernel
      · exact closers_gd r t h
    · rcases List.mem_cons.mp h with rfl | h
      · decide +kernel
      · rcases List.mem_cons.mp h with rfl | h
        · decide +kernel
        · exact closers_gd r t h
/-- the whole row: it is read whole -/
theorem form_wk (lim : Int) (g : List Str → Bool) (cells : List Int) (tail : List Str) : Mine.wk (-1) [] true (form lim g cells ++ tail) = Mine.wk (-1) [] false tail := by
  have inv := Inv.fold (lim := lim) (g := g) cells 0 ([], []) Inv.nil
  unfold form closeUp
  generalize hp : cells.foldl (fstep lim g) ([], []) = p at inv
  rw [List.append_assoc, inv.wk, List.append_assoc]
  have hst : ∀ x ∈ p.2.reverse, x = tk "(" ∨ x = tk "?" := fun x hx => inv.opn x (List.mem_reverse.mp hx)
  cases hd : due p.1 with
  | true => rw [if_pos rfl, List.cons_append, List.nil_append, wk_atom (.inl rfl)]; exact wk_closers _ tail hst
  | false => rw [if_neg Bool.false_ne_true, List.nil_append]; exact wk_closers _ tail hst
theorem form_gd (lim : Int) (g : List Str → Bool) (cells : List Int) : (∀ t ∈ form lim g cells, Gd t) ∧ (form lim g cells).length ≤ 3 * cells.length + 1 := by
  have inv := Inv.fold (lim := lim) (g := g) cells 0 ([], []) Inv.nil
  unfold form closeUp
  generalize hp : cells.foldl (fstep lim g) ([], []) = p at inv
  constructor
  · intro t ht
    rcases List.mem_append.mp ht with h | h
    · exact inv.gd t h
    · rcases List.mem_append.mp h with h | h
      · split at h
        · rw [List.mem_singleton.mp h]; exact fx (by decide +kernel)
        · cases h
      · have h1 := closers_gd _ t h
        have all : ∀ t ∈ [tk "n", tk ")", tk ":"], t ∈ fixed := by decide +kernel
        exact fx (all t h1)
  · have h1 := closers_len p.2.reverse
    have h2 := inv.len
    have h3 := inv.olen
    rw [List.length_reverse] at h1
    simp only [List.length_append]
    split <;> simp <;> omega
/-- there is a formula -/
theorem form_tree (lim : Int) (g : List Str → Bool) (cells : List Int) (hn : cells.length ≤ 40) : ∃ e : Tr, e.WF ∧ form lim g cells = e.flat ∧ run 400 (.start (-1)) (form lim g cells ++ [tk "", tk "7"]) = .ok (e.txt (-1)) (tk "") [tk "7"] := by
  have hg := form_gd lim g cells
  have key := form_wk lim g cells [tk "", tk "7"]
  have hT : ∀ t ∈ form lim g cells ++ [tk "", tk "7"], Tok t := fun t ht => by
    rcases List.mem_append.mp ht with h | h
    · exact (hg.1 t h).tok
    · have all : ∀ t ∈ [tk "", tk "7"], t ∈ fixed := by decide +kernel
      exact (fx (all t h)).tok
  have hend : Ends (-1) (tk "") := ⟨(fun i hi => by rw [show lvl (tk "") = none by decide +kernel] at hi; cases hi), fun h => absurd h (by decide +kernel)⟩
  have hst : Mine.wk (-1) [] false [tk "", tk "7"] = .ok (tk "") [tk "7"] := wk_stop hend
  rw [hst] at key
  have hlen : (form lim g cells ++ [tk "", tk "7"]).length ≤ 123 := by simp; omega
  have h0 := run_top hT (q := -1) (by decide) (f := 400) (by omega)
  rw [key] at h0
  obtain ⟨e, h1, _, h3, _, h5⟩ := h0
  exact ⟨e, h1, List.append_cancel_right (show form lim g cells ++ [tk "", tk "7"] = e.flat ++ [tk "", tk "7"] from h3), h5⟩
theorem wds_of : ∀ e : Tr, e.WF → (∀ t ∈ e.flat, Gd t) → e.Wds
  | .nm k t, h, hg => let q := (hg t (by simp [Tr.flat])).atm h; ⟨q.1, q.2.1, q.2.2.1⟩
  | .par k e, h, hg => wds_of e h fun t ht => hg t (by simp [Tr.flat, ht])
  | .bin o l r, h, hg => ⟨wds_of l h.2.1 fun t ht => hg t (by simp [Tr.flat, ht]), wds_of r h.2.2.1 fun t ht => hg t (by simp [Tr.flat, ht])⟩
  | .cond c t f, h, hg => ⟨wds_of c h.1 fun u ht => hg u (by simp [Tr.flat, ht]), wds_of t h.2.1 fun u ht => hg u (by simp [Tr.flat, ht]), wds_of f h.2.2.1 fun u ht => hg u (by simp [Tr.flat, ht])⟩
theorem nrm_Ws : ∀ e : Tr, e.Wds → e.nrm.Ws
  | .nm _ _, h => ⟨h.1, h.2.1⟩
  | .par _ e, h => nrm_Ws e h
  | .bin o l r, h => by
    refine ⟨?_, ?_⟩
    · split
      · exact nrm_Ws l h.1
      · exact nrm_Ws l h.1
    · unfold wrapT; split
      · exact nrm_Ws r h.2
      · exact nrm_Ws r h.2
  | .cond c t f, h => by
    refine ⟨nrm_Ws c h.1, ?_, nrm_Ws f h.2.2⟩
    unfold wrapT; split
    · exact nrm_Ws t h.2.1
    · exact nrm_Ws t h.2.1
end Mine
namespace Mine
/-- sizes -/
theorem wrapT_pf_len (q : Int) (e e' : Tr) : (wrapT q e e').pf.length ≤ e'.pf.length + 2 := by
  unfold wrapT; split
  · simp [Tr.pf, pnots]
  · omega
theorem nrm_len : ∀ e : Tr, e.nrm.pf.length + 4 ≤ 5 * e.flat.length
  | .nm k t => by simp [Tr.nrm, Tr.pf, Tr.flat, pnots, nots]; omega
  | .par k e => by have := nrm_len e; simp [Tr.nrm, Tr.pf, Tr.flat, pnots, nots]; omega
  | .bin o l r => by
    have h1 := nrm_len l
    have h2 := nrm_len r
    have h3 := wrapT_pf_len (lvo o + 1) r r.nrm
    have h4 : (if isCmp (lvo o) && isCmp l.lv then Tr.par 0 l.nrm else l.nrm).pf.length ≤ l.nrm.pf.length + 2 := by
      split
      · simp [Tr.pf, pnots]
      · omega
    show ((if isCmp (lvo o) && isCmp l.lv then Tr.par 0 l.nrm else l.nrm).pf ++ pyOp o :: (wrapT (lvo o + 1) r r.nrm).pf).length + 4 ≤ 5 * (l.flat ++ o :: r.flat).length
    simp only [List.length_append, List.length_cons]
    omega
  | .cond c t f => by
    have h1 := nrm_len c
    have h2 := nrm_len t
    have h3 := nrm_len f
    have h4 := wrapT_pf_len 0 t t.nrm
    show ((wrapT 0 t t.nrm).pf ++ tk "if" :: (c.nrm.pf ++ tk "else" :: f.nrm.pf)).length + 4 ≤ 5 * (c.flat ++ tk "?" :: (t.flat ++ tk ":" :: f.flat)).length
    simp only [List.length_append, List.length_cons]
    omega
theorem wd_ok {t : Str} (h : Wd t) : PyData.strOk t = true := by
  unfold PyData.strOk
  rw [← Array.all_toList, List.all_eq_true]
  intro c hc
  have := h.2 c hc
  exact decide_eq_true (by omega)
theorem pyOp_ok {o : Str} {i : Int} (h : lvl o = some i) : PyData.strOk (pyOp o) = true := by
  have hm := lvl_mem h
  have : ∀ q ∈ opsTab, PyData.strOk (pyOp q.1) = true := by unfold opsTab; decide +kernel
  exact this _ hm
theorem pf_ok : ∀ e : Tr, e.WF → e.Ws → ∀ t ∈ e.pf, PyData.strOk t = true
  | .nm k t, _, h, u, hu => by
    rcases List.mem_append.mp hu with q | q
    · rw [mem_pnots q]; decide +kernel
    · rw [List.mem_singleton.mp q]; exact wd_ok h.1
  | .par k e, h, hw, u, hu => by
    rcases List.mem_append.mp hu with q | q
    · rw [mem_pnots q]; decide +kernel
    · rcases List.mem_cons.mp q with rfl | q
      · decide +kernel
      · rcases List.mem_append.mp q with q | q
        · exact pf_ok e h hw u q
        · rw [List.mem_singleton.mp q]; decide +kernel
  | .bin o l r, h, hw, u, hu => by
    rcases List.mem_append.mp hu with q | q
    · exact pf_ok l h.2.1 hw.1 u q
    · rcases List.mem_cons.mp q with rfl | q
      · obtain ⟨i, hi⟩ := Option.isSome_iff_exists.mp h.1
        exact pyOp_ok hi
      · exact pf_ok r h.2.2.1 hw.2 u q
  | .cond c t f, h, hw, u, hu => by
    rcases List.mem_append.mp hu with q | q
    · exact pf_ok t h.2.1 hw.2.1 u q
    · rcases List.mem_cons.mp q with rfl | q
      · decide +kernel
      · rcases List.mem_append.mp q with q | q
        · exact pf_ok c h.1 hw.1 u q
        · rcases List.mem_cons.mp q with rfl | q
          · decide +kernel
          · exact pf_ok f h.2.2.1 hw.2.2 u q
theorem len_flat {c : Nat} {z : List Nat} (hz : z.length = 2) : ∀ l : List Nat, (l.flatMap fun k => if k = c then z else [k]).length ≤ 2 * l.length
  | [] => Nat.le_refl _
  | a :: r => by
    have := len_flat (c := c) hz r
    rw [List.flatMap_cons, List.length_append, List.length_cons]
    split
    · omega
    · simp only [List.length_singleton]; omega
theorem rep_len {x y z : Str} {c : Nat} (hy : y = ⟨#[c]⟩) (hz : z.cps.toList.length = 2) : (Txt.replace x y z).length ≤ 2 * x.length := by
  subst hy
  have h1 : (Txt.replace x ⟨#[c]⟩ z).cps.toList.length = (Txt.replace x ⟨#[c]⟩ z).length := Array.length_toList
  have h2 : x.cps.toList.length = x.length := Array.length_toList
  rw [← h1, ← h2, replace_flat]
  exact len_flat hz _
theorem apart_len (x : Str) : (Txt.replace x (tk "(") (tk "( ")).length ≤ 2 * x.length ∧ (apart x).length ≤ 4 * x.length := by
  have h1 : (Txt.replace x (tk "(") (tk "( ")).length ≤ 2 * x.length := rep_len (c := 40) (by decide +kernel) (by decide +kernel)
  have h2 : (apart x).length ≤ 2 * (Txt.replace x (tk "(") (tk "( ")).length := rep_len (c := 41) (by decide +kernel) (by decide +kernel)
  exact ⟨h1, by omega⟩
end Mine
namespace Mine
noncomputable def allowed : List Str := [tk "(", tk "?", tk ":", tk "&&", tk "||", tk "!"]
noncomputable def g02 (row : List Str) : Bool := match row.getLast? with
  | none => true
  | some t => allowed.any (· == t)
noncomputable def Adj (row : List Str) : Prop := ∀ pre a suf, row = pre ++ a :: tk "!" :: suf → a ∈ allowed
theorem Adj.nil : Adj [] := fun pre a suf h => by simp at h
theorem Adj.snoc {row : List Str} (h : Adj row) {t : Str} (ht : t = tk "!" → g02 row = true) : Adj (row ++ [t]) := by
  intro pre a suf e
  rcases List.eq_nil_or_concat suf with rfl | ⟨suf', u, rfl⟩
  · have e' : row ++ [t] = (pre ++ [a]) ++ [tk "!"] := by rw [e]; simp
    obtain ⟨e1, e2⟩ := List.append_inj' e' rfl
    have := ht (by simpa using e2)
    unfold g02 at this
    rw [e1] at this
    simp only [List.getLast?_append, List.getLast?_singleton, Option.some_or] at this
    obtain ⟨x, hx, he⟩ := List.any_eq_true.mp this
    rw [← eq_of_beq he]; exact hx
  · have e' : row ++ [t] = (pre ++ a :: tk "!" :: suf') ++ [u] := by rw [e]; simp
    obtain ⟨e1, _⟩ := List.append_inj' e' rfl
    exact h pre a suf' e1
theorem Adj.app {row : List Str} (h : Adj row) : ∀ {ts : List Str}, (∀ t ∈ ts, t ≠ tk "!") → Adj (row ++ ts) := by
  intro ts
  induction ts generalizing row with
  | nil => intro _; simpa using h
  | cons t r ih =>
    intro ht
    have := ih (row := row ++ [t]) (h.snoc fun e => absurd e (ht t (.head _))) fun u hu => ht u (.tail _ hu)
    simpa using this
theorem ftok_bang {row opened : List Str} {x : Int} (h : (ftok 12 g02 row opened x).1 = tk "!") : g02 row = true := by
  unfold ftok at h
  have r32 := fmod_range x (m := 32) (by decide)
  split at h
  · split at h
    · have hn := numTok_gd (fmod_range (x.fdiv 2080) (m := 3) (by decide)).1 (fmod_range (x.fdiv 2080) (m := 3) (by decide)).2 (fmod_range (x.fdiv 16) (m := 130) (by decide)).1 (fmod_range (x.fdiv 16) (m := 130) (by decide)).2
      dsimp only at h
      have := hn.2
      rw [h] at this
      exact absurd this (by decide +kernel)
    · split at h
      · exact absurd h (by show ¬ tk "(" = tk "!"; decide +kernel)
      · split at h
        · next hh => exact hh.2
        · exact absurd h (by show ¬ tk "n" = tk "!"; decide +kernel)
  · split at h
    · obtain ⟨t, ht, hf, hl⟩ := fOps_ok (x.fmod 32).toNat (by omega)
      rw [ht] at h
      have h : t = tk "!" := h
      rw [h] at hl
      exact absurd hl (by decide +kernel)
    · split at h
      · exact absurd h (by show ¬ tk "?" = tk "!"; decide +kernel)
      · split at h
        · exact absurd h (by show ¬ tk ")" = tk "!"; decide +kernel)
        · exact absurd h (by show ¬ tk ":" = tk "!"; decide +kernel)
theorem Adj.fold : ∀ (cells : List Int) (p : List Str × List Str), Adj p.1 → Adj (cells.foldl (fstep 12 g02) p).1
  | [], _, h => h
  | x :: r, p, h => Adj.fold r (fstep 12 g02 p x) (h.snoc fun e => ftok_bang e)
theorem form_adj (cells : List Int) : Adj (form 12 g02 cells) := by
  unfold form closeUp
  refine (Adj.fold cells ([], []) Adj.nil).app fun t ht => ?_
  rcases List.mem_append.mp ht with h | h
  · split at h
    · rw [List.mem_singleton.mp h]; decide +kernel
    · cases h
  · have h1 := closers_gd _ t h
    have all : ∀ t ∈ [tk "n", tk ")", tk ":"], t ≠ tk "!" := by decide +kernel
    exact all t h1
theorem nb_of : ∀ e : Tr, e.WF → Adj e.flat → e.NB
  | .nm _ _, _, _ => trivial
  | .par k e, h, ha => nb_of e h fun pre a suf q => ha (nots k ++ tk "(" :: pre) a (suf ++ [tk ")"]) (by show nots k ++ tk "(" :: (e.flat ++ [tk ")"]) = _; rw [q]; simp)
  | .bin o l r, h, ha => by
    refine ⟨nb_of l h.2.1 fun pre a suf q => ha pre a (suf ++ o :: r.flat) (by show l.flat ++ o :: r.flat = _; rw [q]; simp), nb_of r h.2.2.1 fun pre a suf q => ha (l.flat ++ o :: pre) a suf (by show l.flat ++ o :: r.flat = _; rw [q]; simp), fun h3 => ?_⟩
    cases hk : r.lead with
    | zero => rfl
    | succ k =>
      exfalso
      have e1 := flat_lead r
      rw [hk] at e1
      have := ha l.flat o (nots k ++ r.bare.flat) (by show l.flat ++ o :: r.flat = _; rw [e1]; rfl)
      have all : ∀ x ∈ allowed, lvo x ≤ 2 := by unfold allowed; decide +kernel
      have := all o this
      omega
  | .cond c t f, h, ha =>
    ⟨nb_of c h.1 fun pre a suf q => ha pre a (suf ++ tk "?" :: (t.flat ++ tk ":" :: f.flat)) (by show c.flat ++ _ = _; rw [q]; simp),
     nb_of t h.2.1 fun pre a suf q => ha (c.flat ++ tk "?" :: pre) a (suf ++ tk ":" :: f.flat) (by show c.flat ++ tk "?" :: (t.flat ++ _) = _; rw [q]; simp),
     nb_of f h.2.2.1 fun pre a suf q => ha (c.flat ++ tk "?" :: (t.flat ++ tk ":" :: pre)) a suf (by show c.flat ++ tk "?" :: (t.flat ++ tk ":" :: f.flat) = _; rw [q]; simp)⟩
theorem nrm_lead0 : ∀ e : Tr, e.lead = 0 → e.nrm.lead = 0
  | .nm _ _, h => h
  | .par _ _, h => h
  | .bin o l r, h => by
    show Tr.lead (if isCmp (lvo o) && isCmp l.lv then .par 0 l.nrm else l.nrm) = 0
    split
    · rfl
    · exact nrm_lead0 l h
  | .cond c t f, h => nrm_lead0 c h
theorem nrm_NB : ∀ e : Tr, e.NB → e.nrm.NB
  | .nm _ _, _ => trivial
  | .par _ e, h => nrm_NB e h
  | .bin o l r, h => by
    refine ⟨?_, ?_, fun h3 => ?_⟩
    · split
      · exact nrm_NB l h.1
      · exact nrm_NB l h.1
    · unfold wrapT; split
      · exact nrm_NB r h.2.1
      · exact nrm_NB r h.2.1
    · unfold wrapT; split
      · rfl
      · exact nrm_lead0 r (h.2.2 h3)
  | .cond c t f, h => by
    refine ⟨nrm_NB c h.1, ?_, nrm_NB f h.2.2⟩
    unfold wrapT; split
    · exact nrm_NB t h.2.1
    · exact nrm_NB t h.2.1
theorem neg_depth (k : Nat) (d : D) : (neg k d).toPy.depth ≤ k + d.toPy.depth := by
  induction k with
  | zero => simp [neg]
  | succ k ih =>
    show (PyData.list [.str (tk "!"), (neg k d).toPy]).depth ≤ _
    simp [PyData.depth, PyData.depthAll]; omega
theorem neg_depth' (s : Bool) (k : Nat) (d : D) : (neg (if s then 0 else k) d).toPy.depth ≤ k + d.toPy.depth := by
  cases s with
  | true => have := neg_depth 0 d; simpa using Nat.le_trans this (by omega)
  | false => exact neg_depth k d
theorem neg_pure (k : Nat) (d : D) (h : d.pure = true) : (neg k d).pure = true := by
  induction k with
  | zero => exact h
  | succ k ih =>
    show (PyData.strOk (tk "!") && ((neg k d).pure && true)) = true
    rw [ih]; decide +kernel
theorem lead_le (e : Tr) : e.lead + 1 ≤ e.flat.length := by
  rw [flat_lead e]
  have : e.bare.flat ≠ [] := flat_ne _
  have := List.length_pos_iff.mpr this
  simp [nots]; omega
theorem sem_depth : ∀ (e : Tr), (e.sem false).toPy.depth ≤ 2 * e.flat.length ∧ (e.sem true).toPy.depth + 2 * e.lead ≤ 2 * e.flat.length
  | .nm k t => by
    have h2 := neg_depth k (.str (num t))
    have h3 : (Tr.nm k t).flat.length = k + 1 := by simp [Tr.flat, nots]
    have h4 : (D.str (num t)).toPy.depth = 0 := by simp [D.toPy, PyData.depth]
    have h5 : (Tr.nm k t).lead = k := rfl
    have h6 : ((Tr.nm k t).sem false) = neg k (.str (num t)) := rfl
    have h7 : ((Tr.nm k t).sem true) = .str (num t) := rfl
    rw [h3, h5, h6, h7]; omega
  | .par k e => by
    have h1 := (sem_depth e).1
    have h2 := neg_depth k (e.sem false)
    have h3 : (Tr.par k e).flat.length = k + (e.flat.length + 2) := by simp [Tr.flat, nots]
    have h5 : (Tr.par k e).lead = k := rfl
    have h6 : ((Tr.par k e).sem false) = neg k (e.sem false) := rfl
    have h7 : ((Tr.par k e).sem true) = e.sem false := rfl
    rw [h3, h5, h6, h7]; omega
  | .bin o l r => by
    have h1 := sem_depth l
    have h2 := (sem_depth r).1
    have h3 : (Tr.bin o l r).flat.length = l.flat.length + r.flat.length + 1 := by simp [Tr.flat]; omega
    have h4 := lead_le l
    have h5 := List.length_pos_iff.mpr (flat_ne r)
    have h6 : (Tr.bin o l r).lead = l.lead := rfl
    have hl : ∀ a b : D, (D.list [.str o, a, b]).toPy.depth = max a.toPy.depth b.toPy.depth + 1 := by
      intro a b; simp [D.toPy, D.toPys, PyData.depth, PyData.depthAll]
    have h7 := neg_depth l.lead (.list [.str o, l.sem true, r.sem false])
    have hl1 := hl (l.sem false) (r.sem false)
    have hl2 := hl (l.sem true) (r.sem false)
    rw [h3, h6]
    by_cases hc : lvo o ≤ 2 ∨ l.cmpOut = true
    · have e1 : (Tr.bin o l r).sem false = .list [.str o, l.sem false, r.sem false] := if_pos hc
      have e2 : (Tr.bin o l r).sem true = .list [.str o, l.sem true, r.sem false] := if_pos hc
      rw [e1, e2]; omega
    · have e1 : (Tr.bin o l r).sem false = neg l.lead (.list [.str o, l.sem true, r.sem false]) := if_neg hc
      have e2 : (Tr.bin o l r).sem true = .list [.str o, l.sem true, r.sem false] := if_neg hc
      rw [e1, e2]; omega
  | .cond c t f => by
    have h1 := sem_depth c
    have h2 := (sem_depth t).1
    have h3 := (sem_depth f).1
    have h4 : (Tr.cond c t f).flat.length = c.flat.length + t.flat.length + f.flat.length + 2 := by simp [Tr.flat]; omega
    have h5 := lead_le c
    have h6 : (Tr.cond c t f).lead = c.lead := rfl
    have hl : ∀ s, ((Tr.cond c t f).sem s).toPy.depth = max (c.sem s).toPy.depth (max (t.sem false).toPy.depth (f.sem false).toPy.depth) + 1 := by
      intro s; simp [Tr.sem, D.toPy, D.toPys, PyData.depth, PyData.depthAll]
    have hl1 := hl false
    have hl2 := hl true
    rw [h4, h6]; omega
theorem sem_pure : ∀ (e : Tr) (s : Bool), e.WF → (∀ t ∈ e.flat, Gd t) → (e.sem s).pure = true
  | .nm k t, s, h, hg => neg_pure _ _ ((hg t (by simp [Tr.flat])).atm h).2.2.2
  | .par k e, s, h, hg => neg_pure _ _ (sem_pure e false h fun t ht => hg t (by simp [Tr.flat, ht]))
  | .bin o l r, s, h, hg => by
    have h1 := fun s => sem_pure l s h.2.1 fun t ht => hg t (by simp [Tr.flat, ht])
    have h2 := sem_pure r false h.2.2.1 fun t ht => hg t (by simp [Tr.flat, ht])
    have h3 : PyData.strOk o = true := (hg o (by simp [Tr.flat])).ok
    have hl : ∀ s', (D.list [.str o, l.sem s', r.sem false]).pure = true := fun s' => by
      show (PyData.strOk o && ((l.sem s').pure && ((r.sem false).pure && true))) = true
      rw [h3, h1, h2]; rfl
    rw [Tr.sem]
    split
    · exact hl _
    · exact neg_pure _ _ (hl _)
  | .cond c t f, s, h, hg => by
    have h1 := sem_pure c s h.1 fun u ht => hg u (by simp [Tr.flat, ht])
    have h2 := sem_pure t false h.2.1 fun u ht => hg u (by simp [Tr.flat, ht])
    have h3 := sem_pure f false h.2.2.1 fun u ht => hg u (by simp [Tr.flat, ht])
    show (PyData.strOk (tk "?") && ((c.sem s).pure && ((t.sem false).pure && ((f.sem false).pure && true)))) = true
    rw [h1, h2, h3]; decide +kernel
end Mine
namespace Mine
noncomputable abbrev hprg : Program := Challenge.rw_lo0003_02.row.prog
noncomputable def nthS : List Stmt → Nat → Option Stmt
  | [], _ => none
  | s :: _, 0 => some s
  | _ :: r, n + 1 => nthS r n
noncomputable def fP (n : Nat) : Arguments := match nthS hprg.main.body n with
  | some (.FunctionDef _ a _ _ _ _ _ _ _ _) => a
  | _ => default
noncomputable def fB (n : Nat) : FuncBody := match nthS hprg.main.body n with
  | some (.FunctionDef _ _ b _ _ _ _ _ _ _) => .stmts b
  | _ => .stmts []
noncomputable def fS (n : Nat) : Scope := match nthS hprg.main.body n with
  | some (.FunctionDef _ _ _ _ _ _ s _ _ _) => s
  | _ => default
noncomputable def pick (l : List Stmt) : List Nat → List Stmt
  | [] => []
  | i :: r => match nthS l i with | some s => s :: pick l r | none => pick l r
noncomputable def hd.view_39 : Program := { hprg with main := { hprg.main with body := pick hprg.main.body [1, 3, 4, 7, 8, 9, 10, 11, 12, 13, 14, 15, 16] } }
set_option maxHeartbeats 4000000 in
noncomputable def hd.heap_39 (P : Params) : Frag :=
  [(2, { cls := Value.none, data := Data.dict #[] }),
    (3,
      { cls := Value.type "dict",
        data :=
          Data.dict
            #[{ hash := PyData.keyHash P (Str.ofString "__name__"),
                key := Value.str (Str.ofString "__name__") 165,
                val := Value.str (Str.ofString "law_lo0003_02") 286 },
              { hash := PyData.keyHash P (Str.ofString "__doc__"),
                key := Value.str (Str.ofString "__doc__") 166, val := Value.none },
              { hash := PyData.keyHash P (Str.ofString "__package__"),
                key := Value.str (Str.ofString "__package__") 167, val := Value.none },
              { hash := PyData.keyHash P (Str.ofString "__loader__"),
                key := Value.str (Str.ofString "__loader__") 168,
                val := Value.builtin "__main__.__loader__#opaque" },
              { hash := PyData.keyHash P (Str.ofString "__spec__"),
                key := Value.str (Str.ofString "__spec__") 169, val := Value.none },
              { hash := PyData.keyHash P (Str.ofString "__annotations__"),
                key := Value.str (Str.ofString "__annotations__") 170, val := Value.ref 6 },
              { hash := PyData.keyHash P (Str.ofString "__builtins__"),
                key := Value.str (Str.ofString "__builtins__") 171, val := Value.ref 4 },
              { hash := PyData.keyHash P (Str.ofString "__file__"),
                key := Value.str (Str.ofString "__file__") 173,
                val := Value.str (Str.ofString "/claim/cut.py") 172 },
              { hash := PyData.keyHash P (Str.ofString "__cached__"),
                key := Value.str (Str.ofString "__cached__") 174, val := Value.none },
              { hash := PyData.keyHash P (Str.ofString "_error"),
                key := Value.str (Str.ofString "_error") 195, val := Value.ref 21 },
              { hash := PyData.keyHash P (Str.ofString "_binary_ops"),
                key := Value.str (Str.ofString "_binary_ops") 209, val := Value.ref 31 },
              { hash := PyData.keyHash P (Str.ofString "_c2py_ops"),
                key := Value.str (Str.ofString "_c2py_ops") 265, val := Value.ref 77 },
              { hash := PyData.keyHash P (Str.ofString "_parse"),
                key := Value.str (Str.ofString "_parse") 285, val := Value.ref 85 },
              { hash := PyData.keyHash P (Str.ofString "_law_due"),
                key := Value.str (Str.ofString "_law_due") 294, val := Value.ref 92 },
              { hash := PyData.keyHash P (Str.ofString "_law_formula"),
                key := Value.str (Str.ofString "_law_formula") 307, val := Value.ref 99 },
              { hash := PyData.keyHash P (Str.ofString "_law_outside"),
                key := Value.str (Str.ofString "_law_outside") 317, val := Value.ref 106 },
              { hash := PyData.keyHash P (Str.ofString "_law_colon"),
                key := Value.str (Str.ofString "_law_colon") 327, val := Value.ref 113 },
              { hash := PyData.keyHash P (Str.ofString "_law_number"),
                key := Value.str (Str.ofString "_law_number") 334, val := Value.ref 120 },
              { hash := PyData.keyHash P (Str.ofString "_law_compares"),
                key := Value.str (Str.ofString "_law_compares") 340, val := Value.ref 125 },
              { hash := PyData.keyHash P (Str.ofString "_law_tree"),
                key := Value.str (Str.ofString "_law_tree") 346, val := Value.ref 130 },
              { hash := PyData.keyHash P (Str.ofString "_law_reaches"),
                key := Value.str (Str.ofString "_law_reaches") 354, val := Value.ref 137 },
              { hash := PyData.keyHash P (Str.ofString "_law_python"),
                key := Value.str (Str.ofString "_law_python") 360, val := Value.ref 142 },
              { hash := PyData.keyHash P (Str.ofString "law"),
                key := Value.str (Str.ofString "law") 371, val := Value.ref 149 }]
            23 }),
    (6, { cls := Value.type "dict", data := Data.dict #[] }),
    (15, { cls := Value.type "tuple", data := Data.seq #[] }),
    (17,
      { cls := Value.type "tuple", data := Data.seq #[Value.str (Str.ofString "value") 192] }),
    (18, { cls := Value.type "tuple", data := Data.seq #[] }),
    (20,
      { cls := Value.type "code",
        data :=
          Data.fields
            #[Value.str (Str.ofString "_error") 189, Value.str (Str.ofString "_error") 190,
              Value.str (Str.ofString "/claim/cut.py") 191, Value.int 2 0, Value.int 1 0,
              Value.int 0 0, Value.int 0 0, Value.int 3 0, Value.ref 15,
              Value.bool Bool.true, Value.int 181 0, Value.ref 16, Value.none,
              Value.ref 17, Value.ref 18, Value.ref 19, Value.int 193 0, Value.int 2 0,
              Value.str (Str.ofString "/claim/cut.py") 194] }),
    (21,
      { cls := Value.type "function",
        data :=
          Data.func
            { name := Str.ofString "_error", qualname := Str.ofString "_error", params := fP 1,
              body := fB 1, scope := fS 1, globals := 3, closure := [], defaults := Value.none,
              kwdefaults := Value.none, pyModule := Value.str (Str.ofString "cpy313.gettext") 187,
              code := Value.ref 20 } }),
    (31,
      { cls := Value.type "dict",
        data :=
          Data.dict
            #[{ hash := PyData.keyHash P (Str.ofString "||"),
                key := Value.str (Str.ofString "||") 196, val := Value.int 1 211 },
              { hash := PyData.keyHash P (Str.ofString "&&"),
                key := Value.str (Str.ofString "&&") 197, val := Value.int 2 216 },
              { hash := PyData.keyHash P (Str.ofString "=="),
                key := Value.str (Str.ofString "==") 198, val := Value.int 3 221 },
              { hash := PyData.keyHash P (Str.ofString "!="),
                key := Value.str (Str.ofString "!=") 199, val := Value.int 3 221 },
              { hash := PyData.keyHash P (Str.ofString "<"),
                key := Value.str (Str.ofString "<") 200, val := Value.int 4 228 },
              { hash := PyData.keyHash P (Str.ofString ">"),
                key := Value.str (Str.ofString ">") 201, val := Value.int 4 228 },
              { hash := PyData.keyHash P (Str.ofString "<="),
                key := Value.str (Str.ofString "<=") 202, val := Value.int 4 228 },
              { hash := PyData.keyHash P (Str.ofString ">="),
                key := Value.str (Str.ofString ">=") 203, val := Value.int 4 228 },
              { hash := PyData.keyHash P (Str.ofString "+"),
                key := Value.str (Str.ofString "+") 204, val := Value.int 5 239 },
              { hash := PyData.keyHash P (Str.ofString "-"),
                key := Value.str (Str.ofString "-") 205, val := Value.int 5 239 },
              { hash := PyData.keyHash P (Str.ofString "*"),
                key := Value.str (Str.ofString "*") 206, val := Value.int 6 246 },
              { hash := PyData.keyHash P (Str.ofString "/"),
                key := Value.str (Str.ofString "/") 207, val := Value.int 6 246 },
              { hash := PyData.keyHash P (Str.ofString "%"),
                key := Value.str (Str.ofString "%") 208, val := Value.int 6 246 }]
            13 }),
    (77,
      { cls := Value.type "dict",
        data :=
          Data.dict
            #[{ hash := PyData.keyHash P (Str.ofString "||"),
                key := Value.str (Str.ofString "||") 256,
                val := Value.str (Str.ofString "or") 257 },
              { hash := PyData.keyHash P (Str.ofString "&&"),
                key := Value.str (Str.ofString "&&") 258,
                val := Value.str (Str.ofString "and") 259 },
              { hash := PyData.keyHash P (Str.ofString "/"),
                key := Value.str (Str.ofString "/") 260,
                val := Value.str (Str.ofString "//") 261 }]
            3 }),
    (78, { cls := Value.type "tuple", data := Data.seq #[Value.int (-1) 267] }),
    (79, { cls := Value.type "tuple", data := Data.seq #[] }),
    (81,
      { cls := Value.type "tuple",
        data :=
          Data.seq
            #[Value.str (Str.ofString "tokens") 271, Value.str (Str.ofString "priority") 272,
              Value.str (Str.ofString "result") 273, Value.str (Str.ofString "nexttok") 274,
              Value.str (Str.ofString "sub") 275, Value.str (Str.ofString "value") 276,
              Value.str (Str.ofString "j") 277, Value.str (Str.ofString "i") 278,
              Value.str (Str.ofString "op") 279, Value.str (Str.ofString "right") 280,
              Value.str (Str.ofString "if_true") 281,
              Value.str (Str.ofString "if_false") 282] }),
    (82, { cls := Value.type "tuple", data := Data.seq #[] }),
    (84,
      { cls := Value.type "code",
        data :=
          Data.fields
            #[Value.str (Str.ofString "_parse") 268, Value.str (Str.ofString "_parse") 269,
              Value.str (Str.ofString "/claim/cut.py") 270, Value.int 10 0, Value.int 2 0,
              Value.int 0 0, Value.int 0 0, Value.int 3 0, Value.ref 79,
              Value.bool Bool.true, Value.int 181 0, Value.ref 80, Value.none,
              Value.ref 81, Value.ref 82, Value.ref 83, Value.int 283 0, Value.int 10 0,
              Value.str (Str.ofString "/claim/cut.py") 284] }),
    (85,
      { cls := Value.type "function",
        data :=
          Data.func
            { name := Str.ofString "_parse", qualname := Str.ofString "_parse", params := fP 5,
              body := fB 5, scope := fS 5, globals := 3, closure := [], defaults := Value.ref 78,
              kwdefaults := Value.none, pyModule := Value.str (Str.ofString "cpy313.gettext") 187,
              code := Value.ref 84 } }),
    (86, { cls := Value.type "tuple", data := Data.seq #[] }),
    (88, { cls := Value.type "tuple", data := Data.seq #[Value.str (Str.ofString "row") 291] }),
    (89, { cls := Value.type "tuple", data := Data.seq #[] }),
    (91,
      { cls := Value.type "code",
        data :=
          Data.fields
            #[Value.str (Str.ofString "_law_due") 288, Value.str (Str.ofString "_law_due") 289,
              Value.str (Str.ofString "/claim/cut.py") 290, Value.int 53 0, Value.int 1 0,
              Value.int 0 0, Value.int 0 0, Value.int 3 0, Value.ref 86,
              Value.bool Bool.true, Value.int 181 0, Value.ref 87, Value.none,
              Value.ref 88, Value.ref 89, Value.ref 90, Value.int 292 0, Value.int 53 0,
              Value.str (Str.ofString "/claim/cut.py") 293] }),
    (92,
      { cls := Value.type "function",
        data :=
          Data.func
            { name := Str.ofString "_law_due", qualname := Str.ofString "_law_due", params := fP 7,
              body := fB 7, scope := fS 7, globals := 3, closure := [], defaults := Value.none,
              kwdefaults := Value.none, pyModule := Value.str (Str.ofString "law_lo0003_02") 286,
              code := Value.ref 91 } }),
    (93, { cls := Value.type "tuple", data := Data.seq #[] }),
    (95,
      { cls := Value.type "tuple",
        data :=
          Data.seq
            #[Value.str (Str.ofString "cells") 298, Value.str (Str.ofString "operations") 299,
              Value.str (Str.ofString "row") 300, Value.str (Str.ofString "opened") 301,
              Value.str (Str.ofString "x") 302, Value.str (Str.ofString "token") 303,
              Value.str (Str.ofString "kind") 304] }),
    (96, { cls := Value.type "tuple", data := Data.seq #[] }),
    (98,
      { cls := Value.type "code",
        data :=
          Data.fields
            #[Value.str (Str.ofString "_law_formula") 295,
              Value.str (Str.ofString "_law_formula") 296,
              Value.str (Str.ofString "/claim/cut.py") 297, Value.int 57 0, Value.int 1 0,
              Value.int 0 0, Value.int 0 0, Value.int 3 0, Value.ref 93,
              Value.bool Bool.true, Value.int 181 0, Value.ref 94, Value.none,
              Value.ref 95, Value.ref 96, Value.ref 97, Value.int 305 0, Value.int 57 0,
              Value.str (Str.ofString "/claim/cut.py") 306] }),
    (99,
      { cls := Value.type "function",
        data :=
          Data.func
            { name := Str.ofString "_law_formula", qualname := Str.ofString "_law_formula",
              params := fP 8, body := fB 8, scope := fS 8, globals := 3, closure := [],
              defaults := Value.none, kwdefaults := Value.none,
              pyModule := Value.str (Str.ofString "law_lo0003_02") 286, code := Value.ref 98 } }),
    (100, { cls := Value.type "tuple", data := Data.seq #[] }),
    (102,
      { cls := Value.type "tuple",
        data :=
          Data.seq
            #[Value.str (Str.ofString "part") 311, Value.str (Str.ofString "depth") 312,
              Value.str (Str.ofString "places") 313, Value.str (Str.ofString "at") 314] }),
    (103, { cls := Value.type "tuple", data := Data.seq #[] }),
    (105,
      { cls := Value.type "code",
        data :=
          Data.fields
            #[Value.str (Str.ofString "_law_outside") 308,
              Value.str (Str.ofString "_law_outside") 309,
              Value.str (Str.ofString "/claim/cut.py") 310, Value.int 91 0, Value.int 1 0,
              Value.int 0 0, Value.int 0 0, Value.int 3 0, Value.ref 100,
              Value.bool Bool.true, Value.int 181 0, Value.ref 101, Value.none,
              Value.ref 102, Value.ref 103, Value.ref 104, Value.int 315 0,
              Value.int 91 0, Value.str (Str.ofString "/claim/cut.py") 316] }),
    (106,
      { cls := Value.type "function",
        data :=
          Data.func
            { name := Str.ofString "_law_outside", qualname := Str.ofString "_law_outside",
              params := fP 9, body := fB 9, scope := fS 9, globals := 3, closure := [],
              defaults := Value.none, kwdefaults := Value.none,
              pyModule := Value.str (Str.ofString "law_lo0003_02") 286, code := Value.ref 105 } }),
    (107, { cls := Value.type "tuple", data := Data.seq #[] }),
    (109,
      { cls := Value.type "tuple",
        data :=
          Data.seq
            #[Value.str (Str.ofString "part") 321, Value.str (Str.ofString "places") 322,
              Value.str (Str.ofString "waiting") 323, Value.str (Str.ofString "at") 324] }),
    (110, { cls := Value.type "tuple", data := Data.seq #[] }),
    (112,
      { cls := Value.type "code",
        data :=
          Data.fields
            #[Value.str (Str.ofString "_law_colon") 318,
              Value.str (Str.ofString "_law_colon") 319,
              Value.str (Str.ofString "/claim/cut.py") 320, Value.int 102 0, Value.int 2 0,
              Value.int 0 0, Value.int 0 0, Value.int 3 0, Value.ref 107,
              Value.bool Bool.true, Value.int 181 0, Value.ref 108, Value.none,
              Value.ref 109, Value.ref 110, Value.ref 111, Value.int 325 0,
              Value.int 102 0, Value.str (Str.ofString "/claim/cut.py") 326] }),
    (113,
      { cls := Value.type "function",
        data :=
          Data.func
            { name := Str.ofString "_law_colon", qualname := Str.ofString "_law_colon",
              params := fP 10, body := fB 10, scope := fS 10, globals := 3, closure := [],
              defaults := Value.none, kwdefaults := Value.none,
              pyModule := Value.str (Str.ofString "law_lo0003_02") 286, code := Value.ref 112 } }),
    (114, { cls := Value.type "tuple", data := Data.seq #[] }),
    (116,
      { cls := Value.type "tuple", data := Data.seq #[Value.str (Str.ofString "word") 331] }),
    (117, { cls := Value.type "tuple", data := Data.seq #[] }),
    (119,
      { cls := Value.type "code",
        data :=
          Data.fields
            #[Value.str (Str.ofString "_law_number") 328,
              Value.str (Str.ofString "_law_number") 329,
              Value.str (Str.ofString "/claim/cut.py") 330, Value.int 112 0, Value.int 1 0,
              Value.int 0 0, Value.int 0 0, Value.int 3 0, Value.ref 114,
              Value.bool Bool.true, Value.int 181 0, Value.ref 115, Value.none,
              Value.ref 116, Value.ref 117, Value.ref 118, Value.int 332 0,
              Value.int 112 0, Value.str (Str.ofString "/claim/cut.py") 333] }),
    (120,
      { cls := Value.type "function",
        data :=
          Data.func
            { name := Str.ofString "_law_number", qualname := Str.ofString "_law_number",
              params := fP 11, body := fB 11, scope := fS 11, globals := 3, closure := [],
              defaults := Value.none, kwdefaults := Value.none,
              pyModule := Value.str (Str.ofString "law_lo0003_02") 286, code := Value.ref 119 } }),
    (121, { cls := Value.type "tuple", data := Data.seq #[] }),
    (124,
      { cls := Value.type "code",
        data :=
          Data.fields
            #[Value.str (Str.ofString "_law_compares") 335,
              Value.str (Str.ofString "_law_compares") 336,
              Value.str (Str.ofString "/claim/cut.py") 337, Value.int 116 0, Value.int 1 0,
              Value.int 0 0, Value.int 0 0, Value.int 3 0, Value.ref 121,
              Value.bool Bool.true, Value.int 181 0, Value.ref 122, Value.none,
              Value.none, Value.none, Value.ref 123, Value.int 338 0, Value.int 116 0,
              Value.str (Str.ofString "/claim/cut.py") 339] }),
    (125,
      { cls := Value.type "function",
        data :=
          Data.func
            { name := Str.ofString "_law_compares", qualname := Str.ofString "_law_compares",
              params := fP 12, body := fB 12, scope := fS 12, globals := 3, closure := [],
              defaults := Value.none, kwdefaults := Value.none,
              pyModule := Value.str (Str.ofString "law_lo0003_02") 286, code := Value.ref 124 } }),
    (126, { cls := Value.type "tuple", data := Data.seq #[] }),
    (129,
      { cls := Value.type "code",
        data :=
          Data.fields
            #[Value.str (Str.ofString "_law_tree") 341,
              Value.str (Str.ofString "_law_tree") 342,
              Value.str (Str.ofString "/claim/cut.py") 343, Value.int 118 0, Value.int 1 0,
              Value.int 0 0, Value.int 0 0, Value.int 3 0, Value.ref 126,
              Value.bool Bool.true, Value.int 181 0, Value.ref 127, Value.none,
              Value.none, Value.none, Value.ref 128, Value.int 344 0, Value.int 118 0,
              Value.str (Str.ofString "/claim/cut.py") 345] }),
    (130,
      { cls := Value.type "function",
        data :=
          Data.func
            { name := Str.ofString "_law_tree", qualname := Str.ofString "_law_tree", params := fP 13,
              body := fB 13, scope := fS 13, globals := 3, closure := [], defaults := Value.none,
              kwdefaults := Value.none, pyModule := Value.str (Str.ofString "law_lo0003_02") 286,
              code := Value.ref 129 } }),
    (131, { cls := Value.type "tuple", data := Data.seq #[] }),
    (133,
      { cls := Value.type "tuple",
        data :=
          Data.seq
            #[Value.str (Str.ofString "part") 350, Value.str (Str.ofString "at") 351] }),
    (134, { cls := Value.type "tuple", data := Data.seq #[] }),
    (136,
      { cls := Value.type "code",
        data :=
          Data.fields
            #[Value.str (Str.ofString "_law_reaches") 347,
              Value.str (Str.ofString "_law_reaches") 348,
              Value.str (Str.ofString "/claim/cut.py") 349, Value.int 136 0, Value.int 2 0,
              Value.int 0 0, Value.int 0 0, Value.int 3 0, Value.ref 131,
              Value.bool Bool.true, Value.int 181 0, Value.ref 132, Value.none,
              Value.ref 133, Value.ref 134, Value.ref 135, Value.int 352 0,
              Value.int 136 0, Value.str (Str.ofString "/claim/cut.py") 353] }),
    (137,
      { cls := Value.type "function",
        data :=
          Data.func
            { name := Str.ofString "_law_reaches", qualname := Str.ofString "_law_reaches",
              params := fP 14, body := fB 14, scope := fS 14, globals := 3, closure := [],
              defaults := Value.none, kwdefaults := Value.none,
              pyModule := Value.str (Str.ofString "law_lo0003_02") 286, code := Value.ref 136 } }),
    (138, { cls := Value.type "tuple", data := Data.seq #[] }),
    (141,
      { cls := Value.type "code",
        data :=
          Data.fields
            #[Value.str (Str.ofString "_law_python") 355,
              Value.str (Str.ofString "_law_python") 356,
              Value.str (Str.ofString "/claim/cut.py") 357, Value.int 138 0, Value.int 1 0,
              Value.int 0 0, Value.int 0 0, Value.int 3 0, Value.ref 138,
              Value.bool Bool.true, Value.int 181 0, Value.ref 139, Value.none,
              Value.none, Value.none, Value.ref 140, Value.int 358 0, Value.int 138 0,
              Value.str (Str.ofString "/claim/cut.py") 359] }),
    (142,
      { cls := Value.type "function",
        data :=
          Data.func
            { name := Str.ofString "_law_python", qualname := Str.ofString "_law_python",
              params := fP 15, body := fB 15, scope := fS 15, globals := 3, closure := [],
              defaults := Value.none, kwdefaults := Value.none,
              pyModule := Value.str (Str.ofString "law_lo0003_02") 286, code := Value.ref 141 } }),
    (143, { cls := Value.type "tuple", data := Data.seq #[] }),
    (145,
      { cls := Value.type "tuple",
        data :=
          Data.seq
            #[Value.str (Str.ofString "script") 364, Value.str (Str.ofString "row") 365,
              Value.str (Str.ofString "source") 366, Value.str (Str.ofString "text") 367,
              Value.str (Str.ofString "last") 368] }),
    (146, { cls := Value.type "tuple", data := Data.seq #[] }),
    (148,
      { cls := Value.type "code",
        data :=
          Data.fields
            #[Value.str (Str.ofString "law") 361, Value.str (Str.ofString "law") 362,
              Value.str (Str.ofString "/claim/cut.py") 363, Value.int 170 0, Value.int 1 0,
              Value.int 0 0, Value.int 0 0, Value.int 3 0, Value.ref 143,
              Value.bool Bool.true, Value.int 181 0, Value.ref 144, Value.none,
              Value.ref 145, Value.ref 146, Value.ref 147, Value.int 369 0,
              Value.int 170 0, Value.str (Str.ofString "/claim/cut.py") 370] }),
    (149,
      { cls := Value.type "function",
        data :=
          Data.func
            { name := Str.ofString "law", qualname := Str.ofString "law", params := fP 16,
              body := fB 16, scope := fS 16, globals := 3, closure := [], defaults := Value.none,
              kwdefaults := Value.none, pyModule := Value.str (Str.ofString "law_lo0003_02") 286,
              code := Value.ref 148 } })]
noncomputable def hLoose : List Str := [Str.ofString "_binary_ops", Str.ofString "_c2py_ops", Str.ofString "_parse"]
noncomputable def hAs : List Addr := [2, 3, 6, 15, 17, 18, 20, 21, 31, 77, 78, 79, 81, 82, 84, 85, 86, 88, 89, 91, 92, 93, 95, 96, 98, 99, 100, 102, 103, 105, 106, 107, 109, 110, 112, 113, 114, 116, 117, 119, 120, 121, 124, 125, 126, 129, 130, 131, 133, 134, 136, 137, 138, 141, 142, 143, 145, 146, 148, 149]
theorem hAs_eq : ∀ P, hAs = (hd.heap_39 P).map (·.1) := fun _ => rfl
noncomputable abbrev hHook : Hook := kHook hd.heap_39 hAs hAs_eq
noncomputable abbrev hX : Shared → Bool := fun s => xlAt hd.view_39 [] s && recOk Challenge.rw_lo0003_02.row.records s
noncomputable def hd.h0 (P : Params) : Heap := ⟨⟨[boot_o_0 P, boot_o_1 P, boot_o_2 P, boot_o_3 P, boot_o_4 P, boot_o_5 P, boot_o_6 P, boot_o_7 P, boot_o_8 P, boot_o_9 P, boot_o_10 P]⟩, { }⟩
noncomputable def hd.g0 : Array GenState := #[]
noncomputable def hd.d0 : Drawn := { }
noncomputable def hd.s0 (w : World) (os : OsState) : Shared := ⟨hd.h0 w.params, hd.g0, hd.d0, 181, os⟩
noncomputable def hd.o1 (P : Params) : Obj :=
{ cls := Value.type "tuple", data := Data.seq #[] }
noncomputable def hd.o2 (P : Params) : Obj :=
{ cls := Value.none, data := Data.fields #[] }
noncomputable def hd.o3 (P : Params) : Obj :=
{ cls := Value.type "code",
  data :=
    Data.fields
      #[Value.str (Str.ofString "<module>") 182, Value.str (Str.ofString "<module>") 183,
        Value.str (Str.ofString "/claim/cut.py") 184, Value.int 1 0, Value.int 0 0,
        Value.int 0 0, Value.int 0 0, Value.int 0 0, Value.ref 11, Value.bool Bool.false,
        Value.int 181 0, Value.ref 12, Value.none, Value.none, Value.none,
        Value.none, Value.int 185 0, Value.int 1 0,
        Value.str (Str.ofString "/claim/cut.py") 186] }
noncomputable def hd.o4 (P : Params) : Obj :=
{ cls := Value.type "frame",
  slots :=
    #[Option.some (Value.ref 13), Option.some (Value.ref 3), Option.some (Value.ref 3), Option.none,
      Option.some (Value.str (Str.ofString "__main__") 164), Option.none, Option.some (Value.ref 0)] }
noncomputable def hd.ha (P : Params) : Heap := ⟨⟨[boot_o_0 P, boot_o_1 P, boot_o_2 P, boot_o_3 P, boot_o_4 P, boot_o_5 P, boot_o_6 P, boot_o_7 P, boot_o_8 P, boot_o_9 P, boot_o_10 P, hd.o1 P, hd.o2 P, hd.o3 P, hd.o4 P]⟩, { }⟩
noncomputable def hd.ga : Array GenState := #[]
noncomputable def hd.da : Drawn := { }
noncomputable def hd.sa (w : World) (os : OsState) : Shared := ⟨hd.ha w.params, hd.ga, hd.da, 187, os⟩
noncomputable def hd.trb (P : Params) : BT := (.node (boot_o_0 P) (.node (boot_o_1 P) (.node (boot_o_3 P) (.node (boot_o_7 P) .nil .nil) (.node (hd.o1 P) .nil .nil)) (.node (boot_o_5 P) (.node (boot_o_9 P) .nil .nil) (.node (hd.o3 P) .nil .nil))) (.node (boot_o_2 P) (.node (boot_o_4 P) (.node (boot_o_8 P) .nil .nil) (.node (hd.o2 P) .nil .nil)) (.node (boot_o_6 P) (.node (boot_o_10 P) .nil .nil) (.node (hd.o4 P) .nil .nil))))
noncomputable def hd.sb (w : World) (os : OsState) : SharedT := ⟨hd.trb w.params, 15, { }, #[], { }, 187, os⟩
noncomputable def hd.o5 (P : Params) : Obj :=
{ cls := Value.type "dict",
  data :=
    Data.dict
      #[{ hash := PyData.keyHash P (Str.ofString "__name__"),
          key := Value.str (Str.ofString "__name__") 165,
          val := Value.str (Str.ofString "cpy313.gettext") 187 },
        { hash := PyData.keyHash P (Str.ofString "__doc__"),
          key := Value.str (Str.ofString "__doc__") 166, val := Value.none },
        { hash := PyData.keyHash P (Str.ofString "__package__"),
          key := Value.str (Str.ofString "__package__") 167, val := Value.none },
        { hash := PyData.keyHash P (Str.ofString "__loader__"),
          key := Value.str (Str.ofString "__loader__") 168,
          val := Value.builtin "__main__.__loader__#opaque" },
        { hash := PyData.keyHash P (Str.ofString "__spec__"),
          key := Value.str (Str.ofString "__spec__") 169, val := Value.none },
        { hash := PyData.keyHash P (Str.ofString "__annotations__"),
          key := Value.str (Str.ofString "__annotations__") 170, val := Value.ref 6 },
        { hash := PyData.keyHash P (Str.ofString "__builtins__"),
          key := Value.str (Str.ofString "__builtins__") 171, val := Value.ref 4 },
        { hash := PyData.keyHash P (Str.ofString "__file__"),
          key := Value.str (Str.ofString "__file__") 173,
          val := Value.str (Str.ofString "/claim/cut.py") 172 },
        { hash := PyData.keyHash P (Str.ofString "__cached__"),
          key := Value.str (Str.ofString "__cached__") 174, val := Value.none },
        { hash := PyData.keyHash P (Str.ofString "_error"),
          key := Value.str (Str.ofString "_error") 195, val := Value.ref 21 },
        { hash := PyData.keyHash P (Str.ofString "_binary_ops"),
          key := Value.str (Str.ofString "_binary_ops") 209, val := Value.ref 28 }]
      11 }
noncomputable def hd.o6 (P : Params) : Obj :=
{ cls := Value.none, data := Data.fields #[Value.int 2 0, Value.int 0 0, Value.ref 20] }
noncomputable def hd.o7 (P : Params) : Obj :=
{ cls := Value.type "tuple", data := Data.seq #[] }
noncomputable def hd.o8 (P : Params) : Obj :=
{ cls := Value.none, data := Data.fields #[] }
noncomputable def hd.o9 (P : Params) : Obj :=
{ cls := Value.type "tuple", data := Data.seq #[Value.str (Str.ofString "value") 192] }
noncomputable def hd.o10 (P : Params) : Obj :=
{ cls := Value.type "tuple", data := Data.seq #[] }
noncomputable def hd.o11 (P : Params) : Obj :=
{ cls := Value.none,
  data :=
    Data.func
      { name := Str.ofString "_error", qualname := Str.ofString "_error", params := fP 1,
        body := fB 1, scope := fS 1, globals := 0, closure := [], defaults := Value.none,
        kwdefaults := Value.none } }
noncomputable def hd.o12 (P : Params) : Obj :=
{ cls := Value.type "code",
  data :=
    Data.fields
      #[Value.str (Str.ofString "_error") 189, Value.str (Str.ofString "_error") 190,
        Value.str (Str.ofString "/claim/cut.py") 191, Value.int 2 0, Value.int 1 0,
        Value.int 0 0, Value.int 0 0, Value.int 3 0, Value.ref 15, Value.bool Bool.true,
        Value.int 181 0, Value.ref 16, Value.none, Value.ref 17, Value.ref 18,
        Value.ref 19, Value.int 193 0, Value.int 2 0,
        Value.str (Str.ofString "/claim/cut.py") 194] }
noncomputable def hd.o13 (P : Params) : Obj :=
{ cls := Value.type "function",
  data :=
    Data.func
      { name := Str.ofString "_error", qualname := Str.ofString "_error", params := fP 1,
        body := fB 1, scope := fS 1, globals := 3, closure := [], defaults := Value.none,
        kwdefaults := Value.none, pyModule := Value.str (Str.ofString "cpy313.gettext") 187,
        code := Value.ref 20 } }
noncomputable def hd.o14 (P : Params) : Obj :=
{ cls := Value.type "tuple", data := Data.seq #[Value.str (Str.ofString "||") 196] }
noncomputable def hd.o15 (P : Params) : Obj :=
{ cls := Value.type "tuple", data := Data.seq #[Value.str (Str.ofString "&&") 197] }
noncomputable def hd.o16 (P : Params) : Obj :=
{ cls := Value.type "tuple",
  data :=
    Data.seq #[Value.str (Str.ofString "==") 198, Value.str (Str.ofString "!=") 199] }
noncomputable def hd.o17 (P : Params) : Obj :=
{ cls := Value.type "tuple",
  data :=
    Data.seq
      #[Value.str (Str.ofString "<") 200, Value.str (Str.ofString ">") 201,
        Value.str (Str.ofString "<=") 202, Value.str (Str.ofString ">=") 203] }
noncomputable def hd.o18 (P : Params) : Obj :=
{ cls := Value.type "tuple",
  data := Data.seq #[Value.str (Str.ofString "+") 204, Value.str (Str.ofString "-") 205] }
noncomputable def hd.o19 (P : Params) : Obj :=
{ cls := Value.type "tuple",
  data :=
    Data.seq
      #[Value.str (Str.ofString "*") 206, Value.str (Str.ofString "/") 207,
        Value.str (Str.ofString "%") 208] }
noncomputable def hd.o20 (P : Params) : Obj :=
{ cls := Value.type "tuple",
  data :=
    Data.seq
      #[Value.ref 22, Value.ref 23, Value.ref 24, Value.ref 25, Value.ref 26,
        Value.ref 27] }
noncomputable def hd.tr1 (P : Params) : BT := (.node (boot_o_0 P) (.node (boot_o_1 P) (.node (hd.o5 P) (.node (boot_o_7 P) (.node (hd.o7 P) .nil .nil) (.node (hd.o15 P) .nil .nil)) (.node (hd.o1 P) (.node (hd.o11 P) .nil .nil) (.node (hd.o19 P) .nil .nil))) (.node (boot_o_5 P) (.node (boot_o_9 P) (.node (hd.o9 P) .nil .nil) (.node (hd.o17 P) .nil .nil)) (.node (hd.o3 P) (.node (hd.o13 P) .nil .nil) .nil))) (.node (boot_o_2 P) (.node (boot_o_4 P) (.node (boot_o_8 P) (.node (hd.o8 P) .nil .nil) (.node (hd.o16 P) .nil .nil)) (.node (hd.o6 P) (.node (hd.o12 P) .nil .nil) (.node (hd.o20 P) .nil .nil))) (.node (boot_o_6 P) (.node (boot_o_10 P) (.node (hd.o10 P) .nil .nil) (.node (hd.o18 P) .nil .nil)) (.node (hd.o4 P) (.node (hd.o14 P) .nil .nil) .nil))))
noncomputable def hd.s1 (w : World) (os : OsState) : SharedT := ⟨hd.tr1 w.params, 29, { }, #[], { }, 210, os⟩
noncomputable def hd.o21 (P : Params) : Obj :=
{ cls := Value.type "dict",
  data :=
    Data.dict
      #[{ hash := PyData.keyHash P (Str.ofString "__name__"),
          key := Value.str (Str.ofString "__name__") 165,
          val := Value.str (Str.ofString "cpy313.gettext") 187 },
        { hash := PyData.keyHash P (Str.ofString "__doc__"),
          key := Value.str (Str.ofString "__doc__") 166, val := Value.none },
        { hash := PyData.keyHash P (Str.ofString "__package__"),
          key := Value.str (Str.ofString "__package__") 167, val := Value.none },
        { hash := PyData.keyHash P (Str.ofString "__loader__"),
          key := Value.str (Str.ofString "__loader__") 168,
          val := Value.builtin "__main__.__loader__#opaque" },
        { hash := PyData.keyHash P (Str.ofString "__spec__"),
          key := Value.str (Str.ofString "__spec__") 169, val := Value.none },
        { hash := PyData.keyHash P (Str.ofString "__annotations__"),
          key := Value.str (Str.ofString "__annotations__") 170, val := Value.ref 6 },
        { hash := PyData.keyHash P (Str.ofString "__builtins__"),
          key := Value.str (Str.ofString "__builtins__") 171, val := Value.ref 4 },
        { hash := PyData.keyHash P (Str.ofString "__file__"),
          key := Value.str (Str.ofString "__file__") 173,
          val := Value.str (Str.ofString "/claim/cut.py") 172 },
        { hash := PyData.keyHash P (Str.ofString "__cached__"),
          key := Value.str (Str.ofString "__cached__") 174, val := Value.none },
        { hash := PyData.keyHash P (Str.ofString "_error"),
          key := Value.str (Str.ofString "_error") 195, val := Value.ref 21 },
        { hash := PyData.keyHash P (Str.ofString "_binary_ops"),
          key := Value.str (Str.ofString "_binary_ops") 209, val := Value.ref 31 }]
      11 }
noncomputable def hd.o22 (P : Params) : Obj :=
{ cls := Value.type "tuple_iterator", data := Data.fields #[Value.none, Value.int 6 0] }
noncomputable def hd.o23 (P : Params) : Obj :=
{ cls := Value.type "enumerate",
  data :=
    Data.fields
      #[Value.none, Value.bool Bool.false, Value.ref 29, Value.int 7 0, Value.none,
        Value.ref 27] }
noncomputable def hd.o24 (P : Params) : Obj :=
{ cls := Value.type "dict",
  data :=
    Data.dict
      #[{ hash := PyData.keyHash P (Str.ofString "||"),
          key := Value.str (Str.ofString "||") 196, val := Value.int 1 211 },
        { hash := PyData.keyHash P (Str.ofString "&&"),
          key := Value.str (Str.ofString "&&") 197, val := Value.int 2 216 },
        { hash := PyData.keyHash P (Str.ofString "=="),
          key := Value.str (Str.ofString "==") 198, val := Value.int 3 221 },
        { hash := PyData.keyHash P (Str.ofString "!="),
          key := Value.str (Str.ofString "!=") 199, val := Value.int 3 221 },
        { hash := PyData.keyHash P (Str.ofString "<"), key := Value.str (Str.ofString "<") 200,
          val := Value.int 4 228 },
        { hash := PyData.keyHash P (Str.ofString ">"), key := Value.str (Str.ofString ">") 201,
          val := Value.int 4 228 },
        { hash := PyData.keyHash P (Str.ofString "<="),
          key := Value.str (Str.ofString "<=") 202, val := Value.int 4 228 },
        { hash := PyData.keyHash P (Str.ofString ">="),
          key := Value.str (Str.ofString ">=") 203, val := Value.int 4 228 },
        { hash := PyData.keyHash P (Str.ofString "+"), key := Value.str (Str.ofString "+") 204,
          val := Value.int 5 239 },
        { hash := PyData.keyHash P (Str.ofString "-"), key := Value.str (Str.ofString "-") 205,
          val := Value.int 5 239 },
        { hash := PyData.keyHash P (Str.ofString "*"), key := Value.str (Str.ofString "*") 206,
          val := Value.int 6 246 },
        { hash := PyData.keyHash P (Str.ofString "/"), key := Value.str (Str.ofString "/") 207,
          val := Value.int 6 246 },
        { hash := PyData.keyHash P (Str.ofString "%"), key := Value.str (Str.ofString "%") 208,
          val := Value.int 6 246 }]
      13 }
noncomputable def hd.o25 (P : Params) : Obj :=
{ cls := Value.type "dict", data := Data.dict #[] 6 }
noncomputable def hd.o26 (P : Params) : Obj :=
{ cls := Value.type "tuple", data := Data.seq #[Value.int 1 211, Value.ref 22] }
noncomputable def hd.o27 (P : Params) : Obj :=
{ cls := Value.type "tuple_iterator", data := Data.fields #[Value.none, Value.int 2 0] }
noncomputable def hd.o28 (P : Params) : Obj :=
{ cls := Value.type "tuple", data := Data.seq #[] }
noncomputable def hd.o29 (P : Params) : Obj :=
{ cls := Value.type "StopIteration",
  data :=
    Data.fields
      #[Value.ref 35, Value.none, Value.none, Value.none, Value.bool Bool.false,
        Value.none] }
noncomputable def hd.o30 (P : Params) : Obj :=
{ cls := Value.type "tuple_iterator", data := Data.fields #[Value.none, Value.int 1 0] }
noncomputable def hd.o31 (P : Params) : Obj :=
{ cls := Value.type "tuple", data := Data.seq #[] }
noncomputable def hd.o32 (P : Params) : Obj :=
{ cls := Value.type "StopIteration",
  data :=
    Data.fields
      #[Value.ref 38, Value.none, Value.none, Value.none, Value.bool Bool.false,
        Value.none] }
noncomputable def hd.o33 (P : Params) : Obj :=
{ cls := Value.type "tuple", data := Data.seq #[Value.int 2 216, Value.ref 23] }
noncomputable def hd.o34 (P : Params) : Obj :=
{ cls := Value.type "tuple_iterator", data := Data.fields #[Value.none, Value.int 2 0] }
noncomputable def hd.o35 (P : Params) : Obj :=
{ cls := Value.type "tuple", data := Data.seq #[] }
noncomputable def hd.o36 (P : Params) : Obj :=
{ cls := Value.type "StopIteration",
  data :=
    Data.fields
      #[Value.ref 42, Value.none, Value.none, Value.none, Value.bool Bool.false,
        Value.none] }
noncomputable def hd.o37 (P : Params) : Obj :=
{ cls := Value.type "tuple_iterator", data := Data.fields #[Value.none, Value.int 1 0] }
noncomputable def hd.o38 (P : Params) : Obj :=
{ cls := Value.type "tuple", data := Data.seq #[] }
noncomputable def hd.o39 (P : Params) : Obj :=
{ cls := Value.type "StopIteration",
  data :=
    Data.fields
      #[Value.ref 45, Value.none, Value.none, Value.none, Value.bool Bool.false,
        Value.none] }
noncomputable def hd.o40 (P : Params) : Obj :=
{ cls := Value.type "tuple", data := Data.seq #[Value.int 3 221, Value.ref 24] }
noncomputable def hd.o41 (P : Params) : Obj :=
{ cls := Value.type "tuple_iterator", data := Data.fields #[Value.none, Value.int 2 0] }
noncomputable def hd.o42 (P : Params) : Obj :=
{ cls := Value.type "tuple", data := Data.seq #[] }
noncomputable def hd.o43 (P : Params) : Obj :=
{ cls := Value.type "StopIteration",
  data :=
    Data.fields
      #[Value.ref 49, Value.none, Value.none, Value.none, Value.bool Bool.false,
        Value.none] }
noncomputable def hd.o44 (P : Params) : Obj :=
{ cls := Value.type "tuple_iterator", data := Data.fields #[Value.none, Value.int 2 0] }
noncomputable def hd.o45 (P : Params) : Obj :=
{ cls := Value.type "tuple", data := Data.seq #[] }
noncomputable def hd.o46 (P : Params) : Obj :=
{ cls := Value.type "StopIteration",
  data :=
    Data.fields
      #[Value.ref 52, Value.none, Value.none, Value.none, Value.bool Bool.false,
        Value.none] }
noncomputable def hd.o47 (P : Params) : Obj :=
{ cls := Value.type "tuple", data := Data.seq #[Value.int 4 228, Value.ref 25] }
noncomputable def hd.o48 (P : Params) : Obj :=
{ cls := Value.type "tuple_iterator", data := Data.fields #[Value.none, Value.int 2 0] }
noncomputable def hd.o49 (P : Params) : Obj :=
{ cls := Value.type "tuple", data := Data.seq #[] }
noncomputable def hd.o50 (P : Params) : Obj :=
{ cls := Value.type "StopIteration",
  data :=
    Data.fields
      #[Value.ref 56, Value.none, Value.none, Value.none, Value.bool Bool.false,
        Value.none] }
noncomputable def hd.o51 (P : Params) : Obj :=
{ cls := Value.type "tuple_iterator", data := Data.fields #[Value.none, Value.int 4 0] }
noncomputable def hd.o52 (P : Params) : Obj :=
{ cls := Value.type "tuple", data := Data.seq #[] }
noncomputable def hd.o53 (P : Params) : Obj :=
{ cls := Value.type "StopIteration",
  data :=
    Data.fields
      #[Value.ref 59, Value.none, Value.none, Value.none, Value.bool Bool.false,
        Value.none] }
noncomputable def hd.o54 (P : Params) : Obj :=
{ cls := Value.type "tuple", data := Data.seq #[Value.int 5 239, Value.ref 26] }
noncomputable def hd.o55 (P : Params) : Obj :=
{ cls := Value.type "tuple_iterator", data := Data.fields #[Value.none, Value.int 2 0] }
noncomputable def hd.o56 (P : Params) : Obj :=
{ cls := Value.type "tuple", data := Data.seq #[] }
noncomputable def hd.o57 (P : Params) : Obj :=
{ cls := Value.type "StopIteration",
  data :=
    Data.fields
      #[Value.ref 63, Value.none, Value.none, Value.none, Value.bool Bool.false,
        Value.none] }
noncomputable def hd.o58 (P : Params) : Obj :=
{ cls := Value.type "tuple_iterator", data := Data.fields #[Value.none, Value.int 2 0] }
noncomputable def hd.o59 (P : Params) : Obj :=
{ cls := Value.type "tuple", data := Data.seq #[] }
noncomputable def hd.o60 (P : Params) : Obj :=
{ cls := Value.type "StopIteration",
  data :=
    Data.fields
      #[Value.ref 66, Value.none, Value.none, Value.none, Value.bool Bool.false,
        Value.none] }
noncomputable def hd.o61 (P : Params) : Obj :=
{ cls := Value.type "tuple", data := Data.seq #[Value.int 6 246, Value.ref 27] }
noncomputable def hd.o62 (P : Params) : Obj :=
{ cls := Value.type "tuple_iterator", data := Data.fields #[Value.none, Value.int 2 0] }
noncomputable def hd.o63 (P : Params) : Obj :=
{ cls := Value.type "tuple", data := Data.seq #[] }
noncomputable def hd.o64 (P : Params) : Obj :=
{ cls := Value.type "StopIteration",
  data :=
    Data.fields
      #[Value.ref 70, Value.none, Value.none, Value.none, Value.bool Bool.false,
        Value.none] }
noncomputable def hd.o65 (P : Params) : Obj :=
{ cls := Value.type "tuple_iterator", data := Data.fields #[Value.none, Value.int 3 0] }
noncomputable def hd.o66 (P : Params) : Obj :=
{ cls := Value.type "tuple", data := Data.seq #[] }
noncomputable def hd.o67 (P : Params) : Obj :=
{ cls := Value.type "StopIteration",
  data :=
    Data.fields
      #[Value.ref 73, Value.none, Value.none, Value.none, Value.bool Bool.false,
        Value.none] }
noncomputable def hd.o68 (P : Params) : Obj :=
{ cls := Value.type "tuple", data := Data.seq #[] }
noncomputable def hd.o69 (P : Params) : Obj :=
{ cls := Value.type "StopIteration",
  data :=
    Data.fields
      #[Value.ref 75, Value.none, Value.none, Value.none, Value.bool Bool.false,
        Value.none] }
noncomputable def hd.tr2 (P : Params) : BT := (.node (boot_o_0 P) (.node (boot_o_1 P) (.node (hd.o21 P) (.node (boot_o_7 P) (.node (hd.o7 P) (.node (hd.o24 P) (.node (hd.o56 P) .nil .nil) .nil) (.node (hd.o40 P) .nil .nil)) (.node (hd.o15 P) (.node (hd.o32 P) (.node (hd.o64 P) .nil .nil) .nil) (.node (hd.o48 P) .nil .nil))) (.node (hd.o1 P) (.node (hd.o11 P) (.node (hd.o28 P) (.node (hd.o60 P) .nil .nil) .nil) (.node (hd.o44 P) .nil .nil)) (.node (hd.o19 P) (.node (hd.o36 P) (.node (hd.o68 P) .nil .nil) .nil) (.node (hd.o52 P) .nil .nil)))) (.node (boot_o_5 P) (.node (boot_o_9 P) (.node (hd.o9 P) (.node (hd.o26 P) (.node (hd.o58 P) .nil .nil) .nil) (.node (hd.o42 P) .nil .nil)) (.node (hd.o17 P) (.node (hd.o34 P) (.node (hd.o66 P) .nil .nil) .nil) (.node (hd.o50 P) .nil .nil))) (.node (hd.o3 P) (.node (hd.o13 P) (.node (hd.o30 P) (.node (hd.o62 P) .nil .nil) .nil) (.node (hd.o46 P) .nil .nil)) (.node (hd.o22 P) (.node (hd.o38 P) .nil .nil) (.node (hd.o54 P) .nil .nil))))) (.node (boot_o_2 P) (.node (boot_o_4 P) (.node (boot_o_8 P) (.node (hd.o8 P) (.node (hd.o25 P) (.node (hd.o57 P) .nil .nil) .nil) (.node (hd.o41 P) .nil .nil)) (.node (hd.o16 P) (.node (hd.o33 P) (.node (hd.o65 P) .nil .nil) .nil) (.node (hd.o49 P) .nil .nil))) (.node (hd.o6 P) (.node (hd.o12 P) (.node (hd.o29 P) (.node (hd.o61 P) .nil .nil) .nil) (.node (hd.o45 P) .nil .nil)) (.node (hd.o20 P) (.node (hd.o37 P) (.node (hd.o69 P) .nil .nil) .nil) (.node (hd.o53 P) .nil .nil)))) (.node (boot_o_6 P) (.node (boot_o_10 P) (.node (hd.o10 P) (.node (hd.o27 P) (.node (hd.o59 P) .nil .nil) .nil) (.node (hd.o43 P) .nil .nil)) (.node (hd.o18 P) (.node (hd.o35 P) (.node (hd.o67 P) .nil .nil) .nil) (.node (hd.o51 P) .nil .nil))) (.node (hd.o4 P) (.node (hd.o14 P) (.node (hd.o31 P) (.node (hd.o63 P) .nil .nil) .nil) (.node (hd.o47 P) .nil .nil)) (.node (hd.o23 P) (.node (hd.o39 P) .nil .nil) (.node (hd.o55 P) .nil .nil))))))
noncomputable def hd.s2 (w : World) (os : OsState) : SharedT := ⟨hd.tr2 w.params, 77, { }, #[], { }, 256, os⟩
noncomputable def hd.o70 (P : Params) : Obj :=
{ cls := Value.type "dict",
  data :=
    Data.dict
      #[{ hash := PyData.keyHash P (Str.ofString "__name__"),
          key := Value.str (Str.ofString "__name__") 165,
          val := Value.str (Str.ofString "law_lo0003_02") 286 },
        { hash := PyData.keyHash P (Str.ofString "__doc__"),
          key := Value.str (Str.ofString "__doc__") 166, val := Value.none },
        { hash := PyData.keyHash P (Str.ofString "__package__"),
          key := Value.str (Str.ofString "__package__") 167, val := Value.none },
        { hash := PyData.keyHash P (Str.ofString "__loader__"),
          key := Value.str (Str.ofString "__loader__") 168,
          val := Value.builtin "__main__.__loader__#opaque" },
        { hash := PyData.keyHash P (Str.ofString "__spec__"),
          key := Value.str (Str.ofString "__spec__") 169, val := Value.none },
        { hash := PyData.keyHash P (Str.ofString "__annotations__"),
          key := Value.str (Str.ofString "__annotations__") 170, val := Value.ref 6 },
        { hash := PyData.keyHash P (Str.ofString "__builtins__"),
          key := Value.str (Str.ofString "__builtins__") 171, val := Value.ref 4 },
        { hash := PyData.keyHash P (Str.ofString "__file__"),
          key := Value.str (Str.ofString "__file__") 173,
          val := Value.str (Str.ofString "/claim/cut.py") 172 },
        { hash := PyData.keyHash P (Str.ofString "__cached__"),
          key := Value.str (Str.ofString "__cached__") 174, val := Value.none },
        { hash := PyData.keyHash P (Str.ofString "_error"),
          key := Value.str (Str.ofString "_error") 195, val := Value.ref 21 },
        { hash := PyData.keyHash P (Str.ofString "_binary_ops"),
          key := Value.str (Str.ofString "_binary_ops") 209, val := Value.ref 31 },
        { hash := PyData.keyHash P (Str.ofString "_c2py_ops"),
          key := Value.str (Str.ofString "_c2py_ops") 265, val := Value.ref 77 },
        { hash := PyData.keyHash P (Str.ofString "_parse"),
          key := Value.str (Str.ofString "_parse") 285, val := Value.ref 85 },
        { hash := PyData.keyHash P (Str.ofString "_law_due"),
          key := Value.str (Str.ofString "_law_due") 294, val := Value.ref 92 }]
      14 }
noncomputable def hd.o71 (P : Params) : Obj :=
{ cls := Value.none,
  data :=
    Data.fields
      #[Value.int 2 0, Value.int 0 0, Value.ref 20, Value.int 10 0, Value.int 0 0,
        Value.ref 84, Value.int 53 0, Value.int 0 0, Value.ref 91] }
noncomputable def hd.o72 (P : Params) : Obj :=
{ cls := Value.type "dict",
  data :=
    Data.dict
      #[{ hash := PyData.keyHash P (Str.ofString "||"),
          key := Value.str (Str.ofString "||") 256, val := Value.str (Str.ofString "or") 257 },
        { hash := PyData.keyHash P (Str.ofString "&&"),
          key := Value.str (Str.ofString "&&") 258, val := Value.str (Str.ofString "and") 259 },
        { hash := PyData.keyHash P (Str.ofString "/"), key := Value.str (Str.ofString "/") 260,
          val := Value.str (Str.ofString "//") 261 }]
      3 }
noncomputable def hd.o73 (P : Params) : Obj :=
{ cls := Value.type "tuple", data := Data.seq #[Value.int (-1) 267] }
noncomputable def hd.o74 (P : Params) : Obj :=
{ cls := Value.type "tuple", data := Data.seq #[] }
noncomputable def hd.o75 (P : Params) : Obj :=
{ cls := Value.none, data := Data.fields #[] }
noncomputable def hd.o76 (P : Params) : Obj :=
{ cls := Value.type "tuple",
  data :=
    Data.seq
      #[Value.str (Str.ofString "tokens") 271, Value.str (Str.ofString "priority") 272,
        Value.str (Str.ofString "result") 273, Value.str (Str.ofString "nexttok") 274,
        Value.str (Str.ofString "sub") 275, Value.str (Str.ofString "value") 276,
        Value.str (Str.ofString "j") 277, Value.str (Str.ofString "i") 278,
        Value.str (Str.ofString "op") 279, Value.str (Str.ofString "right") 280,
        Value.str (Str.ofString "if_true") 281, Value.str (Str.ofString "if_false") 282] }
noncomputable def hd.o77 (P : Params) : Obj :=
{ cls := Value.type "tuple", data := Data.seq #[] }
noncomputable def hd.o78 (P : Params) : Obj :=
{ cls := Value.none,
  data :=
    Data.func
      { name := Str.ofString "_parse", qualname := Str.ofString "_parse", params := fP 5,
        body := fB 5, scope := fS 5, globals := 0, closure := [], defaults := Value.none,
        kwdefaults := Value.none } }
noncomputable def hd.o79 (P : Params) : Obj :=
{ cls := Value.type "code",
  data :=
    Data.fields
      #[Value.str (Str.ofString "_parse") 268, Value.str (Str.ofString "_parse") 269,
        Value.str (Str.ofString "/claim/cut.py") 270, Value.int 10 0, Value.int 2 0,
        Value.int 0 0, Value.int 0 0, Value.int 3 0, Value.ref 79, Value.bool Bool.true,
        Value.int 181 0, Value.ref 80, Value.none, Value.ref 81, Value.ref 82,
        Value.ref 83, Value.int 283 0, Value.int 10 0,
        Value.str (Str.ofString "/claim/cut.py") 284] }
noncomputable def hd.o80 (P : Params) : Obj :=
{ cls := Value.type "function",
  data :=
    Data.func
      { name := Str.ofString "_parse", qualname := Str.ofString "_parse", params := fP 5,
        body := fB 5, scope := fS 5, globals := 3, closure := [], defaults := Value.ref 78,
        kwdefaults := Value.none, pyModule := Value.str (Str.ofString "cpy313.gettext") 187,
        code := Value.ref 84 } }
noncomputable def hd.o81 (P : Params) : Obj :=
{ cls := Value.type "tuple", data := Data.seq #[] }
noncomputable def hd.o82 (P : Params) : Obj :=
{ cls := Value.none, data := Data.fields #[] }
noncomputable def hd.o83 (P : Params) : Obj :=
{ cls := Value.type "tuple", data := Data.seq #[Value.str (Str.ofString "row") 291] }
noncomputable def hd.o84 (P : Params) : Obj :=
{ cls := Value.type "tuple", data := Data.seq #[] }
noncomputable def hd.o85 (P : Params) : Obj :=
{ cls := Value.none,
  data :=
    Data.func
      { name := Str.ofString "_law_due", qualname := Str.ofString "_law_due", params := fP 7,
        body := fB 7, scope := fS 7, globals := 0, closure := [], defaults := Value.none,
        kwdefaults := Value.none } }
noncomputable def hd.o86 (P : Params) : Obj :=
{ cls := Value.type "code",
  data :=
    Data.fields
      #[Value.str (Str.ofString "_law_due") 288, Value.str (Str.ofString "_law_due") 289,
        Value.str (Str.ofString "/claim/cut.py") 290, Value.int 53 0, Value.int 1 0,
        Value.int 0 0, Value.int 0 0, Value.int 3 0, Value.ref 86, Value.bool Bool.true,
        Value.int 181 0, Value.ref 87, Value.none, Value.ref 88, Value.ref 89,
        Value.ref 90, Value.int 292 0, Value.int 53 0,
        Value.str (Str.ofString "/claim/cut.py") 293] }
noncomputable def hd.o87 (P : Params) : Obj :=
{ cls := Value.type "function",
  data :=
    Data.func
      { name := Str.ofString "_law_due", qualname := Str.ofString "_law_due", params := fP 7,
        body := fB 7, scope := fS 7, globals := 3, closure := [], defaults := Value.none,
        kwdefaults := Value.none, pyModule := Value.str (Str.ofString "law_lo0003_02") 286,
        code := Value.ref 91 } }
noncomputable def hd.tr3 (P : Params) : BT := (.node (boot_o_0 P) (.node (boot_o_1 P) (.node (hd.o70 P) (.node (boot_o_7 P) (.node (hd.o7 P) (.node (hd.o24 P) (.node (hd.o56 P) .nil .nil) .nil) (.node (hd.o40 P) (.node (hd.o74 P) .nil .nil) .nil)) (.node (hd.o15 P) (.node (hd.o32 P) (.node (hd.o64 P) .nil .nil) .nil) (.node (hd.o48 P) (.node (hd.o82 P) .nil .nil) .nil))) (.node (hd.o1 P) (.node (hd.o11 P) (.node (hd.o28 P) (.node (hd.o60 P) .nil .nil) .nil) (.node (hd.o44 P) (.node (hd.o78 P) .nil .nil) .nil)) (.node (hd.o19 P) (.node (hd.o36 P) (.node (hd.o68 P) .nil .nil) .nil) (.node (hd.o52 P) (.node (hd.o86 P) .nil .nil) .nil)))) (.node (boot_o_5 P) (.node (boot_o_9 P) (.node (hd.o9 P) (.node (hd.o26 P) (.node (hd.o58 P) .nil .nil) .nil) (.node (hd.o42 P) (.node (hd.o76 P) .nil .nil) .nil)) (.node (hd.o17 P) (.node (hd.o34 P) (.node (hd.o66 P) .nil .nil) .nil) (.node (hd.o50 P) (.node (hd.o84 P) .nil .nil) .nil))) (.node (hd.o3 P) (.node (hd.o13 P) (.node (hd.o30 P) (.node (hd.o62 P) .nil .nil) .nil) (.node (hd.o46 P) (.node (hd.o80 P) .nil .nil) .nil)) (.node (hd.o22 P) (.node (hd.o38 P) (.node (hd.o72 P) .nil .nil) .nil) (.node (hd.o54 P) .nil .nil))))) (.node (boot_o_2 P) (.node (boot_o_4 P) (.node (boot_o_8 P) (.node (hd.o8 P) (.node (hd.o25 P) (.node (hd.o57 P) .nil .nil) .nil) (.node (hd.o41 P) (.node (hd.o75 P) .nil .nil) .nil)) (.node (hd.o16 P) (.node (hd.o33 P) (.node (hd.o65 P) .nil .nil) .nil) (.node (hd.o49 P) (.node (hd.o83 P) .nil .nil) .nil))) (.node (hd.o71 P) (.node (hd.o12 P) (.node (hd.o29 P) (.node (hd.o61 P) .nil .nil) .nil) (.node (hd.o45 P) (.node (hd.o79 P) .nil .nil) .nil)) (.node (hd.o20 P) (.node (hd.o37 P) (.node (hd.o69 P) .nil .nil) .nil) (.node (hd.o53 P) (.node (hd.o87 P) .nil .nil) .nil)))) (.node (boot_o_6 P) (.node (boot_o_10 P) (.node (hd.o10 P) (.node (hd.o27 P) (.node (hd.o59 P) .nil .nil) .nil) (.node (hd.o43 P) (.node (hd.o77 P) .nil .nil) .nil)) (.node (hd.o18 P) (.node (hd.o35 P) (.node (hd.o67 P) .nil .nil) .nil) (.node (hd.o51 P) (.node (hd.o85 P) .nil .nil) .nil))) (.node (hd.o4 P) (.node (hd.o14 P) (.node (hd.o31 P) (.node (hd.o63 P) .nil .nil) .nil) (.node (hd.o47 P) (.node (hd.o81 P) .nil .nil) .nil)) (.node (hd.o23 P) (.node (hd.o39 P) (.node (hd.o73 P) .nil .nil) .nil) (.node (hd.o55 P) .nil .nil))))))
noncomputable def hd.s3 (w : World) (os : OsState) : SharedT := ⟨hd.tr3 w.params, 93, { }, #[], { }, 295, os⟩
noncomputable def hd.o88 (P : Params) : Obj :=
{ cls := Value.type "dict",
  data :=
    Data.dict
      #[{ hash := PyData.keyHash P (Str.ofString "__name__"),
          key := Value.str (Str.ofString "__name__") 165,
          val := Value.str (Str.ofString "law_lo0003_02") 286 },
        { hash := PyData.keyHash P (Str.ofString "__doc__"),
          key := Value.str (Str.ofString "__doc__") 166, val := Value.none },
        { hash := PyData.keyHash P (Str.ofString "__package__"),
          key := Value.str (Str.ofString "__package__") 167, val := Value.none },
        { hash := PyData.keyHash P (Str.ofString "__loader__"),
          key := Value.str (Str.ofString "__loader__") 168,
          val := Value.builtin "__main__.__loader__#opaque" },
        { hash := PyData.keyHash P (Str.ofString "__spec__"),
          key := Value.str (Str.ofString "__spec__") 169, val := Value.none },
        { hash := PyData.keyHash P (Str.ofString "__annotations__"),
          key := Value.str (Str.ofString "__annotations__") 170, val := Value.ref 6 },
        { hash := PyData.keyHash P (Str.ofString "__builtins__"),
          key := Value.str (Str.ofString "__builtins__") 171, val := Value.ref 4 },
        { hash := PyData.keyHash P (Str.ofString "__file__"),
          key := Value.str (Str.ofString "__file__") 173,
          val := Value.str (Str.ofString "/claim/cut.py") 172 },
        { hash := PyData.keyHash P (Str.ofString "__cached__"),
          key := Value.str (Str.ofString "__cached__") 174, val := Value.none },
        { hash := PyData.keyHash P (Str.ofString "_error"),
          key := Value.str (Str.ofString "_error") 195, val := Value.ref 21 },
        { hash := PyData.keyHash P (Str.ofString "_binary_ops"),
          key := Value.str (Str.ofString "_binary_ops") 209, val := Value.ref 31 },
        { hash := PyData.keyHash P (Str.ofString "_c2py_ops"),
          key := Value.str (Str.ofString "_c2py_ops") 265, val := Value.ref 77 },
        { hash := PyData.keyHash P (Str.ofString "_parse"),
          key := Value.str (Str.ofString "_parse") 285, val := Value.ref 85 },
        { hash := PyData.keyHash P (Str.ofString "_law_due"),
          key := Value.str (Str.ofString "_law_due") 294, val := Value.ref 92 },
        { hash := PyData.keyHash P (Str.ofString "_law_formula"),
          key := Value.str (Str.ofString "_law_formula") 307, val := Value.ref 99 },
        { hash := PyData.keyHash P (Str.ofString "_law_outside"),
          key := Value.str (Str.ofString "_law_outside") 317, val := Value.ref 106 },
        { hash := PyData.keyHash P (Str.ofString "_law_colon"),
          key := Value.str (Str.ofString "_law_colon") 327, val := Value.ref 113 },
        { hash := PyData.keyHash P (Str.ofString "_law_number"),
          key := Value.str (Str.ofString "_law_number") 334, val := Value.ref 120 }]
      18 }
noncomputable def hd.o89 (P : Params) : Obj :=
{ cls := Value.none,
  data :=
    Data.fields
      #[Value.int 2 0, Value.int 0 0, Value.ref 20, Value.int 10 0, Value.int 0 0,
        Value.ref 84, Value.int 53 0, Value.int 0 0, Value.ref 91, Value.int 57 0,
        Value.int 0 0, Value.ref 98, Value.int 91 0, Value.int 0 0, Value.ref 105,
        Value.int 102 0, Value.int 0 0, Value.ref 112, Value.int 112 0, Value.int 0 0,
        Value.ref 119] }
noncomputable def hd.o90 (P : Params) : Obj :=
{ cls := Value.type "tuple", data := Data.seq #[] }
noncomputable def hd.o91 (P : Params) : Obj :=
{ cls := Value.none, data := Data.fields #[] }
noncomputable def hd.o92 (P : Params) : Obj :=
{ cls := Value.type "tuple",
  data :=
    Data.seq
      #[Value.str (Str.ofString "cells") 298, Value.str (Str.ofString "operations") 299,
        Value.str (Str.ofString "row") 300, Value.str (Str.ofString "opened") 301,
        Value.str (Str.ofString "x") 302, Value.str (Str.ofString "token") 303,
        Value.str (Str.ofString "kind") 304] }
noncomputable def hd.o93 (P : Params) : Obj :=
{ cls := Value.type "tuple", data := Data.seq #[] }
noncomputable def hd.o94 (P : Params) : Obj :=
{ cls := Value.none,
  data :=
    Data.func
      { name := Str.ofString "_law_formula", qualname := Str.ofString "_law_formula", params := fP 8,
        body := fB 8, scope := fS 8, globals := 0, closure := [], defaults := Value.none,
        kwdefaults := Value.none } }
noncomputable def hd.o95 (P : Params) : Obj :=
{ cls := Value.type "code",
  data :=
    Data.fields
      #[Value.str (Str.ofString "_law_formula") 295,
        Value.str (Str.ofString "_law_formula") 296,
        Value.str (Str.ofString "/claim/cut.py") 297, Value.int 57 0, Value.int 1 0,
        Value.int 0 0, Value.int 0 0, Value.int 3 0, Value.ref 93, Value.bool Bool.true,
        Value.int 181 0, Value.ref 94, Value.none, Value.ref 95, Value.ref 96,
        Value.ref 97, Value.int 305 0, Value.int 57 0,
        Value.str (Str.ofString "/claim/cut.py") 306] }
noncomputable def hd.o96 (P : Params) : Obj :=
{ cls := Value.type "function",
  data :=
    Data.func
      { name := Str.ofString "_law_formula", qualname := Str.ofString "_law_formula", params := fP 8,
        body := fB 8, scope := fS 8, globals := 3, closure := [], defaults := Value.none,
        kwdefaults := Value.none, pyModule := Value.str (Str.ofString "law_lo0003_02") 286,
        code := Value.ref 98 } }
noncomputable def hd.o97 (P : Params) : Obj :=
{ cls := Value.type "tuple", data := Data.seq #[] }
noncomputable def hd.o98 (P : Params) : Obj :=
{ cls := Value.none, data := Data.fields #[] }
noncomputable def hd.o99 (P : Params) : Obj :=
{ cls := Value.type "tuple",
  data :=
    Data.seq
      #[Value.str (Str.ofString "part") 311, Value.str (Str.ofString "depth") 312,
        Value.str (Str.ofString "places") 313, Value.str (Str.ofString "at") 314] }
noncomputable def hd.o100 (P : Params) : Obj :=
{ cls := Value.type "tuple", data := Data.seq #[] }
noncomputable def hd.o101 (P : Params) : Obj :=
{ cls := Value.none,
  data :=
    Data.func
      { name := Str.ofString "_law_outside", qualname := Str.ofString "_law_outside", params := fP 9,
        body := fB 9, scope := fS 9, globals := 0, closure := [], defaults := Value.none,
        kwdefaults := Value.none } }
noncomputable def hd.o102 (P : Params) : Obj :=
{ cls := Value.type "code",
  data :=
    Data.fields
      #[Value.str (Str.ofString "_law_outside") 308,
        Value.str (Str.ofString "_law_outside") 309,
        Value.str (Str.ofString "/claim/cut.py") 310, Value.int 91 0, Value.int 1 0,
        Value.int 0 0, Value.int 0 0, Value.int 3 0, Value.ref 100, Value.bool Bool.true,
        Value.int 181 0, Value.ref 101, Value.none, Value.ref 102, Value.ref 103,
        Value.ref 104, Value.int 315 0, Value.int 91 0,
        Value.str (Str.ofString "/claim/cut.py") 316] }
noncomputable def hd.o103 (P : Params) : Obj :=
{ cls := Value.type "function",
  data :=
    Data.func
      { name := Str.ofString "_law_outside", qualname := Str.ofString "_law_outside", params := fP 9,
        body := fB 9, scope := fS 9, globals := 3, closure := [], defaults := Value.none,
        kwdefaults := Value.none, pyModule := Value.str (Str.ofString "law_lo0003_02") 286,
        code := Value.ref 105 } }
noncomputable def hd.o104 (P : Params) : Obj :=
{ cls := Value.type "tuple", data := Data.seq #[] }
noncomputable def hd.o105 (P : Params) : Obj :=
{ cls := Value.none, data := Data.fields #[] }
noncomputable def hd.o106 (P : Params) : Obj :=
{ cls := Value.type "tuple",
  data :=
    Data.seq
      #[Value.str (Str.ofString "part") 321, Value.str (Str.ofString "places") 322,
        Value.str (Str.ofString "waiting") 323, Value.str (Str.ofString "at") 324] }
noncomputable def hd.o107 (P : Params) : Obj :=
{ cls := Value.type "tuple", data := Data.seq #[] }
noncomputable def hd.o108 (P : Params) : Obj :=
{ cls := Value.none,
  data :=
    Data.func
      { name := Str.ofString "_law_colon", qualname := Str.ofString "_law_colon", params := fP 10,
        body := fB 10, scope := fS 10, globals := 0, closure := [], defaults := Value.none,
        kwdefaults := Value.none } }
noncomputable def hd.o109 (P : Params) : Obj :=
{ cls := Value.type "code",
  data :=
    Data.fields
      #[Value.str (Str.ofString "_law_colon") 318, Value.str (Str.ofString "_law_colon") 319,
        Value.str (Str.ofString "/claim/cut.py") 320, Value.int 102 0, Value.int 2 0,
        Value.int 0 0, Value.int 0 0, Value.int 3 0, Value.ref 107, Value.bool Bool.true,
        Value.int 181 0, Value.ref 108, Value.none, Value.ref 109, Value.ref 110,
        Value.ref 111, Value.int 325 0, Value.int 102 0,
        Value.str (Str.ofString "/claim/cut.py") 326] }
noncomputable def hd.o110 (P : Params) : Obj :=
{ cls := Value.type "function",
  data :=
    Data.func
      { name := Str.ofString "_law_colon", qualname := Str.ofString "_law_colon", params := fP 10,
        body := fB 10, scope := fS 10, globals := 3, closure := [], defaults := Value.none,
        kwdefaults := Value.none, pyModule := Value.str (Str.ofString "law_lo0003_02") 286,
        code := Value.ref 112 } }
noncomputable def hd.o111 (P : Params) : Obj :=
{ cls := Value.type "tuple", data := Data.seq #[] }
noncomputable def hd.o112 (P : Params) : Obj :=
{ cls := Value.none, data := Data.fields #[] }
noncomputable def hd.o113 (P : Params) : Obj :=
{ cls := Value.type "tuple", data := Data.seq #[Value.str (Str.ofString "word") 331] }
noncomputable def hd.o114 (P : Params) : Obj :=
{ cls := Value.type "tuple", data := Data.seq #[] }
noncomputable def hd.o115 (P : Params) : Obj :=
{ cls := Value.none,
  data :=
    Data.func
      { name := Str.ofString "_law_number", qualname := Str.ofString "_law_number", params := fP 11,
        body := fB 11, scope := fS 11, globals := 0, closure := [], defaults := Value.none,
        kwdefaults := Value.none } }
noncomputable def hd.o116 (P : Params) : Obj :=
{ cls := Value.type "code",
  data :=
    Data.fields
      #[Value.str (Str.ofString "_law_number") 328, Value.str (Str.ofString "_law_number") 329,
        Value.str (Str.ofString "/claim/cut.py") 330, Value.int 112 0, Value.int 1 0,
        Value.int 0 0, Value.int 0 0, Value.int 3 0, Value.ref 114, Value.bool Bool.true,
        Value.int 181 0, Value.ref 115, Value.none, Value.ref 116, Value.ref 117,
        Value.ref 118, Value.int 332 0, Value.int 112 0,
        Value.str (Str.ofString "/claim/cut.py") 333] }
noncomputable def hd.o117 (P : Params) : Obj :=
{ cls := Value.type "function",
  data :=
    Data.func
      { name := Str.ofString "_law_number", qualname := Str.ofString "_law_number", params := fP 11,
        body := fB 11, scope := fS 11, globals := 3, closure := [], defaults := Value.none,
        kwdefaults := Value.none, pyModule := Value.str (Str.ofString "law_lo0003_02") 286,
        code := Value.ref 119 } }
noncomputable def hd.tr4 (P : Params) : BT := (.node (boot_o_0 P) (.node (boot_o_1 P) (.node (hd.o88 P) (.node (boot_o_7 P) (.node (hd.o7 P) (.node (hd.o24 P) (.node (hd.o56 P) .nil .nil) (.node (hd.o92 P) .nil .nil)) (.node (hd.o40 P) (.node (hd.o74 P) .nil .nil) (.node (hd.o108 P) .nil .nil))) (.node (hd.o15 P) (.node (hd.o32 P) (.node (hd.o64 P) .nil .nil) (.node (hd.o100 P) .nil .nil)) (.node (hd.o48 P) (.node (hd.o82 P) .nil .nil) (.node (hd.o116 P) .nil .nil)))) (.node (hd.o1 P) (.node (hd.o11 P) (.node (hd.o28 P) (.node (hd.o60 P) .nil .nil) (.node (hd.o96 P) .nil .nil)) (.node (hd.o44 P) (.node (hd.o78 P) .nil .nil) (.node (hd.o112 P) .nil .nil))) (.node (hd.o19 P) (.node (hd.o36 P) (.node (hd.o68 P) .nil .nil) (.node (hd.o104 P) .nil .nil)) (.node (hd.o52 P) (.node (hd.o86 P) .nil .nil) .nil)))) (.node (boot_o_5 P) (.node (boot_o_9 P) (.node (hd.o9 P) (.node (hd.o26 P) (.node (hd.o58 P) .nil .nil) (.node (hd.o94 P) .nil .nil)) (.node (hd.o42 P) (.node (hd.o76 P) .nil .nil) (.node (hd.o110 P) .nil .nil))) (.node (hd.o17 P) (.node (hd.o34 P) (.node (hd.o66 P) .nil .nil) (.node (hd.o102 P) .nil .nil)) (.node (hd.o50 P) (.node (hd.o84 P) .nil .nil) .nil))) (.node (hd.o3 P) (.node (hd.o13 P) (.node (hd.o30 P) (.node (hd.o62 P) .nil .nil) (.node (hd.o98 P) .nil .nil)) (.node (hd.o46 P) (.node (hd.o80 P) .nil .nil) (.node (hd.o114 P) .nil .nil))) (.node (hd.o22 P) (.node (hd.o38 P) (.node (hd.o72 P) .nil .nil) (.node (hd.o106 P) .nil .nil)) (.node (hd.o54 P) (.node (hd.o90 P) .nil .nil) .nil))))) (.node (boot_o_2 P) (.node (boot_o_4 P) (.node (boot_o_8 P) (.node (hd.o8 P) (.node (hd.o25 P) (.node (hd.o57 P) .nil .nil) (.node (hd.o93 P) .nil .nil)) (.node (hd.o41 P) (.node (hd.o75 P) .nil .nil) (.node (hd.o109 P) .nil .nil))) (.node (hd.o16 P) (.node (hd.o33 P) (.node (hd.o65 P) .nil .nil) (.node (hd.o101 P) .nil .nil)) (.node (hd.o49 P) (.node (hd.o83 P) .nil .nil) (.node (hd.o117 P) .nil .nil)))) (.node (hd.o89 P) (.node (hd.o12 P) (.node (hd.o29 P) (.node (hd.o61 P) .nil .nil) (.node (hd.o97 P) .nil .nil)) (.node (hd.o45 P) (.node (hd.o79 P) .nil .nil) (.node (hd.o113 P) .nil .nil))) (.node (hd.o20 P) (.node (hd.o37 P) (.node (hd.o69 P) .nil .nil) (.node (hd.o105 P) .nil .nil)) (.node (hd.o53 P) (.node (hd.o87 P) .nil .nil) .nil)))) (.node (boot_o_6 P) (.node (boot_o_10 P) (.node (hd.o10 P) (.node (hd.o27 P) (.node (hd.o59 P) .nil .nil) (.node (hd.o95 P) .nil .nil)) (.node (hd.o43 P) (.node (hd.o77 P) .nil .nil) (.node (hd.o111 P) .nil .nil))) (.node (hd.o18 P) (.node (hd.o35 P) (.node (hd.o67 P) .nil .nil) (.node (hd.o103 P) .nil .nil)) (.node (hd.o51 P) (.node (hd.o85 P) .nil .nil) .nil))) (.node (hd.o4 P) (.node (hd.o14 P) (.node (hd.o31 P) (.node (hd.o63 P) .nil .nil) (.node (hd.o99 P) .nil .nil)) (.node (hd.o47 P) (.node (hd.o81 P) .nil .nil) (.node (hd.o115 P) .nil .nil))) (.node (hd.o23 P) (.node (hd.o39 P) (.node (hd.o73 P) .nil .nil) (.node (hd.o107 P) .nil .nil)) (.node (hd.o55 P) (.node (hd.o91 P) .nil .nil) .nil))))))
noncomputable def hd.s4 (w : World) (os : OsState) : SharedT := ⟨hd.tr4 w.params, 121, { }, #[], { }, 335, os⟩
noncomputable def hd.o118 (P : Params) : Obj :=
{ cls := Value.type "dict",
  data :=
    Data.dict
      #[{ hash := PyData.keyHash P (Str.ofString "__name__"),
          key := Value.str (Str.ofString "__name__") 165,
          val := Value.str (Str.ofString "law_lo0003_02") 286 },
        { hash := PyData.keyHash P (Str.ofString "__doc__"),
          key := Value.str (Str.ofString "__doc__") 166, val := Value.none },
        { hash := PyData.keyHash P (Str.ofString "__package__"),
          key := Value.str (Str.ofString "__package__") 167, val := Value.none },
        { hash := PyData.keyHash P (Str.ofString "__loader__"),
          key := Value.str (Str.ofString "__loader__") 168,
          val := Value.builtin "__main__.__loader__#opaque" },
        { hash := PyData.keyHash P (Str.ofString "__spec__"),
          key := Value.str (Str.ofString "__spec__") 169, val := Value.none },
        { hash := PyData.keyHash P (Str.ofString "__annotations__"),
          key := Value.str (Str.ofString "__annotations__") 170, val := Value.ref 6 },
        { hash := PyData.keyHash P (Str.ofString "__builtins__"),
          key := Value.str (Str.ofString "__builtins__") 171, val := Value.ref 4 },
        { hash := PyData.keyHash P (Str.ofString "__file__"),
          key := Value.str (Str.ofString "__file__") 173,
          val := Value.str (Str.ofString "/claim/cut.py") 172 },
        { hash := PyData.keyHash P (Str.ofString "__cached__"),
          key := Value.str (Str.ofString "__cached__") 174, val := Value.none },
        { hash := PyData.keyHash P (Str.ofString "_error"),
          key := Value.str (Str.ofString "_error") 195, val := Value.ref 21 },
        { hash := PyData.keyHash P (Str.ofString "_binary_ops"),
          key := Value.str (Str.ofString "_binary_ops") 209, val := Value.ref 31 },
        { hash := PyData.keyHash P (Str.ofString "_c2py_ops"),
          key := Value.str (Str.ofString "_c2py_ops") 265, val := Value.ref 77 },
        { hash := PyData.keyHash P (Str.ofString "_parse"),
          key := Value.str (Str.ofString "_parse") 285, val := Value.ref 85 },
        { hash := PyData.keyHash P (Str.ofString "_law_due"),
          key := Value.str (Str.ofString "_law_due") 294, val := Value.ref 92 },
        { hash := PyData.keyHash P (Str.ofString "_law_formula"),
          key := Value.str (Str.ofString "_law_formula") 307, val := Value.ref 99 },
        { hash := PyData.keyHash P (Str.ofString "_law_outside"),
          key := Value.str (Str.ofString "_law_outside") 317, val := Value.ref 106 },
        { hash := PyData.keyHash P (Str.ofString "_law_colon"),
          key := Value.str (Str.ofString "_law_colon") 327, val := Value.ref 113 },
        { hash := PyData.keyHash P (Str.ofString "_law_number"),
          key := Value.str (Str.ofString "_law_number") 334, val := Value.ref 120 },
        { hash := PyData.keyHash P (Str.ofString "_law_compares"),
          key := Value.str (Str.ofString "_law_compares") 340, val := Value.ref 125 },
        { hash := PyData.keyHash P (Str.ofString "_law_tree"),
          key := Value.str (Str.ofString "_law_tree") 346, val := Value.ref 130 },
        { hash := PyData.keyHash P (Str.ofString "_law_reaches"),
          key := Value.str (Str.ofString "_law_reaches") 354, val := Value.ref 137 },
        { hash := PyData.keyHash P (Str.ofString "_law_python"),
          key := Value.str (Str.ofString "_law_python") 360, val := Value.ref 142 },
        { hash := PyData.keyHash P (Str.ofString "law"),
          key := Value.str (Str.ofString "law") 371, val := Value.ref 149 }]
      23 }
noncomputable def hd.o119 (P : Params) : Obj :=
{ cls := Value.none,
  data :=
    Data.fields
      #[Value.int 2 0, Value.int 0 0, Value.ref 20, Value.int 10 0, Value.int 0 0,
        Value.ref 84, Value.int 53 0, Value.int 0 0, Value.ref 91, Value.int 57 0,
        Value.int 0 0, Value.ref 98, Value.int 91 0, Value.int 0 0, Value.ref 105,
        Value.int 102 0, Value.int 0 0, Value.ref 112, Value.int 112 0, Value.int 0 0,
        Value.ref 119, Value.int 116 0, Value.int 0 0, Value.ref 124, Value.int 118 0,
        Value.int 0 0, Value.ref 129, Value.int 136 0, Value.int 0 0, Value.ref 136,
        Value.int 138 0, Value.int 0 0, Value.ref 141, Value.int 170 0, Value.int 0 0,
        Value.ref 148] }
noncomputable def hd.o120 (P : Params) : Obj :=
{ cls := Value.type "tuple", data := Data.seq #[] }
noncomputable def hd.o121 (P : Params) : Obj :=
{ cls := Value.none, data := Data.fields #[] }
noncomputable def hd.o122 (P : Params) : Obj :=
{ cls := Value.none,
  data :=
    Data.func
      { name := Str.ofString "_law_compares", qualname := Str.ofString "_law_compares",
        params := fP 12, body := fB 12, scope := fS 12, globals := 0, closure := [],
        defaults := Value.none, kwdefaults := Value.none } }
noncomputable def hd.o123 (P : Params) : Obj :=
{ cls := Value.type "code",
  data :=
    Data.fields
      #[Value.str (Str.ofString "_law_compares") 335,
        Value.str (Str.ofString "_law_compares") 336,
        Value.str (Str.ofString "/claim/cut.py") 337, Value.int 116 0, Value.int 1 0,
        Value.int 0 0, Value.int 0 0, Value.int 3 0, Value.ref 121, Value.bool Bool.true,
        Value.int 181 0, Value.ref 122, Value.none, Value.none, Value.none,
        Value.ref 123, Value.int 338 0, Value.int 116 0,
        Value.str (Str.ofString "/claim/cut.py") 339] }
noncomputable def hd.o124 (P : Params) : Obj :=
{ cls := Value.type "function",
  data :=
    Data.func
      { name := Str.ofString "_law_compares", qualname := Str.ofString "_law_compares",
        params := fP 12, body := fB 12, scope := fS 12, globals := 3, closure := [],
        defaults := Value.none, kwdefaults := Value.none,
        pyModule := Value.str (Str.ofString "law_lo0003_02") 286, code := Value.ref 124 } }
noncomputable def hd.o125 (P : Params) : Obj :=
{ cls := Value.type "tuple", data := Data.seq #[] }
noncomputable def hd.o126 (P : Params) : Obj :=
{ cls := Value.none, data := Data.fields #[] }
noncomputable def hd.o127 (P : Params) : Obj :=
{ cls := Value.none,
  data :=
    Data.func
      { name := Str.ofString "_law_tree", qualname := Str.ofString "_law_tree", params := fP 13,
        body := fB 13, scope := fS 13, globals := 0, closure := [], defaults := Value.none,
        kwdefaults := Value.none } }
noncomputable def hd.o128 (P : Params) : Obj :=
{ cls := Value.type "code",
  data :=
    Data.fields
      #[Value.str (Str.ofString "_law_tree") 341, Value.str (Str.ofString "_law_tree") 342,
        Value.str (Str.ofString "/claim/cut.py") 343, Value.int 118 0, Value.int 1 0,
        Value.int 0 0, Value.int 0 0, Value.int 3 0, Value.ref 126, Value.bool Bool.true,
        Value.int 181 0, Value.ref 127, Value.none, Value.none, Value.none,
        Value.ref 128, Value.int 344 0, Value.int 118 0,
        Value.str (Str.ofString "/claim/cut.py") 345] }
noncomputable def hd.o129 (P : Params) : Obj :=
{ cls := Value.type "function",
  data :=
    Data.func
      { name := Str.ofString "_law_tree", qualname := Str.ofString "_law_tree", params := fP 13,
        body := fB 13, scope := fS 13, globals := 3, closure := [], defaults := Value.none,
        kwdefaults := Value.none, pyModule := Value.str (Str.ofString "law_lo0003_02") 286,
        code := Value.ref 129 } }
noncomputable def hd.o130 (P : Params) : Obj :=
{ cls := Value.type "tuple", data := Data.seq #[] }
noncomputable def hd.o131 (P : Params) : Obj :=
{ cls := Value.none, data := Data.fields #[] }
noncomputable def hd.o132 (P : Params) : Obj :=
{ cls := Value.type "tuple",
  data :=
    Data.seq #[Value.str (Str.ofString "part") 350, Value.str (Str.ofString "at") 351] }
noncomputable def hd.o133 (P : Params) : Obj :=
{ cls := Value.type "tuple", data := Data.seq #[] }
noncomputable def hd.o134 (P : Params) : Obj :=
{ cls := Value.none,
  data :=
    Data.func
      { name := Str.ofString "_law_reaches", qualname := Str.ofString "_law_reaches", params := fP 14,
        body := fB 14, scope := fS 14, globals := 0, closure := [], defaults := Value.none,
        kwdefaults := Value.none } }
noncomputable def hd.o135 (P : Params) : Obj :=
{ cls := Value.type "code",
  data :=
    Data.fields
      #[Value.str (Str.ofString "_law_reaches") 347,
        Value.str (Str.ofString "_law_reaches") 348,
        Value.str (Str.ofString "/claim/cut.py") 349, Value.int 136 0, Value.int 2 0,
        Value.int 0 0, Value.int 0 0, Value.int 3 0, Value.ref 131, Value.bool Bool.true,
        Value.int 181 0, Value.ref 132, Value.none, Value.ref 133, Value.ref 134,
        Value.ref 135, Value.int 352 0, Value.int 136 0,
        Value.str (Str.ofString "/claim/cut.py") 353] }
noncomputable def hd.o136 (P : Params) : Obj :=
{ cls := Value.type "function",
  data :=
    Data.func
      { name := Str.ofString "_law_reaches", qualname := Str.ofString "_law_reaches", params := fP 14,
        body := fB 14, scope := fS 14, globals := 3, closure := [], defaults := Value.none,
        kwdefaults := Value.none, pyModule := Value.str (Str.ofString "law_lo0003_02") 286,
        code := Value.ref 136 } }
noncomputable def hd.o137 (P : Params) : Obj :=
{ cls := Value.type "tuple", data := Data.seq #[] }
noncomputable def hd.o138 (P : Params) : Obj :=
{ cls := Value.none, data := Data.fields #[] }
noncomputable def hd.o139 (P : Params) : Obj :=
{ cls := Value.none,
  data :=
    Data.func
      { name := Str.ofString "_law_python", qualname := Str.ofString "_law_python", params := fP 15,
        body := fB 15, scope := fS 15, globals := 0, closure := [], defaults := Value.none,
        kwdefaults := Value.none } }
noncomputable def hd.o140 (P : Params) : Obj :=
{ cls := Value.type "code",
  data :=
    Data.fields
      #[Value.str (Str.ofString "_law_python") 355, Value.str (Str.ofString "_law_python") 356,
        Value.str (Str.ofString "/claim/cut.py") 357, Value.int 138 0, Value.int 1 0,
        Value.int 0 0, Value.int 0 0, Value.int 3 0, Value.ref 138, Value.bool Bool.true,
        Value.int 181 0, Value.ref 139, Value.none, Value.none, Value.none,
        Value.ref 140, Value.int 358 0, Value.int 138 0,
        Value.str (Str.ofString "/claim/cut.py") 359] }
noncomputable def hd.o141 (P : Params) : Obj :=
{ cls := Value.type "function",
  data :=
    Data.func
      { name := Str.ofString "_law_python", qualname := Str.ofString "_law_python", params := fP 15,
        body := fB 15, scope := fS 15, globals := 3, closure := [], defaults := Value.none,
        kwdefaults := Value.none, pyModule := Value.str (Str.ofString "law_lo0003_02") 286,
        code := Value.ref 141 } }
noncomputable def hd.o142 (P : Params) : Obj :=
{ cls := Value.type "tuple", data := Data.seq #[] }
noncomputable def hd.o143 (P : Params) : Obj :=
{ cls := Value.none, data := Data.fields #[] }
noncomputable def hd.o144 (P : Params) : Obj :=
{ cls := Value.type "tuple",
  data :=
    Data.seq
      #[Value.str (Str.ofString "script") 364, Value.str (Str.ofString "row") 365,
        Value.str (Str.ofString "source") 366, Value.str (Str.ofString "text") 367,
        Value.str (Str.ofString "last") 368] }
noncomputable def hd.o145 (P : Params) : Obj :=
{ cls := Value.type "tuple", data := Data.seq #[] }
noncomputable def hd.o146 (P : Params) : Obj :=
{ cls := Value.none,
  data :=
    Data.func
      { name := Str.ofString "law", qualname := Str.ofString "law", params := fP 16,
        body := fB 16, scope := fS 16, globals := 0, closure := [], defaults := Value.none,
        kwdefaults := Value.none } }
noncomputable def hd.o147 (P : Params) : Obj :=
{ cls := Value.type "code",
  data :=
    Data.fields
      #[Value.str (Str.ofString "law") 361, Value.str (Str.ofString "law") 362,
        Value.str (Str.ofString "/claim/cut.py") 363, Value.int 170 0, Value.int 1 0,
        Value.int 0 0, Value.int 0 0, Value.int 3 0, Value.ref 143, Value.bool Bool.true,
        Value.int 181 0, Value.ref 144, Value.none, Value.ref 145, Value.ref 146,
        Value.ref 147, Value.int 369 0, Value.int 170 0,
        Value.str (Str.ofString "/claim/cut.py") 370] }
noncomputable def hd.o148 (P : Params) : Obj :=
{ cls := Value.type "function",
  data :=
    Data.func
      { name := Str.ofString "law", qualname := Str.ofString "law", params := fP 16,
        body := fB 16, scope := fS 16, globals := 3, closure := [], defaults := Value.none,
        kwdefaults := Value.none, pyModule := Value.str (Str.ofString "law_lo0003_02") 286,
        code := Value.ref 148 } }
noncomputable def hd.tr5 (P : Params) : BT := (.node (boot_o_0 P) (.node (boot_o_1 P) (.node (hd.o118 P) (.node (boot_o_7 P) (.node (hd.o7 P) (.node (hd.o24 P) (.node (hd.o56 P) (.node (hd.o126 P) .nil .nil) .nil) (.node (hd.o92 P) .nil .nil)) (.node (hd.o40 P) (.node (hd.o74 P) (.node (hd.o142 P) .nil .nil) .nil) (.node (hd.o108 P) .nil .nil))) (.node (hd.o15 P) (.node (hd.o32 P) (.node (hd.o64 P) (.node (hd.o134 P) .nil .nil) .nil) (.node (hd.o100 P) .nil .nil)) (.node (hd.o48 P) (.node (hd.o82 P) .nil .nil) (.node (hd.o116 P) .nil .nil)))) (.node (hd.o1 P) (.node (hd.o11 P) (.node (hd.o28 P) (.node (hd.o60 P) (.node (hd.o130 P) .nil .nil) .nil) (.node (hd.o96 P) .nil .nil)) (.node (hd.o44 P) (.node (hd.o78 P) (.node (hd.o146 P) .nil .nil) .nil) (.node (hd.o112 P) .nil .nil))) (.node (hd.o19 P) (.node (hd.o36 P) (.node (hd.o68 P) (.node (hd.o138 P) .nil .nil) .nil) (.node (hd.o104 P) .nil .nil)) (.node (hd.o52 P) (.node (hd.o86 P) .nil .nil) (.node (hd.o122 P) .nil .nil))))) (.node (boot_o_5 P) (.node (boot_o_9 P) (.node (hd.o9 P) (.node (hd.o26 P) (.node (hd.o58 P) (.node (hd.o128 P) .nil .nil) .nil) (.node (hd.o94 P) .nil .nil)) (.node (hd.o42 P) (.node (hd.o76 P) (.node (hd.o144 P) .nil .nil) .nil) (.node (hd.o110 P) .nil .nil))) (.node (hd.o17 P) (.node (hd.o34 P) (.node (hd.o66 P) (.node (hd.o136 P) .nil .nil) .nil) (.node (hd.o102 P) .nil .nil)) (.node (hd.o50 P) (.node (hd.o84 P) .nil .nil) (.node (hd.o120 P) .nil .nil)))) (.node (hd.o3 P) (.node (hd.o13 P) (.node (hd.o30 P) (.node (hd.o62 P) (.node (hd.o132 P) .nil .nil) .nil) (.node (hd.o98 P) .nil .nil)) (.node (hd.o46 P) (.node (hd.o80 P) (.node (hd.o148 P) .nil .nil) .nil) (.node (hd.o114 P) .nil .nil))) (.node (hd.o22 P) (.node (hd.o38 P) (.node (hd.o72 P) (.node (hd.o140 P) .nil .nil) .nil) (.node (hd.o106 P) .nil .nil)) (.node (hd.o54 P) (.node (hd.o90 P) .nil .nil) (.node (hd.o124 P) .nil .nil)))))) (.node (boot_o_2 P) (.node (boot_o_4 P) (.node (boot_o_8 P) (.node (hd.o8 P) (.node (hd.o25 P) (.node (hd.o57 P) (.node (hd.o127 P) .nil .nil) .nil) (.node (hd.o93 P) .nil .nil)) (.node (hd.o41 P) (.node (hd.o75 P) (.node (hd.o143 P) .nil .nil) .nil) (.node (hd.o109 P) .nil .nil))) (.node (hd.o16 P) (.node (hd.o33 P) (.node (hd.o65 P) (.node (hd.o135 P) .nil .nil) .nil) (.node (hd.o101 P) .nil .nil)) (.node (hd.o49 P) (.node (hd.o83 P) .nil .nil) (.node (hd.o117 P) .nil .nil)))) (.node (hd.o119 P) (.node (hd.o12 P) (.node (hd.o29 P) (.node (hd.o61 P) (.node (hd.o131 P) .nil .nil) .nil) (.node (hd.o97 P) .nil .nil)) (.node (hd.o45 P) (.node (hd.o79 P) (.node (hd.o147 P) .nil .nil) .nil) (.node (hd.o113 P) .nil .nil))) (.node (hd.o20 P) (.node (hd.o37 P) (.node (hd.o69 P) (.node (hd.o139 P) .nil .nil) .nil) (.node (hd.o105 P) .nil .nil)) (.node (hd.o53 P) (.node (hd.o87 P) .nil .nil) (.node (hd.o123 P) .nil .nil))))) (.node (boot_o_6 P) (.node (boot_o_10 P) (.node (hd.o10 P) (.node (hd.o27 P) (.node (hd.o59 P) (.node (hd.o129 P) .nil .nil) .nil) (.node (hd.o95 P) .nil .nil)) (.node (hd.o43 P) (.node (hd.o77 P) (.node (hd.o145 P) .nil .nil) .nil) (.node (hd.o111 P) .nil .nil))) (.node (hd.o18 P) (.node (hd.o35 P) (.node (hd.o67 P) (.node (hd.o137 P) .nil .nil) .nil) (.node (hd.o103 P) .nil .nil)) (.node (hd.o51 P) (.node (hd.o85 P) .nil .nil) (.node (hd.o121 P) .nil .nil)))) (.node (hd.o4 P) (.node (hd.o14 P) (.node (hd.o31 P) (.node (hd.o63 P) (.node (hd.o133 P) .nil .nil) .nil) (.node (hd.o99 P) .nil .nil)) (.node (hd.o47 P) (.node (hd.o81 P) .nil .nil) (.node (hd.o115 P) .nil .nil))) (.node (hd.o23 P) (.node (hd.o39 P) (.node (hd.o73 P) (.node (hd.o141 P) .nil .nil) .nil) (.node (hd.o107 P) .nil .nil)) (.node (hd.o55 P) (.node (hd.o91 P) .nil .nil) (.node (hd.o125 P) .nil .nil)))))))
noncomputable def hd.s5 (w : World) (os : OsState) : SharedT := ⟨hd.tr5 w.params, 150, { }, #[], { }, 372, os⟩
noncomputable def hd.hf (P : Params) : Heap := ⟨⟨[boot_o_0 P, boot_o_1 P, boot_o_2 P, hd.o118 P, boot_o_4 P, boot_o_5 P, boot_o_6 P, boot_o_7 P, boot_o_8 P, boot_o_9 P, boot_o_10 P, hd.o1 P, hd.o119 P, hd.o3 P, hd.o4 P, hd.o7 P, hd.o8 P, hd.o9 P, hd.o10 P, hd.o11 P, hd.o12 P, hd.o13 P, hd.o14 P, hd.o15 P, hd.o16 P, hd.o17 P, hd.o18 P, hd.o19 P, hd.o20 P, hd.o22 P, hd.o23 P, hd.o24 P, hd.o25 P, hd.o26 P, hd.o27 P, hd.o28 P, hd.o29 P, hd.o30 P, hd.o31 P, hd.o32 P, hd.o33 P, hd.o34 P, hd.o35 P, hd.o36 P, hd.o37 P, hd.o38 P, hd.o39 P, hd.o40 P, hd.o41 P, hd.o42 P, hd.o43 P, hd.o44 P, hd.o45 P, hd.o46 P, hd.o47 P, hd.o48 P, hd.o49 P, hd.o50 P, hd.o51 P, hd.o52 P, hd.o53 P, hd.o54 P, hd.o55 P, hd.o56 P, hd.o57 P, hd.o58 P, hd.o59 P, hd.o60 P, hd.o61 P, hd.o62 P, hd.o63 P, hd.o64 P, hd.o65 P, hd.o66 P, hd.o67 P, hd.o68 P, hd.o69 P, hd.o72 P, hd.o73 P, hd.o74 P, hd.o75 P, hd.o76 P, hd.o77 P, hd.o78 P, hd.o79 P, hd.o80 P, hd.o81 P, hd.o82 P, hd.o83 P, hd.o84 P, hd.o85 P, hd.o86 P, hd.o87 P, hd.o90 P, hd.o91 P, hd.o92 P, hd.o93 P, hd.o94 P, hd.o95 P, hd.o96 P, hd.o97 P, hd.o98 P, hd.o99 P, hd.o100 P, hd.o101 P, hd.o102 P, hd.o103 P, hd.o104 P, hd.o105 P, hd.o106 P, hd.o107 P, hd.o108 P, hd.o109 P, hd.o110 P, hd.o111 P, hd.o112 P, hd.o113 P, hd.o114 P, hd.o115 P, hd.o116 P, hd.o117 P, hd.o120 P, hd.o121 P, hd.o122 P, hd.o123 P, hd.o124 P, hd.o125 P, hd.o126 P, hd.o127 P, hd.o128 P, hd.o129 P, hd.o130 P, hd.o131 P, hd.o132 P, hd.o133 P, hd.o134 P, hd.o135 P, hd.o136 P, hd.o137 P, hd.o138 P, hd.o139 P, hd.o140 P, hd.o141 P, hd.o142 P, hd.o143 P, hd.o144 P, hd.o145 P, hd.o146 P, hd.o147 P, hd.o148 P]⟩, { }⟩
noncomputable def hd.gf : Array GenState := #[]
noncomputable def hd.df : Drawn := { }
noncomputable def hd.sf (w : World) (os : OsState) : Shared := ⟨hd.hf w.params, hd.gf, hd.df, 372, os⟩
noncomputable abbrev hd.env : Env := { scope := hprg.main.scope, locals := mainNs, globals := mainNs, cells := [], code := Value.ref 13, frame := some 14 }
noncomputable def cutS (i n : Nat) : List Stmt := ((behindTheImports hprg).drop i).take n
noncomputable abbrev hd.ann : Option Value := Option.some (Value.ref 6)
noncomputable abbrev hd.fp : Pos := { line := 0, col := 0, endLine := 0, endCol := 0 }
noncomputable abbrev hd.B : List Frame := [topFrame hd.fp]
noncomputable def hd.q1 : List Stmt := cutS 0 3
noncomputable def hd.q2 : List Stmt := cutS 3 1
noncomputable def hd.q3 : List Stmt := cutS 4 4
noncomputable def hd.q4 : List Stmt := cutS 8 4
noncomputable def hd.q5 : List Stmt := cutS 12 5
noncomputable abbrev hd.body : List Stmt := hd.q1 ++ (hd.q2 ++ (hd.q3 ++ (hd.q4 ++ (hd.q5 ++ ([])))))
noncomputable abbrev hd.c : Code := .body hd.body hd.env
noncomputable abbrev rw1 (r : String) (b : Bool) (w : World) : World := w.withFollow r b
set_option maxHeartbeats 4000000 in
theorem hd.open_ (w : World) : (fencedOpening treeTable hprg w 3934).map (fun s => (s.heap, s.gens, s.drawn, s.toks)) = some (hd.h0 w.params, hd.g0, hd.d0, 181) := by kernel_rfl
theorem hd.size (w : World) : ((hd.h0 w.params).isNs mainGlobals && hd.g0.size == 0, (hd.h0 w.params).objs.size, (hd.h0 w.params).nsMap mainGlobals "__annotations__") = (true, 11, hd.ann) := by kernel_rfl
set_option maxHeartbeats 4000000 in
theorem hd.pre (w : World) : (fun os => topGo treeTable hprg w 11 hd.ann 12 (hd.s0 w os) (topStub hprg)) = fun os => some (hd.sa w os, ⟨denote treeTable hd.c, hd.c, { line := 0, col := 0, endLine := 0, endCol := 0 }, hd.B⟩) := by kernel_rfl
set_option maxHeartbeats 4000000 in
theorem hd.block (w : World) : (fun os => segRun treeTable hprg w 11 hd.ann 1 1 (hd.sa w os) (blockOf hd.body hd.env hd.c { line := 0, col := 0, endLine := 0, endCol := 0 } hd.B)) = fun os => some (.next, (hd.sb w os).abs, hd.c, { line := 0, col := 0, endLine := 0, endCol := 0 }) := by kernel_rfl
noncomputable def hd.P1 (w : World) : Prop := (fun os => segRunT treeTable hprg w 11 hd.ann 1 166 (hd.sb w os) (piecesOf hd.q1 hd.env hd.c { line := 0, col := 0, endLine := 0, endCol := 0 } hd.B)) = fun os => some (.next, hd.s1 w os, hd.c, { line := 7, col := 0, endLine := 7, endCol := 11 })
set_option maxHeartbeats 4000000 in
theorem hd.p1 (w : World) : hd.P1 (w) := by delta hd.P1; kernel_rfl
noncomputable def hd.P2 (w : World) : Prop := (fun os => segRunT treeTable hprg w 11 hd.ann 1 2724 (hd.s1 w os) (piecesOf hd.q2 hd.env hd.c { line := 7, col := 0, endLine := 7, endCol := 11 } hd.B)) = fun os => some (.next, hd.s2 w os, hd.c, { line := 8, col := 0, endLine := 8, endCol := 11 })
set_option maxHeartbeats 4000000 in
theorem hd.p2ff (w : World) : hd.P2 ((rw1 "comprehension-iter-twice" false (rw1 "special-get-raises" false w))) := by delta hd.P2; kernel_rfl
set_option maxHeartbeats 4000000 in
theorem hd.p2ft (w : World) : hd.P2 ((rw1 "comprehension-iter-twice" false (rw1 "special-get-raises" true w))) := by delta hd.P2; kernel_rfl
theorem hd.p2f (w : World) : hd.P2 ((rw1 "comprehension-iter-twice" false w)) := byRow2 "special-get-raises" (P := fun w => hd.P2 ((rw1 "comprehension-iter-twice" false w))) hd.p2ff hd.p2ft w
set_option maxHeartbeats 4000000 in
theorem hd.p2tf (w : World) : hd.P2 ((rw1 "comprehension-iter-twice" true (rw1 "special-get-raises" false w))) := by delta hd.P2; kernel_rfl
set_option maxHeartbeats 4000000 in
theorem hd.p2tt (w : World) : hd.P2 ((rw1 "comprehension-iter-twice" true (rw1 "special-get-raises" true w))) := by delta hd.P2; kernel_rfl
theorem hd.p2t (w : World) : hd.P2 ((rw1 "comprehension-iter-twice" true w)) := byRow2 "special-get-raises" (P := fun w => hd.P2 ((rw1 "comprehension-iter-twice" true w))) hd.p2tf hd.p2tt w
theorem hd.p2 (w : World) : hd.P2 (w) := byRow2 "comprehension-iter-twice" (P := fun w => hd.P2 (w)) hd.p2f hd.p2t w
noncomputable def hd.P3 (w : World) : Prop := (fun os => segRunT treeTable hprg w 11 hd.ann 1 300 (hd.s2 w os) (piecesOf hd.q3 hd.env hd.c { line := 8, col := 0, endLine := 8, endCol := 11 } hd.B)) = fun os => some (.next, hd.s3 w os, hd.c, { line := 53, col := 0, endLine := 56, endCol := 72 })
set_option maxHeartbeats 4000000 in
theorem hd.p3f (w : World) : hd.P3 ((rw1 "special-get-raises" false w)) := by delta hd.P3; kernel_rfl
set_option maxHeartbeats 4000000 in
theorem hd.p3t (w : World) : hd.P3 ((rw1 "special-get-raises" true w)) := by delta hd.P3; kernel_rfl
theorem hd.p3 (w : World) : hd.P3 (w) := byRow2 "special-get-raises" (P := fun w => hd.P3 (w)) hd.p3f hd.p3t w
noncomputable def hd.P4 (w : World) : Prop := (fun os => segRunT treeTable hprg w 11 hd.ann 1 276 (hd.s3 w os) (piecesOf hd.q4 hd.env hd.c { line := 53, col := 0, endLine := 56, endCol := 72 } hd.B)) = fun os => some (.next, hd.s4 w os, hd.c, { line := 112, col := 0, endLine := 115, endCol := 15 })
set_option maxHeartbeats 4000000 in
theorem hd.p4 (w : World) : hd.P4 (w) := by delta hd.P4; kernel_rfl
noncomputable def hd.P5 (w : World) : Prop := (fun os => segRunT treeTable hprg w 11 hd.ann 1 302 (hd.s4 w os) (piecesOf hd.q5 hd.env hd.c { line := 112, col := 0, endLine := 115, endCol := 15 } hd.B)) = fun os => some (.next, hd.s5 w os, hd.c, { line := 170, col := 0, endLine := 176, endCol := 92 })
set_option maxHeartbeats 4000000 in
theorem hd.p5 (w : World) : hd.P5 (w) := by delta hd.P5; kernel_rfl
set_option maxHeartbeats 4000000 in
theorem hd.fin (w : World) : (fun os => topRun treeTable hprg w 11 hd.ann 2 (hd.s5 w os).abs ⟨doneF .next, hd.c, { line := 170, col := 0, endLine := 176, endCol := 92 }, hd.B⟩) = fun os => some (hd.sf w os) := by kernel_rfl
theorem hd.run (w : World) (os : OsState) : topRun treeTable hprg w 11 hd.ann (12 + (1 + (166 + (2724 + (300 + (276 + (302 + (2)))))))) (hd.s0 w os) (topStub hprg) = some (hd.sf w os) := by
  have k := piece_nil (env := hd.env) (congrFun (hd.fin w) os)
  have k := piece_app (segRun_of (congrFun (hd.p5 w) os)) k
  have k := piece_app (segRun_of (congrFun (hd.p4 w) os)) k
  have k := piece_app (segRun_of (congrFun (hd.p3 w) os)) k
  have k := piece_app (segRun_of (congrFun (hd.p2 w) os)) k
  have k := piece_app (segRun_of (congrFun (hd.p1 w) os)) k
  have k := piece_block (b := hd.body) (congrFun (hd.block w) os) k
  exact go_top (congrFun (hd.pre w) os) k
set_option maxHeartbeats 4000000 in
theorem hd.look1 (w : World) : (fun os : OsState => staticsOk (importedModules hprg.main.body) (hd.h0 w.params) (hd.hf w.params) && namesBound hprg (hd.hf w.params) && gensDone (hd.sf w os) && laidKept (hd.h0 w.params) (hd.hf w.params)) = fun _ => true := by kernel_rfl
set_option maxHeartbeats 4000000 in
theorem hd.look2 (w : World) : (fun os : OsState => openSeen hd.view_39 hLoose (importedModules hprg.main.body) hX true (hd.sf w os)) = fun _ => openGood hd.view_39 hLoose := by kernel_rfl
set_option maxHeartbeats 4000000 in
theorem hd.look3 (w : World) : (fun os : OsState => hHook.obs (hd.sf w os)) = fun _ => hHook.val w := by kernel_rfl
theorem hd.looks (w : World) : (fun os : OsState => (staticsOk (importedModules hprg.main.body) (hd.h0 w.params) (hd.hf w.params) && namesBound hprg (hd.hf w.params) && gensDone (hd.sf w os) && laidKept (hd.h0 w.params) (hd.hf w.params), openSeen hd.view_39 hLoose (importedModules hprg.main.body) hX true (hd.sf w os), hHook.obs (hd.sf w os))) = fun _ => (true, openGood hd.view_39 hLoose, hHook.val w) :=
  funext fun os => looks_pair (congrFun (hd.look1 w) os) (looks_pair (congrFun (hd.look2 w) os) (congrFun (hd.look3 w) os))
theorem left : LeftO hprg hd.view_39 hLoose hX hHook.obs hHook.val 3934 :=
  LeftO.of_pieces (H₀ := hd.h0) (H₁ := hd.hf) (gs₀ := hd.g0) (gs₁ := hd.gf) (d₀ := hd.d0) (d₁ := hd.df) (k₀ := 181) (k₁ := 372) (m₀ := 11) (ann := hd.ann) (M := 12 + (1 + (166 + (2724 + (300 + (276 + (302 + (2)))))))) hd.open_ hd.size hd.run rfl hd.looks
end Mine
namespace Mine
local macro_rules | `(tactic| walk_at "loc") => `(tactic| first | with_reducible exact Loc.head | (with_reducible refine Loc.tail ?_; walk_at "loc"))
local macro_rules | `(tactic| walk_at "upd") => `(tactic| first | with_reducible exact Upd.head | (with_reducible apply Upd.tail; walk_at "upd"))
local macro_rules | `(tactic| walk_at "locd") => `(tactic| first | exact Loc.head | (with_reducible apply Loc.tail; walk_at "locd"))
noncomputable abbrev prg : Program := Challenge.rw_lo0003_02.row.prog
noncomputable def opsD : List (Str × PyData) := opsTab.map fun p => (p.1, .int p.2)
noncomputable def pyD : List (Str × PyData) := pyTab.map fun p => (p.1, .str p.2)
theorem ops_tab {w : World} {h₁ : Heap} (KX : (hd.heap_39 w.params).In h₁) : StrTab prg w h₁ 31 (opsD.map fun p => (.str p.1, p.2)) := by
  refine strTab_of opsD (by decide) (KX 31 _ rfl) ⟨rfl, rfl, rfl⟩ rfl ?_ (by decide +kernel)
  repeat (first | exact True.intro | refine ⟨⟨_, rfl⟩, rfl, V.Flat.int _ _, ?_⟩)
theorem c2py_tab {w : World} {h₁ : Heap} (KX : (hd.heap_39 w.params).In h₁) : StrTab prg w h₁ 77 (pyD.map fun p => (.str p.1, p.2)) := by
  refine strTab_of pyD (by decide) (KX 77 _ rfl) ⟨rfl, rfl, rfl⟩ rfl ?_ (by decide +kernel)
  repeat (first | exact True.intro | refine ⟨⟨_, rfl⟩, rfl, V.Flat.str _ _, ?_⟩)
theorem ops_look (t : Str) : Spec.lookup (.str t) (opsD.map fun p => (.str p.1, p.2)) = (lvl t).map .int := by
  rw [lookup_strs]
  unfold opsD lvl
  generalize opsTab = l
  induction l with
  | nil => rfl
  | cons p l ih =>
    rw [List.map_cons, List.lookup_cons, List.lookup_cons]
    cases t == p.1 with
    | true => rfl
    | false => exact ih
theorem py_look (t : Str) : (Spec.lookup (.str t) (pyD.map fun p => (.str p.1, p.2))).getD (.str t) = .str (pyOp t) := by
  rw [lookup_strs]
  unfold pyD pyOp
  generalize pyTab = l
  induction l with
  | nil => rfl
  | cons p l ih =>
    rw [List.map_cons, List.lookup_cons, List.lookup_cons]
    cases t == p.1 with
    | true => rfl
    | false => exact ih
theorem len_not : (Str.ofString "not ").length = 4 := by decide +kernel
/-- the names of _parse -/
noncomputable abbrev sigP (a : Addr) (toks : List Str) (p : Int) (res nx sub value j i op right yes no : AV) : Sig :=
  [(tk "tokens", .it a (toks.map .str)), (tk "priority", .val (.int p)), (tk "result", res), (tk "nexttok", nx), (tk "sub", sub), (tk "value", value), (tk "j", j), (tk "i", i), (tk "op", op), (tk "right", right), (tk "if_true", yes), (tk "if_false", no)]
/-- how _parse is called -/
noncomputable def ParseIs (w : World) (h₁ : Heap) (f : Nat) : Prop :=
  ∀ (p : Int) (toks : List Str) (text nx : Str) (rest : List Str), Smalls toks → toks.length ≤ 1000 → run f (.start p) toks = .ok text nx rest →
    PF prg w h₁ 85 f (toks.map .str) [.int p] (.tup [.str text, .str nx]) (rest.map .str) ∧ (p = -1 → PF prg w h₁ 85 f (toks.map .str) [] (.tup [.str text, .str nx]) (rest.map .str))
theorem parse_isFn {w : World} {h₁ : Heap} (KX : (hd.heap_39 w.params).In h₁) : IsFn h₁ 85 := ⟨_, _, KX 85 _ rfl, rfl⟩
set_option maxHeartbeats 4000000 in
theorem parse_body {w : World} {h₁ : Heap} {mg mb : Str → Option Value} (KX : (hd.heap_39 w.params).In h₁) (st : Stat h₁ mg mb) (F : Nat) (ih : ∀ f, f ≤ F → ParseIs w h₁ f)
    (p : Int) (toks : List Str) (text nx : Str) (rest : List Str) (hs : Smalls toks) (hn : toks.length ≤ 1000) (hrun : run (F + 1) (.start p) toks = .ok text nx rest)
    (args : List D) (hbind : ∀ (s : Shared) (g : G) (v : Value) (ws : List Value), Keep h₁ s.heap → Reps g ws args → ∃ us, BindsTo s (fdOf (hd.heap_39 w.params) 85) ⟨v :: ws, []⟩ ((tk "tokens", v) :: [tk "priority"].zip us) ∧ Reps g us [.int p]) :
    PF prg w h₁ 85 (F + 1) (toks.map .str) args (.tup [.str text, .str nx]) (rest.map .str) := by
  refine PF.of_body (x₀ := tk "tokens") (params := [tk "priority"]) (names := [tk "result", tk "nexttok", tk "sub", tk "value", tk "j", tk "i", tk "op", tk "right", tk "if_true", tk "if_false"]) (args' := [.int p]) st (KX 85 _ rfl) rfl (codeRec_of KX rfl) rfl rfl rfl rfl rfl hbind (by decide) (by decide) (by decide) rfl rfl rfl ?_
  intro c a ok is hsc hdp hun
  have ev := ok.toEv
  have L1 : (Str.ofString "(").length = 1 := by decide +kernel
  have L2 : (Str.ofString ")").length = 1 := by decide +kernel
  have L3 : (Str.ofString " ").length = 1 := by decide +kernel
  have L4 : (Str.ofString " if ").length = 4 := by decide +kernel
  have L5 : (Str.ofString " else ").length = 6 := by decide +kernel
  have gl : ∀ {x : Str} {v : Option Value}, (fdOf (hd.heap_39 w.params) 85).scope.names.lookup x = some .globalImplicit → (x == ("__debug__" : Str)) = false → mg x = v → GL c x v := fun h1 h2 h3 => GL.of is hsc h1 h2 h3
  have g_next : GL c "next" none := gl rfl rfl ((glob_at KX st.g rfl rfl _).trans rfl)
  have g_int : GL c "int" none := gl rfl rfl ((glob_at KX st.g rfl rfl _).trans rfl)
  have g_parse : GL c "_parse" (some (.ref 85)) := gl rfl rfl ((glob_at KX st.g rfl rfl _).trans rfl)
  have g_ops : GL c "_binary_ops" (some (.ref 31)) := gl rfl rfl ((glob_at KX st.g rfl rfl _).trans rfl)
  have g_c2py : GL c "_c2py_ops" (some (.ref 77)) := gl rfl rfl ((glob_at KX st.g rfl rfl _).trans rfl)
  have t_ops : StrTab c.prog c.w c.h₁ 31 (opsD.map fun p => (.str p.1, p.2)) := by rw [is.prog, is.w, is.h]; exact ops_tab KX
  have t_c2py : StrTab c.prog c.w c.h₁ 77 (pyD.map fun p => (.str p.1, p.2)) := by rw [is.prog, is.w, is.h]; exact c2py_tab KX
  show SX c _ (sigP a toks p .un .un .un .un .un .un .un .un .un .un) _ _
  -- result = '' ; nexttok = next(tokens)
  refine SX.assign ok EV.const_str (by walk_at "upd") rfl ?_
  have hl := skipNots_length toks
  have hm := skipNots_mem toks
  unfold run at hrun
  rcases hk : skipNots toks with ⟨k, r₀⟩
  rw [hk] at hrun hl hm
  cases r₀ with
  | nil => simp at hrun
  | cons t r =>
  dsimp only at hrun hl hm
  have ht : Small t := hs t (hm t (.head _))
  have ht64 := ht.1
  have hr : Smalls r := fun x hx => hs x (hm x (.tail _ hx))
  simp only [List.length_cons] at hl
  cases htoks : toks with
  | nil => rw [htoks] at hk; simp [skipNots] at hk
  | cons t₀ r₀ =>
  refine SX.assignX ok (EX.next (d := .str _) (ds := List.map D.str _) ev g_next (by walk_at "locd") (by walk_at "upd")) (by walk_at "upd") rfl ?_
  -- while nexttok == '!'
  refine SX.whileK (PassesOwn.never) (fun n σ => ∃ k' t' r', σ = sigP a r' p (.val (.str (notTxt k'))) (.val (.str t')) .un .un .un .un .un .un .un .un ∧ n = r'.length ∧ skipNots (t' :: r') = (k - k', t :: r) ∧ k' ≤ k)
    (fun σ => σ = sigP a r p (.val (.str (notTxt k))) (.val (.str t)) .un .un .un .un .un .un .un .un) r₀.length ⟨0, t₀, r₀, rfl, rfl, by rw [← htoks, hk]; rfl, Nat.zero_le _⟩ ?_ ?_
  · rintro n σ₁ ⟨k', t', r', rfl, rfl, hsk, hkk⟩
    refine ⟨t' == tk "!", _, (EVB.compare (EV.name ev (by walk_at "loc")) EV.const_str OP2.eq_str rfl).toEXB, fun hb => ?_, fun hb => ?_⟩
    · have ht' : t' = tk "!" := eq_of_beq hb
      unfold skipNots at hsk
      rw [if_pos ht'] at hsk
      have e1 : (skipNots r').1 + 1 = k - k' := congrArg Prod.fst hsk
      have e2 : (skipNots r').2 = t :: r := congrArg Prod.snd hsk
      cases r' with
      | nil => simp [skipNots] at e2
      | cons t'' r'' =>
      refine SX.aug ok (by walk_at "loc") EV.const_str (OP2.iadd_str (by rw [notTxt_length, len_not]; omega)) (by walk_at "upd") ?_
      refine SX.assignX ok (EX.next (d := .str _) (ds := List.map D.str _) ev g_next (by walk_at "locd") (by walk_at "upd")) (by walk_at "upd") rfl ?_
      refine SX.nil ⟨r''.length, by simp, k' + 1, t'', r'', rfl, rfl, ?_, by omega⟩
      exact Prod.ext (by show (skipNots (t'' :: r'')).1 = k - (k' + 1); omega) e2
    · have ht' : t' ≠ tk "!" := fun e => by rw [e] at hb; simp at hb
      unfold skipNots at hsk
      rw [if_neg ht'] at hsk
      have e1 : 0 = k - k' := congrArg Prod.fst hsk
      have e2 : t' :: r' = t :: r := congrArg Prod.snd hsk
      injection e2 with e2 e3
      subst e2 e3
      have : k' = k := by omega
      subst this
      rfl
  rintro σ₁ rfl
  have hk4 : 4 * k ≤ 4000 := by omega
  have hnt := notTxt_length k
  -- the operand
  refine SX.join (b := t == tk "(") (fun σ => ∃ res nx₀ nx' r'' vs vv, σ = sigP a (nx' :: r'') p (.val (.str res)) nx₀ vs vv .un .un .un .un .un .un ∧ run F (.loop p res 100 nx') r'' = .ok text nx rest ∧ res.length + 2 + 80 * r''.length ≤ 90000 ∧ Smalls (nx' :: r'') ∧ r''.length ≤ 1000)
    (EVB.compare (EV.name ev (by walk_at "loc")) EV.const_str OP2.eq_str rfl) (fun hb => ?_) (fun hb => ?_) ?_
  · have ht' : t = tk "(" := eq_of_beq hb
    rw [if_pos ht'] at hrun
    cases hsub : run F (.start (-1)) r with
    | bad m r' => rw [hsub] at hrun; simp at hrun
    | out => rw [hsub] at hrun; simp at hrun
    | ok sub nx1 r' =>
    rw [hsub] at hrun
    dsimp only at hrun
    obtain ⟨hr', hnx1, hlen⟩ := run_len F _ r sub nx1 r' hr hsub
    by_cases h2 : nx1 = tk ")"
    · rw [if_pos h2] at hrun
      cases r' with
      | nil => simp at hrun
      | cons nx' r'' =>
      dsimp only at hrun
      simp only [List.length_cons] at hlen
      refine SX.unpack2X ok (EX.callP ev is g_parse (parse_isFn KX) (by walk_at "loc") (by walk_at "upd") .nil ((ih F (Nat.le_refl _) (-1) r sub nx1 (nx' :: r'') hr (by omega) hsub).2 rfl) (by omega) (by omega)) (by walk_at "upd") (by walk_at "upd") rfl rfl ?_
      refine SX.assign ok (EV.joined (.first (EV.fmtS (EV.name ev (by walk_at "loc")) (by omega)) (by omega) (.lit (by first | omega | (simp only [Str.length_append]; omega)) (.val (EV.name ev (by walk_at "loc")) (by first | omega | (simp only [Str.length_append]; omega)) (.lit (by first | omega | (simp only [Str.length_append]; omega)) .nil))))) (by walk_at "upd") rfl ?_
      refine SX.ite_false (by rw [show false = (nx1 != tk ")") by rw [h2]; decide +kernel]; exact EVB.compare (EV.name ev (by walk_at "loc")) EV.const_str OP2.ne_str rfl) ?_
      refine SX.nil (SX.nil ⟨_, _, nx', r'', _, _, rfl, hrun, ?_, hr', by omega⟩)
      simp only [Str.length_append, hnt, show (tk "(").length = 1 by decide +kernel, show (tk ")").length = 1 by decide +kernel]
      omega
    · rw [if_neg h2] at hrun; simp at hrun
  · have ht' : t ≠ tk "(" := fun e => by rw [e] at hb; simp at hb
    rw [if_neg ht'] at hrun
    refine SX.ite (b := t == tk "n") (EVB.compare (EV.name ev (by walk_at "loc")) EV.const_str OP2.eq_str rfl) (fun hb2 => ?_) (fun hb2 => ?_)
    · have ht2 : t = tk "n" := eq_of_beq hb2
      rw [if_pos ht2] at hrun
      cases r with
      | nil => simp at hrun
      | cons nx' r'' =>
      dsimp only at hrun
      refine SX.assign ok (EV.joined (.first (EV.fmtS (EV.name ev (by walk_at "loc")) (by omega)) (by omega) (.val (EV.name ev (by walk_at "loc")) (by first | omega | (simp only [Str.length_append]; omega)) .nil))) (by walk_at "upd") rfl ?_
      refine SX.nil (SX.nil ⟨_, _, nx', r'', _, _, rfl, hrun, ?_, hr, ?_⟩)
      · simp only [Str.length_append, hnt]
        have := ht.1
        simp only [List.length_cons] at hl
        omega
      · simp only [List.length_cons] at hl; omega
    · have ht2 : t ≠ tk "n" := fun e => by rw [e] at hb2; simp at hb2
      rw [if_neg ht2] at hrun
      cases hint : PySem.intText? t with
      | none => rw [hint] at hrun; simp at hrun
      | some v =>
      rw [hint] at hrun
      cases r with
      | nil => simp at hrun
      | cons nx' r'' =>
      dsimp only at hrun
      obtain ⟨hv0, hv1, hv2⟩ := ht.2 v hint
      refine SX.try_ok (SX.assign ok (EV.int10 ev g_int (.cons (EV.name ev (by walk_at "loc")) (fun _ => rfl) (.cons EV.const_int (fun _ => rfl) .nil)) (by have := ht.1; omega) hint) (by walk_at "upd") rfl (SX.nil ?_))
      refine SX.assign ok (EV.binop EV.const_str (EV.tuple (.cons (EV.name ev (by walk_at "loc")) (fun _ => rfl) (.cons (EV.name ev (by walk_at "loc")) (fun _ => rfl) .nil)) (by simp)) (OP2.fmt_sd (by omega) hv0 hv1)) (by walk_at "upd") rfl ?_
      refine SX.nil (SX.nil ⟨_, _, nx', r'', _, _, rfl, hrun, ?_, hr, ?_⟩)
      · simp only [Str.length_append, hnt]
        simp only [List.length_cons] at hl
        omega
      · simp only [List.length_cons] at hl; omega
  clear hrun hk hm hl hs hn hr ht64 ht htoks hk4 hnt
  rintro σ₂ ⟨res, nx₀, nx', r'', vs, vv, rfl, hrun, hres, hsm, hlen⟩
  refine SX.assignX ok (EX.next (d := .str _) (ds := List.map D.str _) ev g_next (by walk_at "locd") (by walk_at "upd")) (by walk_at "upd") rfl ?_
  refine SX.assign ok EV.const_int (by walk_at "upd") rfl ?_
  -- while nexttok in _binary_ops
  refine SX.whileK (PassesOwn.never)
    (fun n σ => ∃ res j nx' r' vi vo vr, σ = sigP a r' p (.val (.str res)) (.val (.str nx')) vs vv (.val (.int j)) vi vo vr .un .un ∧ run n (.loop p res j nx') r' = .ok text nx rest ∧ res.length + 2 + 80 * r'.length ≤ 90000 ∧ Smalls r' ∧ r'.length ≤ 1000 ∧ n ≤ F)
    (fun σ => ∃ n res j nx' r' vi vo vr, σ = sigP a r' p (.val (.str res)) (.val (.str nx')) vs vv (.val (.int j)) vi vo vr .un .un ∧ run n (.tail p (if j = p ∧ p = 4 then paren res else res) nx') r' = .ok text nx rest ∧ res.length + 2 + 80 * r'.length ≤ 90000 ∧ Smalls r' ∧ r'.length ≤ 1000 ∧ n ≤ F)
    F ⟨res, 100, nx', r'', _, _, _, rfl, hrun, hres, fun x hx => hsm x (.tail _ hx), hlen, Nat.le_refl _⟩ ?_ ?_
  · clear hrun hres hsm hlen
    rintro n σ₁ ⟨res, j, nx', r', vi, vo, vr, rfl, hrun, hres, hsm, hlen, hnF⟩
    cases n with
    | zero => simp [run] at hrun
    | succ n =>
    unfold run at hrun
    refine ⟨(lvl nx').isSome, _, (EVB.cast (EVB.inTab ev (EV.name ev (by walk_at "loc")) g_ops t_ops) (by rw [ops_look, Option.isSome_map])).toEXB, fun hb => ?_, fun hb => ?_⟩
    · obtain ⟨i, hi⟩ := Option.isSome_iff_exists.mp hb
      rw [hi] at hrun
      dsimp only at hrun
      have hir := lvl_range hi
      refine SX.assign ok (EV.cast (d' := .int i) (EV.itemTab ev (EV.name ev (by walk_at "loc")) g_ops t_ops (by rw [ops_look, hi]; rfl) (.inl ⟨i, rfl⟩) (fun _ _ => rfl)) rfl) (by walk_at "upd") rfl ?_
      refine SX.ite (b := decide (i < p)) (EVB.compare (EV.name ev (by walk_at "loc")) (EV.name ev (by walk_at "loc")) OP2.lt_int rfl) (fun hb2 => ?_) (fun hb2 => ?_)
      · have hip : i < p := of_decide_eq_true hb2
        rw [if_pos hip] at hrun
        exact SX.brk ⟨n, res, j, nx', r', _, _, _, rfl, hrun, hres, hsm, hlen, by omega⟩
      · have hip : ¬ i < p := of_decide_eq_false hb2
        rw [if_neg hip] at hrun
        refine SX.nil ?_
        cases hright : run n (.start (i + 1)) r' with
        | bad m r' => rw [hright] at hrun; simp at hrun
        | out => rw [hright] at hrun; simp at hrun
        | ok right nx1 r1 =>
        rw [hright] at hrun
        dsimp only at hrun
        obtain ⟨hr1, hnx1, hl1⟩ := run_len n _ r' right nx1 r1 hsm hright
        have hpl := ite_paren_length ((isCmp i && isCmp j) = true) res
        refine SX.join (b := isCmp i && isCmp j) (fun σ => σ = sigP a r' p (.val (.str (if isCmp i && isCmp j then paren res else res))) (.val (.str nx')) vs vv (.val (.int j)) (.val (.int i)) vo vr .un .un)
          (EVB.and (EVB.compare (EV.name ev (by walk_at "loc")) (EV.tuple (.cons EV.const_int (fun _ => rfl) (.cons EV.const_int (fun _ => rfl) .nil)) (by simp)) (OP2.in_tup_ints (ys := [3, 4])) rfl) (fun _ => EVB.and1 (EVB.compare (EV.name ev (by walk_at "loc")) (EV.tuple (.cons EV.const_int (fun _ => rfl) (.cons EV.const_int (fun _ => rfl) .nil)) (by simp)) (OP2.in_tup_ints (ys := [3, 4])) rfl))) (fun hb3 => ?_) (fun hb3 => ?_) ?_
        · rw [if_pos hb3]
          refine SX.assign ok (EV.binop EV.const_str (EV.name ev (by walk_at "loc")) (OP2.fmt_one (by omega))) (by walk_at "upd") rfl ?_
          exact SX.nil rfl
        · rw [if_neg (by rw [hb3]; decide)]
          exact SX.nil rfl
        rintro σ₃ rfl
        refine SX.assign ok (EV.getTab ev (.cons (EV.name ev (by walk_at "loc")) (fun _ => rfl) (.cons (EV.name ev (by walk_at "loc")) (fun _ => rfl) .nil)) g_c2py t_c2py (py_look nx') rfl) (by walk_at "upd") rfl ?_
        refine SX.unpack2X ok (EX.callP ev is g_parse (parse_isFn KX) (by walk_at "loc") (by walk_at "upd") (.cons (EV.binop (EV.name ev (by walk_at "loc")) EV.const_int OP2.add_int) (fun _ => rfl) .nil) (((ih n (by omega) (i + 1) r' right nx1 r1 hsm hlen hright).1).mono (by omega : n ≤ F)) (by omega) (by omega)) (by walk_at "upd") (by walk_at "upd") rfl rfl ?_
        have hop := pyOp_length hi
        refine SX.assign ok (EV.joined (.first (EV.fmtS (EV.name ev (by walk_at "loc")) (by omega)) (by omega) (.lit (by first | omega | (simp only [Str.length_append]; omega)) (.val (EV.name ev (by walk_at "loc")) (by first | omega | (simp only [Str.length_append]; omega)) (.lit (by first | omega | (simp only [Str.length_append]; omega)) (.val (EV.name ev (by walk_at "loc")) (by first | omega | (simp only [Str.length_append]; omega)) .nil)))))) (by walk_at "upd") rfl ?_
        refine SX.assign ok (EV.name ev (by walk_at "loc")) (by walk_at "upd") rfl ?_
        refine SX.nil ⟨n, by omega, _, i, nx1, r1, _, _, _, rfl, hrun, ?_, hr1, by omega, by omega⟩
        simp only [Str.length_append, show (tk " ").length = 1 by decide +kernel]
        omega
    · have hi : lvl nx' = none := by simpa using hb
      rw [hi] at hrun
      exact ⟨n, res, j, nx', r', _, _, _, rfl, hrun, hres, hsm, hlen, by omega⟩
  clear hrun hres hsm hlen
  rintro σ₁ ⟨n, res, j, nx', r', vi, vo, vr, rfl, hrun, hres, hsm, hlen, hnF⟩
  -- j == priority == 4
  have hpl := ite_paren_length (j = p ∧ p = 4) res
  refine SX.join (b := (j == p) && (p == 4)) (fun σ => σ = sigP a r' p (.val (.str (if j = p ∧ p = 4 then paren res else res))) (.val (.str nx')) vs vv (.val (.int j)) vi vo vr .un .un)
    (EVB.chain (EV.name ev (by walk_at "loc")) (EV.name ev (by walk_at "loc")) OP2.eq_int (fun _ => EV.const_int) OP2.eq_int rfl) (fun hb => ?_) (fun hb => ?_) ?_
  · rw [if_pos (by simpa using hb)]
    refine SX.assign ok (EV.binop EV.const_str (EV.name ev (by walk_at "loc")) (OP2.fmt_one (by omega))) (by walk_at "upd") rfl ?_
    exact SX.nil rfl
  · rw [if_neg (by simpa using hb)]
    exact SX.nil rfl
  rintro σ₂ rfl
  generalize (if j = p ∧ p = 4 then paren res else res) = res' at hrun hpl ⊢
  cases n with
  | zero => simp [run] at hrun
  | succ n =>
  unfold run at hrun
  -- ? :
  refine SX.join (b := (nx' == tk "?") && (decide (p ≤ 0))) (fun σ => ∃ vy vn, σ = sigP a rest p (.val (.str text)) (.val (.str nx)) vs vv (.val (.int j)) vi vo vr vy vn)
    (EVB.and (EVB.compare (EV.name ev (by walk_at "loc")) EV.const_str OP2.eq_str rfl) (fun _ => EVB.and1 (EVB.compare (EV.name ev (by walk_at "loc")) EV.const_int OP2.le_int rfl))) (fun hb => ?_) (fun hb => ?_) ?_
  · rw [Bool.and_eq_true] at hb
    have hq : nx' = tk "?" := eq_of_beq hb.1
    have hp0 : p ≤ 0 := of_decide_eq_true hb.2
    rw [if_pos ⟨hq, hp0⟩] at hrun
    cases hyes : run n (.start 0) r' with
    | bad m r' => rw [hyes] at hrun; simp at hrun
    | out => rw [hyes] at hrun; simp at hrun
    | ok yes nx1 r1 =>
    rw [hyes] at hrun
    dsimp only at hrun
    obtain ⟨hr1, hnx1, hl1⟩ := run_len n _ r' yes nx1 r1 hsm hyes
    by_cases hc : nx1 = tk ":"
    · rw [if_pos hc] at hrun
      cases hno : run n (.start (-1)) r1 with
      | bad m r' => rw [hno] at hrun; simp at hrun
      | out => rw [hno] at hrun; simp at hrun
      | ok no nx2 r2 =>
      rw [hno] at hrun
      dsimp only at hrun
      obtain ⟨hr2, hnx2, hl2⟩ := run_len n _ r1 no nx2 r2 hr1 hno
      injection hrun with e1 e2 e3
      subst e2 e3
      refine SX.unpack2X ok (EX.callP ev is g_parse (parse_isFn KX) (by walk_at "loc") (by walk_at "upd") (.cons EV.const_int (fun _ => rfl) .nil) (((ih n (by omega) 0 r' yes nx1 r1 hsm hlen hyes).1).mono (by omega : n ≤ F)) (by omega) (by omega)) (by walk_at "upd") (by walk_at "upd") rfl rfl ?_
      refine SX.ite_false (by rw [show false = (nx1 != tk ":") by rw [hc]; decide +kernel]; exact EVB.compare (EV.name ev (by walk_at "loc")) EV.const_str OP2.ne_str rfl) (SX.nil ?_)
      refine SX.unpack2X ok (EX.callP ev is g_parse (parse_isFn KX) (by walk_at "loc") (by walk_at "upd") .nil (((ih n (by omega) (-1) r1 no nx2 r2 hr1 (by omega) hno).2 rfl).mono (by omega : n ≤ F)) (by omega) (by omega)) (by walk_at "upd") (by walk_at "upd") rfl rfl ?_
      refine SX.assign ok (EV.joined (.first (EV.fmtS (EV.name ev (by walk_at "loc")) (by omega)) (by omega) (.lit (by first | omega | (simp only [Str.length_append]; omega)) (.val (EV.name ev (by walk_at "loc")) (by first | omega | (simp only [Str.length_append]; omega)) (.lit (by first | omega | (simp only [Str.length_append]; omega)) (.val (EV.name ev (by walk_at "loc")) (by first | omega | (simp only [Str.length_append]; omega)) .nil)))))) (by walk_at "upd") rfl ?_
      refine SX.ite (b := p == 0) (EVB.compare (EV.name ev (by walk_at "loc")) EV.const_int OP2.eq_int rfl) (fun hb2 => ?_) (fun hb2 => ?_)
      · have hp : p = 0 := by simpa using hb2
        rw [if_pos hp] at e1
        refine SX.assign ok (EV.binop EV.const_str (EV.name ev (by walk_at "loc")) (OP2.fmt_one (by
          simp only [Str.length_append, show (tk " if ").length = 4 by decide +kernel, show (tk " else ").length = 6 by decide +kernel]; omega))) (by walk_at "upd") rfl ?_
        subst e1
        exact SX.nil (SX.nil ⟨_, _, rfl⟩)
      · have hp : p ≠ 0 := by simpa using hb2
        rw [if_neg hp] at e1
        subst e1
        exact SX.nil (SX.nil ⟨_, _, rfl⟩)
    · rw [if_neg hc] at hrun; simp at hrun
  · have hnc : ¬ (nx' = tk "?" ∧ p ≤ 0) := fun ⟨h1, h2⟩ => by
      rw [h1, show (tk "?" == tk "?") = true by decide +kernel, Bool.true_and] at hb
      exact of_decide_eq_false hb h2
    rw [if_neg hnc] at hrun
    injection hrun with e1 e2 e3
    subst e1 e2 e3
    exact SX.nil ⟨_, _, rfl⟩
  rintro σ₃ ⟨vy, vn, rfl⟩
  exact SX.ret (EV.tuple (.cons (EV.name ev (by walk_at "loc")) (fun _ => rfl) (.cons (EV.name ev (by walk_at "loc")) (fun _ => rfl) .nil)) (by simp)) ⟨rfl, by walk_at "loc"⟩
theorem parse_fn {w : World} {h₁ : Heap} {mg mb : Str → Option Value} (KX : (hd.heap_39 w.params).In h₁) (st : Stat h₁ mg mb) : ∀ f, ParseIs w h₁ f := by
  have key : ∀ F f, f ≤ F → ParseIs w h₁ f := by
    intro F
    induction F with
    | zero =>
      intro f hf p toks text nx rest _ _ hrun
      have : f = 0 := by omega
      subst this
      simp [run] at hrun
    | succ F ih =>
      intro f hf
      by_cases hfF : f ≤ F
      · exact ih f hfF
      · have : f = F + 1 := by omega
        subst this
        intro p toks text nx rest hs hn hrun
        refine ⟨parse_body KX st F ih p toks text nx rest hs hn hrun _ (fun s g v ws hk hr => ?_), fun hp => parse_body KX st F ih p toks text nx rest hs hn hrun _ (fun s g v ws hk hr => ?_)⟩
        · cases hr with
          | cons h1 h2 =>
            cases h2
            cases h1 with
            | int _ t => exact ⟨[.int p t], BindsTo.of_defaults rfl (hk _ _ (KX _ _ rfl)) rfl rfl rfl, .cons (.int _ _) .nil⟩
        · cases hr
          subst hp
          refine ⟨[_], BindsTo.of_defaults rfl (hk _ _ (KX _ _ rfl)) rfl rfl rfl, .cons (.int _ _) .nil⟩
  exact fun f => key f f (Nat.le_refl _)
end Mine
namespace Mine
local macro_rules | `(tactic| walk_at "loc") => `(tactic| first | with_reducible exact Loc.head | (with_reducible apply Loc.tail; walk_at "loc"))
local macro_rules | `(tactic| walk_at "locd") => `(tactic| first | exact Loc.head | (with_reducible apply Loc.tail; walk_at "locd"))
local macro_rules | `(tactic| walk_at "upd") => `(tactic| first | with_reducible exact Upd.head | (with_reducible apply Upd.tail; walk_at "upd"))
theorem due_fn {w : World} {h₁ : Heap} {mg mb : Str → Option Value} (KX : (hd.heap_39 w.params).In h₁) (st : Stat h₁ mg mb) (row : List Str) (hn : row.length ≤ 1000) : FN prg w h₁ 92 1 [dstrs row] (.bool (due row)) := by
  refine FN.of_body (params := [tk "row"]) (names := []) st (KX 92 _ rfl) rfl (codeRec_of KX rfl) rfl rfl rfl rfl rfl (bind_one fun _ => rfl) (by decide) (by decide) (by decide) rfl rfl rfl ?_
  intro c ok is hs hdp hun
  have ev := ok.toEv
  show SX c _ [(tk "row", .val (.list (row.map .str)))] _ _
  refine SX.ite (EVB.compare (EV.name ev (by walk_at "loc")) (EV.list .nil (by simp)) (OP2.eq_nil ev) rfl) (fun h => ?_) (fun h => ?_)
  · refine SX.ret EV.const_bool ?_
    cases row with
    | nil => rfl
    | cons a r => simp at h
  · refine SX.nil ?_
    cases hl : row.getLast? with
    | none => rw [List.getLast?_eq_none_iff] at hl; rw [hl] at h; simp at h
    | some t =>
      have hne : 1 ≤ row.length := by cases row with | nil => simp at hl | cons _ _ => simp
      have hit : ∀ p q r' z kk, EV c [(tk "row", .val (.list (row.map .str)))] (.Subscript (.Name (tk "row") p) (.UnaryOp .USub (.Constant (.int 1) kk q) r') z) (.str t) := fun p q r' z kk =>
        EV.item (EV.name ev (by walk_at "loc")) (EV.neg EV.const_int) (by simp; omega) (by simp; omega) (by simp; omega) (idx_last (by rw [List.getLast?_map, hl]; rfl)) (fun _ _ => rfl)
      refine SX.ret (EV.and (EV.compare (hit _ _ _ _ _) EV.const_str OP2.ne_str rfl) fun _ => EV.and (EV.compare (hit _ _ _ _ _) EV.const_str OP2.ne_str rfl) fun _ => EV.and1 (EV.not (EV.isdigit (hit _ _ _ _ _) rfl rfl) TR.bool)) ?_
      simp [due, hl]
theorem outside_fn {w : World} {h₁ : Heap} {mg mb : Str → Option Value} (KX : (hd.heap_39 w.params).In h₁) (st : Stat h₁ mg mb) (part : List Str) (hn : part.length ≤ 1000) : FN prg w h₁ 106 1 [dstrs part] (.list (nats (outside part))) := by
  refine FN.of_body (params := [tk "part"]) (names := [tk "depth", tk "places", tk "at"]) st (KX 106 _ rfl) rfl (codeRec_of KX rfl) rfl rfl rfl rfl rfl (bind_one fun _ => rfl) (by decide) (by decide) (by decide) rfl rfl rfl ?_
  intro c ok is hs hdp hun
  have ev := ok.toEv
  have g_len : GL c "len" none := GL.of is hs rfl rfl ((glob_at KX st.g rfl rfl _).trans rfl)
  have g_range : GL c "range" none := GL.of is hs rfl rfl ((glob_at KX st.g rfl rfl _).trans rfl)
  show SX c _ [(tk "part", .val (.list (part.map .str))), (tk "depth", .un), (tk "places", .un), (tk "at", .un)] _ _
  refine SX.assign ok EV.const_int (by walk_at "upd") rfl ?_
  refine SX.newlist ok .nil (by simp) (by walk_at "upd") ?_
  refine SX.forIn ok (fun i σ => ∃ d ps va, σ = [(tk "part", .val (.list (part.map .str))), (tk "depth", .val (.int d)), (tk "places", .own (nats ps)), (tk "at", va)] ∧ ps ++ outGo d i (part.drop i) = outside part)
    (IT.range (n := part.length) ev g_range (.one (EV.cast (EV.len ev g_len (.one (EV.name ev (by walk_at "loc")) (fun _ => rfl)) (by simp; omega)) (by simp)) (fun _ => rfl)) (by omega)) ⟨0, [], _, rfl, rfl⟩ ?_ ?_ (fun _ => rfl)
  · rintro i dd σ₁ hd ⟨d, ps, va, rfl, hinv⟩
    obtain ⟨rfl, hi⟩ := upto_get hd
    refine ⟨_, by walk_at "upd", ?_⟩
    have hti : part[i]? = some part[i] := by simp [hi]
    have hdrop : part.drop i = part[i] :: part.drop (i + 1) := List.drop_eq_getElem_cons hi
    generalize part[i] = t at hti hdrop
    have hps : ps.length ≤ 1000 := by
      have h1 := outside_length part
      have h2 := congrArg List.length hinv
      rw [List.length_append] at h2
      omega
    have hit : ∀ d ps p q z, EV c [(tk "part", .val (.list (part.map .str))), (tk "depth", d), (tk "places", ps), (tk "at", .val (.int (i : Int)))] (.Subscript (.Name (tk "part") p) (.Name (tk "at") q) z) (.str t) := fun d ps p q z =>
      EV.item (EV.name ev (by walk_at "loc")) (EV.name ev (by walk_at "loc")) (by omega) (by simp; omega) (by simp; omega) (by rw [idx_nat]; simp [hti]) (fun _ _ => rfl)
    rw [hdrop] at hinv
    unfold outGo at hinv
    refine SX.join (b := t == tk "(") (fun σ => σ = [(tk "part", .val (.list (part.map .str))), (tk "depth", .val (.int (if t = tk "(" then d + 1 else d))), (tk "places", .own (nats ps)), (tk "at", .val (.int (i : Int)))]) (EVB.compare (hit _ _ _ _ _) EV.const_str OP2.eq_str rfl) (fun hb => ?_) (fun hb => ?_) ?_
    · rw [if_pos (eq_of_beq hb)]
      refine SX.aug ok (by walk_at "loc") EV.const_int OP2.iadd_int (by walk_at "upd") ?_
      exact SX.nil rfl
    · rw [if_neg (ne_of_beq hb)]
      exact SX.nil rfl
    rintro σ₂ rfl
    dsimp only at hinv
    generalize (if t = tk "(" then d + 1 else d) = d1 at hinv ⊢
    refine SX.join (b := d1 == 0) (fun σ => σ = [(tk "part", .val (.list (part.map .str))), (tk "depth", .val (.int d1)), (tk "places", .own (nats (ps ++ if d1 = 0 then [i] else []))), (tk "at", .val (.int (i : Int)))]) (EVB.compare (EV.name ev (by walk_at "loc")) EV.const_int OP2.eq_int rfl) (fun hb => ?_) (fun hb => ?_) ?_
    · rw [if_pos (by simpa using hb)]
      refine SX.append ok (by walk_at "loc") (EV.name ev (by walk_at "loc")) (by walk_at "upd") (by simp [nats]; omega) rfl rfl rfl ?_
      exact SX.nil (by show _ = _; simp [nats])
    · rw [if_neg (by simpa using hb)]
      exact SX.nil (by show _ = _; simp)
    rintro σ₃ rfl
    refine SX.ite (b := t == tk ")") (EVB.compare (hit _ _ _ _ _) EV.const_str OP2.eq_str rfl) (fun hb => ?_) (fun hb => ?_)
    · rw [if_pos (eq_of_beq hb)] at hinv
      refine SX.aug ok (by walk_at "loc") EV.const_int OP2.isub_int (by walk_at "upd") ?_
      exact SX.nil (SX.nil ⟨_, _, _, rfl, by rw [List.append_assoc]; exact hinv⟩)
    · rw [if_neg (ne_of_beq hb)] at hinv
      exact SX.nil (SX.nil ⟨_, _, _, rfl, by rw [List.append_assoc]; exact hinv⟩)
  · rintro σ₁ ⟨d, ps, va, rfl, hinv⟩
    rw [upto_length, List.drop_length] at hinv
    simp only [outGo, List.append_nil] at hinv
    subst hinv
    refine SX.freeze (x := tk "places") (by walk_at "loc") (by walk_at "upd") ?_
    exact SX.ret (EV.name ev (by walk_at "loc")) rfl
theorem colon_fn {w : World} {h₁ : Heap} {mg mb : Str → Option Value} (KX : (hd.heap_39 w.params).In h₁) (st : Stat h₁ mg mb) (part : List Str) (places : List Nat) (hn : part.length ≤ 1000) (hp : ∀ i ∈ places, i < part.length) : FN prg w h₁ 113 1 [dstrs part, .list (nats places)] (.int (colonOf part places)) := by
  refine FN.of_body (params := [tk "part", tk "places"]) (names := [tk "waiting", tk "at"]) st (KX 113 _ rfl) rfl (codeRec_of KX rfl) rfl rfl rfl rfl rfl (bind_two fun _ _ => rfl) (by decide) (by decide) (by decide) rfl rfl rfl ?_
  intro c ok is hs hdp hun
  have ev := ok.toEv
  show SX c _ [(tk "part", .val (.list (part.map .str))), (tk "places", .val (.list (nats places))), (tk "waiting", .un), (tk "at", .un)] _ _
  refine SX.assign ok EV.const_int (by walk_at "upd") rfl ?_
  refine SX.forIn ok (fun i σ => ∃ n va, σ = [(tk "part", .val (.list (part.map .str))), (tk "places", .val (.list (nats places))), (tk "waiting", .val (.int n)), (tk "at", va)] ∧ colonGo part n (places.drop i) = colonOf part places)
    (IT.list ev (EV.name ev (by walk_at "loc"))) ⟨0, _, rfl, rfl⟩ ?_ ?_ (fun _ => rfl)
  · rintro i dd σ₁ hd ⟨n, va, rfl, hinv⟩
    unfold nats at hd
    rw [List.getElem?_map, Option.map_eq_some_iff] at hd
    obtain ⟨at_, hat, rfl⟩ := hd
    refine ⟨_, by walk_at "upd", ?_⟩
    have hlt := hp at_ (List.mem_of_getElem? hat)
    have hti : part[at_]? = some part[at_] := by simp [hlt]
    have hdrop : places.drop i = at_ :: places.drop (i + 1) := by
      obtain ⟨h1, h2⟩ := List.getElem?_eq_some_iff.mp hat
      rw [List.drop_eq_getElem_cons h1, h2]
    generalize part[at_] = t at hti
    have hit : ∀ d p q z, EV c [(tk "part", .val (.list (part.map .str))), (tk "places", .val (.list (nats places))), (tk "waiting", d), (tk "at", .val (.int (at_ : Int)))] (.Subscript (.Name (tk "part") p) (.Name (tk "at") q) z) (.str t) := fun d p q z =>
      EV.item (EV.name ev (by walk_at "loc")) (EV.name ev (by walk_at "loc")) (by omega) (by simp; omega) (by simp; omega) (by rw [idx_nat]; simp [hti]) (fun _ _ => rfl)
    rw [hdrop] at hinv
    unfold colonGo at hinv
    rw [hti] at hinv
    refine SX.ite (b := t == tk "?") (EVB.compare (hit _ _ _ _) EV.const_str OP2.eq_str rfl) (fun hb => ?_) (fun hb => ?_)
    · rw [if_pos (by rw [eq_of_beq hb])] at hinv
      refine SX.aug ok (by walk_at "loc") EV.const_int OP2.iadd_int (by walk_at "upd") ?_
      exact SX.nil (SX.nil ⟨_, _, rfl, hinv⟩)
    · rw [if_neg (fun e => ne_of_beq hb (Option.some.inj e))] at hinv
      refine SX.ite (b := t == tk ":") (EVB.compare (hit _ _ _ _) EV.const_str OP2.eq_str rfl) (fun hb2 => ?_) (fun hb2 => ?_)
      · rw [if_pos (by rw [eq_of_beq hb2])] at hinv
        refine SX.aug ok (by walk_at "loc") EV.const_int OP2.isub_int (by walk_at "upd") ?_
        refine SX.ite (b := n - 1 == 0) (EVB.compare (EV.name ev (by walk_at "loc")) EV.const_int OP2.eq_int rfl) (fun hb3 => ?_) (fun hb3 => ?_)
        · rw [if_pos (by simpa using hb3)] at hinv
          refine SX.ret (EV.name ev (by walk_at "loc")) ?_
          show AFlow.ret (D.int (at_ : Int)) = _
          rw [hinv]
        · rw [if_neg (by simpa using hb3)] at hinv
          exact SX.nil (SX.nil (SX.nil (SX.nil ⟨_, _, rfl, hinv⟩)))
      · rw [if_neg (fun e => ne_of_beq hb2 (Option.some.inj e))] at hinv
        exact SX.nil (SX.nil (SX.nil ⟨_, _, rfl, hinv⟩))
  · rintro σ₁ ⟨n, va, rfl, hinv⟩
    rw [show (nats places).length = places.length by simp [nats], List.drop_length] at hinv
    refine SX.ret (EV.neg EV.const_int) ?_
    show AFlow.ret (D.int (-1)) = _
    rw [← hinv]; rfl
theorem number_fn {w : World} {h₁ : Heap} {mg mb : Str → Option Value} (KX : (hd.heap_39 w.params).In h₁) (st : Stat h₁ mg mb) (x : Str) (hn : x.length ≤ 1000) : FN prg w h₁ 120 1 [.str x] (.str (num x)) := by
  refine FN.of_body (params := [tk "word"]) (names := []) st (KX 120 _ rfl) rfl (codeRec_of KX rfl) rfl rfl rfl rfl rfl (bind_one fun _ => rfl) (by decide) (by decide) (by decide) rfl rfl rfl ?_
  intro c ok is hs hdp hun
  have ev := ok.toEv
  have g_len : GL c "len" none := GL.of is hs rfl rfl ((glob_at KX st.g rfl rfl _).trans rfl)
  show SX c _ [(tk "word", .val (.str x))] _ _
  refine SX.whileK (PassesOwn.never) (fun n σ => ∃ y : Str, σ = [(tk "word", .val (.str y))] ∧ n = y.length ∧ y.length ≤ 1000 ∧ num y = num x) (fun σ => σ = [(tk "word", .val (.str (num x)))]) x.length ⟨x, rfl, rfl, hn, rfl⟩ ?_ ?_
  · rintro n σ₁ ⟨y, rfl, rfl, hy, he⟩
    have hly : y.cps.toList.length = y.length := Array.length_toList
    refine ⟨decide (1 < (y.length : Int)) && (decide (1 < (y.length : Int)) && (Txt.item y 0 == tk "0")), _, EVB.toEXB (EVB.and (EVB.compare (EV.len_str ev g_len (.one (EV.name ev (by walk_at "loc")) (fun _ => rfl)) (by omega)) EV.const_int OP2.gt_int rfl) (fun hb => ?_)), fun hb => ?_, fun hb => ?_⟩
    · have h1 : 1 < (y.length : Int) := of_decide_eq_true hb
      rw [hb, Bool.true_and]
      refine EVB.and1 (EVB.compare (EV.item_str (EV.name ev (by walk_at "loc")) EV.const_int (by omega) (by omega) ?_ (fun _ _ => rfl)) EV.const_str OP2.eq_str rfl)
      cases hc : y.cps.toList with
      | nil => rw [hc] at hly; simp at hly; omega
      | cons a r => rw [charAt_zero hc]; rfl
    · rw [Bool.and_eq_true, Bool.and_eq_true] at hb
      have h1 : 1 < (y.length : Int) := of_decide_eq_true hb.1
      refine SX.assign ok (EV.tail_str (EV.name ev (by walk_at "loc")) EV.const_int (by omega) (fun _ _ => rfl)) (by walk_at "upd") rfl ?_
      rw [tail_eq (by omega)]
      cases hc : y.cps.toList with
      | nil => rw [hc] at hly; simp at hly; omega
      | cons a r =>
        have h0 := hb.2.2
        rw [item_zero hc] at h0
        have ha : a = 48 := by
          have := eq_of_beq h0
          have h2 : (⟨#[a]⟩ : Str).cps = (tk "0").cps := by rw [this]
          have h3 : (tk "0").cps = #[48] := by decide +kernel
          rw [h3] at h2
          simpa using h2
        subst ha
        cases r with
        | nil => rw [hc] at hly; simp at hly; omega
        | cons b r =>
          refine SX.nil ⟨(b :: r).length, ?_, ⟨(b :: r).toArray⟩, rfl, rfl, ?_, ?_⟩
          · rw [hc] at hly; simp at hly ⊢; omega
          · rw [hc] at hly; show (b :: r).toArray.size ≤ 1000; simp at hly ⊢; omega
          · rw [← he]; unfold num; rw [hc, show stripL (48 :: b :: r) = stripL (b :: r) from if_pos rfl]
    · show [(tk "word", AV.val (D.str y))] = _
      have : num y = y := by
        unfold num
        cases hc : y.cps.toList with
        | nil => have : y.cps = #[] := by simpa using hc
                 show (⟨#[]⟩ : Str) = y; cases y; simp at this; rw [this]
        | cons a r =>
          cases r with
          | nil => rw [show stripL [a] = [a] from rfl, ← hc]
          | cons b r =>
            have h1 : decide (1 < (y.length : Int)) = true := by rw [hc] at hly; simp at hly; simp; omega
            rw [h1, Bool.true_and, Bool.true_and, item_zero hc] at hb
            have ha : a ≠ 48 := fun e => by subst e; exact absurd hb (by decide +kernel)
            have : stripL (a :: b :: r) = a :: b :: r := by unfold stripL; rw [if_neg ha]
            rw [this, ← hc]
      rw [← he, this]
  rintro σ₁ rfl
  exact SX.ret (EV.name ev (by walk_at "loc")) rfl
end Mine
namespace Mine
local macro_rules | `(tactic| walk_at "loc") => `(tactic| first | with_reducible exact Loc.head | (with_reducible apply Loc.tail; walk_at "loc"))
local macro_rules | `(tactic| walk_at "locd") => `(tactic| first | exact Loc.head | (with_reducible apply Loc.tail; walk_at "locd"))
local macro_rules | `(tactic| walk_at "upd") => `(tactic| first | with_reducible exact Upd.head | (with_reducible apply Upd.tail; walk_at "upd"))
theorem EVs.strs {c : Cfg} {σ : Sig} {es : List Expr} {ds : List D} {ys : List Str} (h : EVs c σ es ds) (e : ds = ys.map .str) : EVs c σ es (ys.map .str) := e ▸ h
theorem compares_fn {w : World} {h₁ : Heap} {mg mb : Str → Option Value} (KX : (hd.heap_39 w.params).In h₁) (st : Stat h₁ mg mb) (part : List Str) (hn : part.length ≤ 1000) : FN prg w h₁ 125 2 [dstrs part] (.list (nats (pl (isIn cmps) part))) := by
  refine FN.of_bodyC (params := [tk "part"]) (names := []) st (KX 125 _ rfl) rfl (codeRec_of KX rfl) rfl rfl rfl rfl rfl (bindC_one fun _ => rfl) (by decide) (by decide) rfl rfl rfl ?_
  intro c ok is hs hdp hun
  have ev := ok.toEv
  have g_out : GL c "_law_outside" (some (.ref 106)) := GL.of is hs rfl rfl ((glob_at KX st.g rfl rfl _).trans rfl)
  show SX c _ [(tk "part", .val (.list (part.map .str)))] _ _
  refine SX.ret (EV.places ev part (isIn cmps) [(tk "part", .val (.list (part.map .str)))] hn (IT.list ev (EV.call ev is g_out ⟨_, _, KX 106 _ rfl, rfl⟩ (.one (EV.name ev (by walk_at "locd")) (fun _ => rfl)) (outside_fn KX st part hn) (by omega) (by omega))) (by decide) rfl (by decide) rfl ?_ ?_ (by show [tk "at", tk "part"].Nodup; decide) ?_ (fun _ => rfl)) rfl
  · intro n hn'
    have hn' : n ∈ [tk "part"] := hn'
    rw [List.mem_singleton.mp hn']
    exact ⟨by unfold Env.kindOf; rw [hs]; rfl, .head _⟩
  · intro q hq
    rw [List.mem_singleton.mp hq]
    exact ⟨.head _, rfl, rfl, .head _⟩
  · intro c' i x co hx
    have hi : i < part.length := (List.getElem?_eq_some_iff.mp hx).1
    refine EVB.compare (EV.item (EV.name co.ev (by walk_at "loc")) (EV.name co.ev (by walk_at "loc")) (by omega) (by simp; omega) (by simp; omega) (by rw [idx_nat]; simp [hx]) (fun _ _ => rfl)) (EV.tuple (EVs.strs (ys := cmps) (.cons EV.const_str (fun _ => rfl) (.cons EV.const_str (fun _ => rfl) (.cons EV.const_str (fun _ => rfl) (.cons EV.const_str (fun _ => rfl) (.cons EV.const_str (fun _ => rfl) (.cons EV.const_str (fun _ => rfl) .nil)))))) rfl) (by decide +kernel)) OP2.in_tup_strs rfl
theorem ne_nil_iff {ns : List Nat} : (!(nats ns).isEmpty) = true ↔ ns ≠ [] := by cases ns <;> simp [nats]
theorem reaches_fn {w : World} {h₁ : Heap} {mg mb : Str → Option Value} (KX : (hd.heap_39 w.params).In h₁) (st : Stat h₁ mg mb) (part : List Str) (hn : part.length ≤ 1000) (at_ : Nat) (hat : at_ < part.length) (b : Bool) (hb : b = true ↔ reaches part at_) : FN prg w h₁ 137 3 [dstrs part, .int (at_ : Int)] (.bool b) := by
  refine FN.of_body (params := [tk "part", tk "at"]) (names := []) st (KX 137 _ rfl) rfl (codeRec_of KX rfl) rfl rfl rfl rfl rfl (bind_two fun _ _ => rfl) (by decide) (by decide) (by decide) rfl rfl rfl ?_
  intro c ok is hs hdp hun
  have ev := ok.toEv
  have g_cmp : GL c "_law_compares" (some (.ref 125)) := GL.of is hs rfl rfl ((glob_at KX st.g rfl rfl _).trans rfl)
  show SX c _ [(tk "part", .val (.list (part.map .str))), (tk "at", .val (.int (at_ : Int)))] _ _
  have hx : part[at_]? = some part[at_] := by simp [hat]
  generalize part[at_] = o at hx
  have htk : (part.take at_).length ≤ 1000 := by simp; omega
  refine SX.ret (EV.or (b := isIn [tk "||", tk "&&"] o) (b' := !(nats (pl (isIn cmps) (part.take at_))).isEmpty) (EV.compare (EV.item (EV.name ev (by walk_at "loc")) (EV.name ev (by walk_at "loc")) (by omega) (by simp; omega) (by simp; omega) (by rw [idx_nat]; simp [hx]) (fun _ _ => rfl)) (EV.tuple (EVs.strs (ys := [tk "||", tk "&&"]) (.cons EV.const_str (fun _ => rfl) (.cons EV.const_str (fun _ => rfl) .nil)) rfl) (by decide +kernel)) OP2.in_tup_strs rfl) fun _ => EV.or1 (EV.compare (EV.call ev is g_cmp ⟨_, _, KX 125 _ rfl, rfl⟩ (.one (EV.cast (EV.slice (EV.name ev (by walk_at "loc")) .none (.some (EV.name ev (by walk_at "loc"))) (by simp; omega) (fun _ _ => rfl)) (by rw [cut_map, cut_take (by omega)]; rfl)) (fun _ => rfl)) (compares_fn KX st (part.take at_) htk) (by omega) (by omega)) (EV.list .nil (by simp)) (OP2.ne_nil ev) rfl)) ?_
  show AFlow.ret (D.bool _) = AFlow.ret (D.bool b)
  congr 2
  rw [Bool.eq_iff_iff, Bool.or_eq_true, hb, ne_nil_iff]
  unfold reaches
  refine or_congr ?_ Iff.rfl
  constructor
  · intro h
    have := isIn_mem h
    refine ⟨o, hx, ?_⟩
    simpa using this
  · rintro ⟨o', h1, h2⟩
    rw [hx] at h1; cases h1
    rcases h2 with rfl | rfl <;> decide +kernel
end Mine
namespace Mine
local macro_rules | `(tactic| walk_at "loc") => `(tactic| first | with_reducible exact Loc.head | (with_reducible apply Loc.tail; walk_at "loc"))
local macro_rules | `(tactic| walk_at "locd") => `(tactic| first | exact Loc.head | (with_reducible apply Loc.tail; walk_at "locd"))
local macro_rules | `(tactic| walk_at "upd") => `(tactic| first | with_reducible exact Upd.head | (with_reducible apply Upd.tail; walk_at "upd"))
theorem pl_len (P : Str → Bool) (part : List Str) : (pl P part).length ≤ part.length := by
  rw [← outside_pl]
  exact Nat.le_trans (List.length_filter_le _ _) (outside_length part)
theorem pl_lt {P : Str → Bool} {part : List Str} {i : Nat} (h : i ∈ pl P part) : i < part.length := by
  rw [← outside_pl] at h
  exact outside_lt (List.mem_filter.mp h).1
theorem fnd_len (part : List Str) : ∀ ss, (fnd part ss).length ≤ part.length
  | [] => Nat.zero_le _
  | s :: r => by
    unfold fnd; split
    · exact fnd_len part r
    · exact pl_len _ _
theorem fnd_lt {part : List Str} {i : Nat} : ∀ {ss}, i ∈ fnd part ss → i < part.length
  | [], h => by cases h
  | s :: r, h => by
    unfold fnd at h; split at h
    · exact fnd_lt h
    · exact pl_lt h
theorem fnd_snoc (part : List Str) (s : List Str) : ∀ pre, fnd part (pre ++ [s]) = if fnd part pre = [] then pl (isIn s) part else fnd part pre
  | [] => by
    show (if pl (isIn s) part = [] then [] else _) = _
    rw [show fnd part [] = [] from rfl, if_pos rfl]
    split
    · next h => exact h.symm
    · rfl
  | x :: r => by
    show (if pl (isIn x) part = [] then fnd part (r ++ [s]) else _) = _
    rw [fnd_snoc part s r]
    show _ = if (if pl (isIn x) part = [] then fnd part r else pl (isIn x) part) = [] then _ else (if pl (isIn x) part = [] then fnd part r else pl (isIn x) part)
    by_cases h : pl (isIn x) part = []
    · rw [if_pos h, if_pos h]
    · rw [if_neg h, if_neg h, if_neg h]
/-- what the rest of _law_tree meets -/
inductive TreeRest (T : List Str → D → Prop) : List Str → D → Prop where
  | neg {r : List Str} {x : D} : (∀ at_, (fnd (tk "!" :: r) tiers).getLast? = some at_ → ¬ reaches (tk "!" :: r) at_) → T r x → TreeRest T (tk "!" :: r) (.list [.str (tk "!"), x])
  | op {a b : List Str} {o : Str} {x y : D} : (fnd (a ++ o :: b) tiers).getLast? = some a.length → (a.head? = some (tk "!") → reaches (a ++ o :: b) a.length) → a ≠ [] → T a x → T b y → TreeRest T (a ++ o :: b) (.list [.str o, x, y])
  | par {m : List Str} {x : D} : fnd (tk "(" :: (m ++ [tk ")"])) tiers = [] → T m x → TreeRest T (tk "(" :: (m ++ [tk ")"])) x
  | leaf {t : Str} : t ≠ tk "!" → t ≠ tk "(" → fnd [t] tiers = [] → t.length ≤ 100 → TreeRest T [t] (.str (num t))
section
variable {c : Cfg} {σ : Sig} {es : List Expr} {ds : List D} {d : D}
theorem EVs.cL {xs : List Expr} {p : Pos} (h : EV c σ (.List xs p) d) (t : EVs c σ es ds) : EVs c σ (.List xs p :: es) (d :: ds) := .cons h (fun _ => rfl) t
theorem EVs.cC {x : Const} {k : Nat} {p : Pos} (h : EV c σ (.Constant x k p) d) (t : EVs c σ es ds) : EVs c σ (.Constant x k p :: es) (d :: ds) := .cons h (fun _ => rfl) t
theorem EVs.cS {x y : Expr} {p : Pos} (h : EV c σ (.Subscript x y p) d) (t : EVs c σ es ds) : EVs c σ (.Subscript x y p :: es) (d :: ds) := .cons h (fun _ => rfl) t
theorem EVs.cF {x : Expr} {as : List Expr} {ks : List Keyword} {p : Pos} (h : EV c σ (.Call x as ks p) d) (t : EVs c σ es ds) : EVs c σ (.Call x as ks p :: es) (d :: ds) := .cons h (fun _ => rfl) t
theorem EVs.cN {x : Str} {p : Pos} (h : EV c σ (.Name x p) d) (t : EVs c σ es ds) : EVs c σ (.Name x p :: es) (d :: ds) := .cons h (fun _ => rfl) t
end
theorem TreeRest.inv {T : List Str → D → Prop} {part : List Str} {d : D} (h : TreeRest T part d) :
    (∃ r x, part = tk "!" :: r ∧ d = .list [.str (tk "!"), x] ∧ (∀ at_, (fnd part tiers).getLast? = some at_ → ¬ reaches part at_) ∧ T r x) ∨
    (∃ a b o x y, part = a ++ o :: b ∧ d = .list [.str o, x, y] ∧ (fnd part tiers).getLast? = some a.length ∧ (a.head? = some (tk "!") → reaches part a.length) ∧ a ≠ [] ∧ T a x ∧ T b y) ∨
    (∃ m, part = tk "(" :: (m ++ [tk ")"]) ∧ fnd part tiers = [] ∧ T m d) ∨
    (∃ t, part = [t] ∧ d = .str (num t) ∧ t ≠ tk "!" ∧ t ≠ tk "(" ∧ fnd part tiers = [] ∧ t.length ≤ 100) := by
  cases h with
  | neg h1 h2 => exact .inl ⟨_, _, rfl, rfl, h1, h2⟩
  | op h1 h2 h3 h4 h5 => exact .inr (.inl ⟨_, _, _, _, _, rfl, rfl, h1, h2, h3, h4, h5⟩)
  | par h1 h2 => exact .inr (.inr (.inl ⟨_, rfl, h1, h2⟩))
  | leaf h1 h2 h3 h4 => exact .inr (.inr (.inr ⟨_, rfl, rfl, h1, h2, h3, h4⟩))
theorem IT.cast {c : Cfg} {σ : Sig} {e : Expr} {ds ds' : List D} (h : IT c σ e ds) (q : ds = ds') : IT c σ e ds' := q ▸ h
noncomputable def tierDs : List D := tiers.map fun s => .list (s.map .str)
set_option maxHeartbeats 4000000 in
theorem tree_body {w : World} {h₁ : Heap} {mg mb : Str → Option Value} (KX : (hd.heap_39 w.params).In h₁) (st : Stat h₁ mg mb) (F : Nat) (hF : 4 ≤ F) (part : List Str) (hn : part.length ≤ 1000) (hne : part ≠ []) (d : D)
    (H : (∃ a b c x y z, part = a ++ tk "?" :: (b ++ tk ":" :: c) ∧ d = .list [.str (tk "?"), x, y, z] ∧ Bal a ∧ NQ a ∧ Bal b ∧ QB b ∧ FN prg w h₁ 130 F [dstrs a] x ∧ FN prg w h₁ 130 F [dstrs b] y ∧ FN prg w h₁ 130 F [dstrs c] z)
      ∨ (pl (eqT (tk "?")) part = [] ∧ TreeRest (fun p x => FN prg w h₁ 130 F [dstrs p] x) part d)) : FN prg w h₁ 130 (F + 1) [dstrs part] d := by
  refine FN.of_bodyC (params := [tk "part"]) (names := [tk "places", tk "asks", tk "colon", tk "found", tk "signs", tk "at"]) st (KX 130 _ rfl) rfl (codeRec_of KX rfl) rfl rfl rfl rfl rfl (bindC_one fun _ => rfl) (by decide) (by decide) rfl rfl rfl ?_
  intro c ok is hs hdp hun
  have ev := ok.toEv
  have g_out : GL c "_law_outside" (some (.ref 106)) := GL.of is hs rfl rfl ((glob_at KX st.g rfl rfl _).trans rfl)
  have g_colon : GL c "_law_colon" (some (.ref 113)) := GL.of is hs rfl rfl ((glob_at KX st.g rfl rfl _).trans rfl)
  have g_tree : GL c "_law_tree" (some (.ref 130)) := GL.of is hs rfl rfl ((glob_at KX st.g rfl rfl _).trans rfl)
  have g_reaches : GL c "_law_reaches" (some (.ref 137)) := GL.of is hs rfl rfl ((glob_at KX st.g rfl rfl _).trans rfl)
  have g_number : GL c "_law_number" (some (.ref 120)) := GL.of is hs rfl rfl ((glob_at KX st.g rfl rfl _).trans rfl)
  have is_tree : IsFn h₁ 130 := ⟨_, _, KX 130 _ rfl, rfl⟩
  have kp : c.env.kindOf (tk "part") = some .cell := by unfold Env.kindOf; rw [hs]; rfl
  have ks : c.env.kindOf (tk "signs") = some .cell := by unfold Env.kindOf; rw [hs]; rfl
  have ka : c.env.kindOf (tk "asks") = some .local := by unfold Env.kindOf; rw [hs]; rfl
  have kf : c.env.kindOf (tk "found") = some .local := by unfold Env.kindOf; rw [hs]; rfl
  show SX c _ [(tk "part", .val (.list (part.map .str))), (tk "places", .un), (tk "asks", .un), (tk "colon", .un), (tk "found", .un), (tk "signs", .un), (tk "at", .un)] _ _
  refine SX.assign ok (EV.call ev is g_out ⟨_, _, KX 106 _ rfl, rfl⟩ (.one (EV.name ev (by walk_at "locd")) (fun _ => rfl)) ((outside_fn KX st part hn).mono (by omega : 1 ≤ F)) (by omega) (by omega)) (by walk_at "upd") rfl ?_
  refine SX.places ok part (eqT (tk "?")) [(tk "part", .val (.list (part.map .str)))] hn (IT.list ev (EV.name ev (by walk_at "loc"))) (by decide) rfl (by decide) rfl ?_ ?_ (by show [tk "at", tk "part"].Nodup; decide) ?_ (fun _ => rfl) rfl rfl ka (by walk_at "upd") ?_
  · intro n hn'
    have hn' : n ∈ [tk "part"] := hn'
    rw [List.mem_singleton.mp hn']
    exact ⟨kp, .head _⟩
  · intro q hq
    rw [List.mem_singleton.mp hq]
    exact ⟨.head _, rfl, rfl, .head _⟩
  · intro c' i x co hx
    have hi : i < part.length := (List.getElem?_eq_some_iff.mp hx).1
    exact EVB.compare (EV.item (EV.name co.ev (by walk_at "loc")) (EV.name co.ev (by walk_at "loc")) (by omega) (by simp; omega) (by simp; omega) (by rw [idx_nat]; simp [hx]) (fun _ _ => rfl)) EV.const_str OP2.eq_str rfl
  rcases H with ⟨a, b, cc, x, y, z, hp, hd', ha1, ha2, hb1, hb2, f1, f2, f3⟩ | ⟨hq, HR⟩
  · obtain ⟨qs, hpl⟩ := pl_first (P := eqT (tk "?")) (b := b ++ tk ":" :: cc) ha1 plain_q (by decide +kernel) (eqT_none fun t ht => (ha2 t ht).1)
    rw [← hp] at hpl
    have hcol := colon_cond (c := cc) ha2 ha1 hb2 hb1
    rw [← hp] at hcol
    have hlen : part.length = a.length + 1 + b.length + 1 + cc.length := by rw [hp]; simp; omega
    have hpll := pl_len (eqT (tk "?")) part
    refine SX.ite_true (EVB.cast (EVB.compare (EV.name ev (by walk_at "loc")) (EV.list .nil (by simp)) (OP2.ne_nil ev) rfl) (by rw [hpl]; rfl)) ?_
    refine SX.assign ok (EV.call ev is g_colon ⟨_, _, KX 113 _ rfl, rfl⟩ (.cons (EV.name ev (by walk_at "locd")) (fun _ => rfl) (.cons (EV.name ev (by walk_at "loc")) (fun _ => rfl) .nil)) ((colon_fn KX st part (outside part) hn fun i hi => outside_lt hi).mono (by omega : 1 ≤ F)) (by omega) (by omega)) (by walk_at "upd") rfl ?_
    rw [hcol]
    have hask : ∀ σ₀ p q r kk, Loc σ₀ (tk "asks") (.val (.list (nats (pl (eqT (tk "?")) part)))) → EV c σ₀ (.Subscript (.Name (tk "asks") p) (.Constant (.int 0) kk q) r) (.int (a.length : Int)) := fun σ₀ p q r kk hl =>
      EV.item (EV.name ev hl) EV.const_int (by simp [nats]) (by simp [nats, hpl]) (by simp [nats]; omega) (by rw [hpl]; simp [nats, idx]) (fun _ _ => rfl)
    have hs1 : cut none (some (a.length : Int)) (part.map D.str) = a.map D.str := by rw [cut_map, cut_take (by omega), hp]; simp
    have hs2 : cut (some ((a.length : Int) + 1)) (some ((a.length + 1 + b.length : Nat) : Int)) (part.map D.str) = b.map D.str := by
      rw [show ((a.length : Int) + 1) = ((a.length + 1 : Nat) : Int) by simp, cut_map, cut_mid (by omega) (by omega), hp]
      rw [show a ++ tk "?" :: (b ++ tk ":" :: cc) = (a ++ [tk "?"]) ++ (b ++ tk ":" :: cc) by simp]
      rw [List.drop_append_of_le_length (by simp), List.drop_of_length_le (by simp), List.nil_append, show a.length + 1 + b.length - (a.length + 1) = b.length by omega]
      simp
    have hs3 : cut (some (((a.length + 1 + b.length : Nat) : Int) + 1)) none (part.map D.str) = cc.map D.str := by
      rw [show (((a.length + 1 + b.length : Nat) : Int) + 1) = ((a.length + 1 + b.length + 1 : Nat) : Int) by simp, cut_map, cut_drop (by omega), hp]
      rw [show a ++ tk "?" :: (b ++ tk ":" :: cc) = (a ++ [tk "?"] ++ b ++ [tk ":"]) ++ cc by simp]
      rw [List.drop_append_of_le_length (by simp; omega), List.drop_of_length_le (by simp; omega), List.nil_append]
    refine SX.ret (EV.list (.cons EV.const_str (fun _ => rfl) (.cons (EV.call ev is g_tree is_tree (.one (EV.cast (EV.slice (EV.name ev (by walk_at "loc")) .none (.some (hask _ _ _ _ _ (by walk_at "loc"))) (by simp; omega) (fun _ _ => rfl)) (by rw [hs1]; rfl)) (fun _ => rfl)) f1 (by omega) (by omega)) (fun _ => rfl)
      (.cons (EV.call ev is g_tree is_tree (.one (EV.cast (EV.slice (EV.name ev (by walk_at "loc")) (.some (EV.binop (hask _ _ _ _ _ (by walk_at "loc")) EV.const_int OP2.add_int)) (.some (EV.name ev (by walk_at "loc"))) (by simp; omega) (fun _ _ => rfl)) (by rw [hs2]; rfl)) (fun _ => rfl)) f2 (by omega) (by omega)) (fun _ => rfl)
      (.cons (EV.call ev is g_tree is_tree (.one (EV.cast (EV.slice (EV.name ev (by walk_at "loc")) (.some (EV.binop (EV.name ev (by walk_at "loc")) EV.const_int OP2.add_int)) .none (by simp; omega) (fun _ _ => rfl)) (by rw [hs3]; rfl)) (fun _ => rfl)) f3 (by omega) (by omega)) (fun _ => rfl) .nil)))) (by simp)) ?_
    show AFlow.ret _ = AFlow.ret d
    rw [hd']
  · refine SX.ite_false (EVB.cast (EVB.compare (EV.name ev (by walk_at "loc")) (EV.list .nil (by simp)) (OP2.ne_nil ev) rfl) (by rw [hq]; rfl)) ?_
    refine SX.nil ?_
    refine SX.assign ok (EV.list .nil (by simp)) (by walk_at "upd") rfl ?_
    have hex : ∀ i : Nat, ∃ b : Bool, b = true ↔ reaches part i := fun i => by
      by_cases h : reaches part i
      · exact ⟨true, fun _ => h, fun _ => rfl⟩
      · exact ⟨false, (fun e => nomatch e), fun q => absurd q h⟩
    -- the loop over the tiers
    with_reducible (refine SX.forIn ok (ds := tierDs) (fun i σ => ∃ vs, σ = [(tk "part", .val (.list (part.map .str))), (tk "places", .val (.list (nats (outside part)))), (tk "asks", .val (.list (nats (pl (eqT (tk "?")) part)))), (tk "colon", .un), (tk "found", .val (.list (nats (fnd part (tiers.take i))))), (tk "signs", vs), (tk "at", .un)]) ?_ ?_ ?_ ?_ ?_)
    · with_reducible (refine IT.cast (IT.tuple ev (EV.tuple (.cL (EV.list (.cC EV.const_str .nil) ?_) (.cL (EV.list (.cC EV.const_str .nil) ?_) (.cL (EV.list (.cC EV.const_str (.cC EV.const_str .nil)) ?_) (.cL (EV.list (.cC EV.const_str (.cC EV.const_str (.cC EV.const_str (.cC EV.const_str .nil)))) ?_) (.cL (EV.list (.cC EV.const_str (.cC EV.const_str .nil)) ?_) (.cL (EV.list (.cC EV.const_str (.cC EV.const_str (.cC EV.const_str .nil))) ?_) .nil)))))) ?_)) ?_)
      rotate_left
      rotate_left
      rotate_left
      rotate_left
      rotate_left
      rotate_left
      rotate_left
      · rfl
      all_goals simp
    · exact ⟨_, rfl⟩
    · rintro i dd σ₁ hdd ⟨vs, rfl⟩
      unfold tierDs at hdd
      rw [List.getElem?_map, Option.map_eq_some_iff] at hdd
      obtain ⟨s, hs', rfl⟩ := hdd
      have hi6 : i < tiers.length := (List.getElem?_eq_some_iff.mp hs').1
      have htake : tiers.take (i + 1) = tiers.take i ++ [s] := by rw [List.take_add_one, hs']; rfl
      refine ⟨_, by walk_at "upd", ?_⟩
      refine SX.ite (EVB.compare (EV.name ev (by walk_at "loc")) (EV.list .nil (by simp)) (OP2.eq_nil ev) rfl) (fun hb => ?_) (fun hb => ?_)
      · have hf : fnd part (tiers.take i) = [] := by cases hq' : fnd part (tiers.take i) with
          | nil => rfl
          | cons _ _ => rw [hq'] at hb; simp [nats] at hb
        refine SX.places ok part (isIn s) [(tk "part", .val (.list (part.map .str))), (tk "signs", .val (.list (s.map .str)))] hn (IT.list ev (EV.name ev (by walk_at "loc"))) (by decide) rfl (by decide) rfl ?_ ?_ (by show [tk "at", tk "part", tk "signs"].Nodup; decide) ?_ (fun _ => rfl) rfl rfl kf (by walk_at "upd") ?_
        · intro n hn'
          have hn' : n ∈ [tk "part", tk "signs"] := hn'
          rcases List.mem_cons.mp hn' with rfl | hn'
          · exact ⟨kp, .head _⟩
          · rw [List.mem_singleton.mp hn']
            exact ⟨ks, by show tk "signs" ∈ [tk "part", tk "places", tk "asks", tk "colon", tk "found", tk "signs", tk "at"]; decide⟩
        · intro q hq'
          rcases List.mem_cons.mp hq' with rfl | hq'
          · exact ⟨.head _, rfl, rfl, .head _⟩
          · rw [List.mem_singleton.mp hq']
            exact ⟨.tail _ (.tail _ (.tail _ (.tail _ (.tail _ (.head _))))), rfl, rfl, .tail _ (.head _)⟩
        · intro c' i x co hx
          have hi : i < part.length := (List.getElem?_eq_some_iff.mp hx).1
          exact EVB.compare (EV.item (EV.name co.ev (by walk_at "loc")) (EV.name co.ev (by walk_at "loc")) (by omega) (by simp; omega) (by simp; omega) (by rw [idx_nat]; simp [hx]) (fun _ _ => rfl)) (EV.name co.ev (by walk_at "loc")) OP2.in_strs rfl
        · refine SX.nil (SX.nil ⟨.val (.list (s.map .str)), ?_⟩)
          rw [htake, fnd_snoc, if_pos hf]
      · have hf : fnd part (tiers.take i) ≠ [] := fun e => by rw [e] at hb; simp [nats] at hb
        refine SX.nil (SX.nil ⟨.val (.list (s.map .str)), ?_⟩)
        rw [htake, fnd_snoc, if_neg hf]
    rotate_left
    · exact fun _ => rfl
    rintro σ₁ ⟨vs, rfl⟩
    rw [show tiers.take tierDs.length = tiers by rfl]
    have hfl := fnd_len part tiers
    obtain ⟨p0, pr, hp0⟩ : ∃ p0 pr, part = p0 :: pr := by cases part with
      | nil => exact absurd rfl hne
      | cons a b => exact ⟨a, b, rfl⟩
    have hit0 : ∀ σ₀ p q r kk, Loc σ₀ (tk "part") (.val (.list (part.map .str))) → EV c σ₀ (.Subscript (.Name (tk "part") p) (.Constant (.int 0) kk q) r) (.str p0) := fun σ₀ p q r kk hl =>
      EV.item (EV.name ev hl) EV.const_int (by simp) (by rw [hp0]; simp) (by simp; omega) (by rw [hp0]; simp [idx]) (fun _ _ => rfl)
    have hlast : ∀ σ₀ p q r z kk at_, (fnd part tiers).getLast? = some at_ → Loc σ₀ (tk "found") (.val (.list (nats (fnd part tiers)))) → EV c σ₀ (.Subscript (.Name (tk "found") p) (.UnaryOp .USub (.Constant (.int 1) kk q) r) z) (.int (at_ : Int)) := fun σ₀ p q r z kk at_ hg hl => by
      have hne' : 1 ≤ (nats (fnd part tiers)).length := by cases hq' : fnd part tiers with
        | nil => rw [hq'] at hg; cases hg
        | cons _ _ => simp [nats]
      exact EV.item (EV.name ev hl) (EV.neg EV.const_int) (by omega) (by omega) (by simp [nats]; omega) (idx_last (by unfold nats; rw [List.getLast?_map, hg]; rfl)) (fun _ _ => rfl)
    have hat : ∀ i, (fnd part tiers).getLast? = some i → i < part.length := fun i hi => fnd_lt (List.mem_of_getLast? hi)
    have hts : ∀ i, (part.take i).length ≤ 1000 := fun i => by simp; omega
    -- the first test
    obtain ⟨bt, hbt⟩ : ∃ bt : Bool, bt = true ↔ (p0 = tk "!" ∧ ∀ i, (fnd part tiers).getLast? = some i → ¬ reaches part i) := by
      by_cases h : (p0 = tk "!" ∧ ∀ i, (fnd part tiers).getLast? = some i → ¬ reaches part i)
      · exact ⟨true, fun _ => h, fun _ => rfl⟩
      · exact ⟨false, (fun e => nomatch e), fun q => absurd q h⟩
    have htest : EVB c [(tk "part", .val (.list (part.map .str))), (tk "places", .val (.list (nats (outside part)))), (tk "asks", .val (.list (nats (pl (eqT (tk "?")) part)))), (tk "colon", .un), (tk "found", .val (.list (nats (fnd part tiers)))), (tk "signs", vs), (tk "at", .un)]
        (.BoolOp .And [.Compare (.Subscript (.Name (tk "part") ⟨128, 7, 128, 11⟩) (.Constant (.int 0) 0 ⟨128, 12, 128, 13⟩) ⟨128, 7, 128, 14⟩) [.Eq] [.Constant (.str (tk "!")) 0 ⟨128, 18, 128, 21⟩] ⟨128, 7, 128, 21⟩,
          .BoolOp .Or [.Compare (.Name (tk "found") ⟨128, 27, 128, 32⟩) [.Eq] [.List [] ⟨128, 36, 128, 38⟩] ⟨128, 27, 128, 38⟩, .UnaryOp .Not (.Call (.Name (tk "_law_reaches") ⟨128, 46, 128, 58⟩) [.Name (tk "part") ⟨128, 59, 128, 63⟩, .Subscript (.Name (tk "found") ⟨128, 65, 128, 70⟩) (.UnaryOp .USub (.Constant (.int 1) 0 ⟨128, 72, 128, 73⟩) ⟨128, 71, 128, 73⟩) ⟨128, 65, 128, 74⟩] [] ⟨128, 46, 128, 75⟩) ⟨128, 42, 128, 75⟩] ⟨128, 27, 128, 75⟩] ⟨128, 7, 128, 76⟩) bt := by
      cases hg : (fnd part tiers).getLast? with
      | none =>
        have hnil : fnd part tiers = [] := List.getLast?_eq_none_iff.mp hg
        refine EVB.cast (EVB.and (EVB.compare (hit0 _ _ _ _ _ (by walk_at "loc")) EV.const_str OP2.eq_str rfl) (b' := true) fun _ => EVB.and1 (EVB.cast (EVB.or (EVB.compare (EV.name ev (by walk_at "loc")) (EV.list .nil (by simp)) (OP2.eq_nil ev) rfl) (b' := false) fun hb => ?_) (by rw [hnil]; rfl))) ?_
        · rw [hnil] at hb; cases hb
        · rw [Bool.and_true, Bool.eq_iff_iff, hbt, beq_iff_eq]
          exact ⟨fun h => ⟨h, fun i hi => by rw [hg] at hi; cases hi⟩, fun h => h.1⟩
      | some i =>
        have hne' : (nats (fnd part tiers)).isEmpty = false := by cases hq' : fnd part tiers with
          | nil => rw [hq'] at hg; cases hg
          | cons _ _ => rfl
        obtain ⟨br, hbr⟩ := hex i
        refine EVB.cast (EVB.and (EVB.compare (hit0 _ _ _ _ _ (by walk_at "loc")) EV.const_str OP2.eq_str rfl) (b' := !br) fun _ => EVB.and1 (EVB.cast (EVB.or (EVB.compare (EV.name ev (by walk_at "loc")) (EV.list .nil (by simp)) (OP2.eq_nil ev) rfl) (b' := !br) fun hb => EVB.or1 (EVB.not (EVB.of_bool (EV.call ev is g_reaches ⟨_, _, KX 137 _ rfl, rfl⟩ (.cN (EV.name ev (by walk_at "locd")) (.cS (hlast _ _ _ _ _ _ i hg (by walk_at "loc")) .nil)) ((reaches_fn KX st part hn i (hat i hg) br hbr).mono (by omega : 3 ≤ F)) (by omega) (by omega)) rfl))) (by rw [hne']; rfl))) ?_
        rw [Bool.eq_iff_iff, hbt, Bool.and_eq_true, beq_iff_eq, Bool.not_eq_true', ← Bool.not_eq_true, hbr]
        exact ⟨fun h => ⟨h.1, fun j hj => by rw [hg] at hj; cases hj; exact h.2⟩, fun h => ⟨h.1, h.2 i hg⟩⟩
    with_reducible (refine SX.ite htest ?_ ?_)
    · intro hb
      obtain ⟨h1, h2⟩ := hbt.mp hb
      rcases HR.inv with ⟨r, x, hp, hd', _, f1⟩ | ⟨a, b, o, x, y, hp, hd', g1, g2, g3, _⟩ | ⟨m, hp, _⟩ | ⟨t, hp, _, g1, _⟩
      · have hsl : cut (some 1) none (part.map D.str) = r.map D.str := by
          rw [show (1 : Int) = ((1 : Nat) : Int) from rfl, cut_map, cut_drop (by rw [hp]; simp), hp]; rfl
        with_reducible (refine SX.ret (EV.list (.cC EV.const_str (.cF (EV.call ev is g_tree is_tree (.cS (EV.cast (EV.slice (EV.name ev (by walk_at "loc")) (.some EV.const_int) .none ?_ ?_) ?_) .nil) f1 ?_ ?_) .nil)) ?_) ?_)
        · simp; omega
        · exact fun _ _ => rfl
        · rw [hsl]; rfl
        · omega
        · omega
        · simp
        · show AFlow.ret _ = AFlow.ret d
          rw [hd']
      · exfalso
        refine h2 _ g1 (g2 ?_)
        cases a with
        | nil => exact absurd rfl g3
        | cons a0 a1 => rw [hp0] at hp; cases hp; rw [h1]; rfl
      · exfalso
        rw [hp0] at hp; cases hp
        exact absurd h1 (by decide +kernel)
      · exfalso
        rw [hp0] at hp; cases hp
        exact g1 h1
    · intro hb
      refine SX.nil ?_
      rcases HR.inv with ⟨r, x, hp, _, g1, _⟩ | ⟨a, b, o, x, y, hp, hd', g1, g2, g3, f1, f2⟩ | ⟨m, hp, g1, f1⟩ | ⟨t, hp, hd', g1, g2, g3, g4⟩
      · exfalso
        have : bt = true := hbt.mpr ⟨by rw [hp0] at hp; cases hp; rfl, g1⟩
        rw [hb] at this; cases this
      · have hnb : (!(nats (fnd part tiers)).isEmpty) = true := by cases hq' : fnd part tiers with
          | nil => rw [hq'] at g1; cases g1
          | cons _ _ => rfl
        have hal := hat _ g1
        have hsl1 : cut none (some (a.length : Int)) (part.map D.str) = a.map D.str := by rw [cut_map, cut_take (by omega), hp]; simp
        have hsl2 : cut (some ((a.length : Int) + 1)) none (part.map D.str) = b.map D.str := by
          rw [show ((a.length : Int) + 1) = ((a.length + 1 : Nat) : Int) by simp, cut_map, cut_drop (by omega), hp]
          rw [show a ++ o :: b = (a ++ [o]) ++ b by simp, List.drop_append_of_le_length (by simp), List.drop_of_length_le (by simp), List.nil_append]
        have hx : part[a.length]? = some o := by rw [hp]; simp
        refine SX.ite_true (EVB.cast (EVB.compare (EV.name ev (by walk_at "loc")) (EV.list .nil (by simp)) (OP2.ne_nil ev) rfl) hnb) ?_
        refine SX.assign ok (hlast _ _ _ _ _ _ _ g1 (by walk_at "loc")) (by walk_at "upd") rfl ?_
        with_reducible (refine SX.ret (EV.list (.cS (EV.item (EV.name ev (by walk_at "loc")) (EV.name ev (by walk_at "loc")) ?_ ?_ ?_ (d := .str o) ?_ ?_) (.cF (EV.call ev is g_tree is_tree (.cS (EV.cast (EV.slice (EV.name ev (by walk_at "loc")) .none (.some (EV.name ev (by walk_at "loc"))) ?_ ?_) ?_) .nil) f1 ?_ ?_) (.cF (EV.call ev is g_tree is_tree (.cS (EV.cast (EV.slice (EV.name ev (by walk_at "loc")) (.some (EV.binop (EV.name ev (by walk_at "loc")) EV.const_int OP2.add_int)) .none ?_ ?_) ?_) .nil) f2 ?_ ?_) .nil))) ?_) ?_)
        · omega
        · simp; omega
        · simp; omega
        · rw [idx_nat]; simp [hx]
        · exact fun _ _ => rfl
        · simp; omega
        · exact fun _ _ => rfl
        · rw [hsl1]; rfl
        · omega
        · omega
        · simp; omega
        · exact fun _ _ => rfl
        · rw [hsl2]; rfl
        · omega
        · omega
        · simp
        · show AFlow.ret _ = AFlow.ret d
          rw [hd']
      · refine SX.ite_false (EVB.cast (EVB.compare (EV.name ev (by walk_at "loc")) (EV.list .nil (by simp)) (OP2.ne_nil ev) rfl) ?_) ?_
        · rw [g1]; rfl
        refine SX.nil ?_
        refine SX.ite_true (EVB.cast (EVB.compare (hit0 _ _ _ _ _ (by walk_at "loc")) EV.const_str OP2.eq_str rfl) ?_) ?_
        · rw [hp0] at hp; cases hp; decide +kernel
        with_reducible (refine SX.ret (EV.call ev is g_tree is_tree (.cS (EV.cast (EV.slice (EV.name ev (by walk_at "loc")) (.some EV.const_int) (.some (EV.neg EV.const_int)) ?_ ?_) ?_) .nil) f1 ?_ ?_) ?_)
        · simp; omega
        · exact fun _ _ => rfl
        · rw [cut_map, hp, cut_inner]; rfl
        · omega
        · omega
        · rfl
      · refine SX.ite_false (EVB.cast (EVB.compare (EV.name ev (by walk_at "loc")) (EV.list .nil (by simp)) (OP2.ne_nil ev) rfl) ?_) ?_
        · rw [g3]; rfl
        refine SX.nil ?_
        have hp0' : p0 = t := by rw [hp0] at hp; cases hp; rfl
        refine SX.ite_false (EVB.cast (EVB.compare (hit0 _ _ _ _ _ (by walk_at "loc")) EV.const_str OP2.eq_str rfl) ?_) ?_
        · rw [hp0']; exact beq_eq_false_iff_ne.mpr g2
        refine SX.nil ?_
        refine SX.ret (EV.call ev is g_number ⟨_, _, KX 120 _ rfl, rfl⟩ (.cS (hit0 _ _ _ _ _ (by walk_at "loc")) .nil) ((number_fn KX st p0 (by rw [hp0']; omega)).mono (by omega : 1 ≤ F)) (by omega) (by omega)) ?_
        · show AFlow.ret _ = AFlow.ret d
          rw [hd', hp0']
/-- what _law_tree gives -/
theorem tree_fn {w : World} {h₁ : Heap} {mg mb : Str → Option Value} (KX : (hd.heap_39 w.params).In h₁) (st : Stat h₁ mg mb) {n : Nat} {part : List Str} {d : D} (h : TreeR n part d) : part.length ≤ 1000 → FN prg w h₁ 130 (n + 4) [dstrs part] d := by
  induction h with
  | @ask n a b c x y z h1 h2 h3 h4 _ _ _ i1 i2 i3 =>
    intro hl
    have hlen : (a ++ tk "?" :: (b ++ tk ":" :: c)).length = a.length + b.length + c.length + 2 := by simp; omega
    exact tree_body KX st (n + 4) (by omega) _ hl (by simp) _ (.inl ⟨a, b, c, x, y, z, rfl, rfl, h1, h2, h3, h4, i1 (by omega), i2 (by omega), i3 (by omega)⟩)
  | @neg n r x h1 h2 _ i1 =>
    intro hl
    exact tree_body KX st (n + 4) (by omega) _ hl (by simp) _ (.inr ⟨h1, .neg h2 (i1 (by simp at hl; omega))⟩)
  | @op n a b o x y h1 h2 h3 h4 _ _ i1 i2 =>
    intro hl
    have hlen : (a ++ o :: b).length = a.length + b.length + 1 := by simp; omega
    exact tree_body KX st (n + 4) (by omega) _ hl (by simp) _ (.inr ⟨h1, .op h2 h3 h4 (i1 (by omega)) (i2 (by omega))⟩)
  | @par n m x h1 _ i1 =>
    intro hl
    have hlen : (tk "(" :: (m ++ [tk ")"])).length = m.length + 2 := by simp
    have ho := oT_wrap h1
    exact tree_body KX st (n + 4) (by omega) _ hl (by simp) _ (.inr ⟨pl_nil (by rw [ho]; simp), .par (fnd_none (by rw [ho]; simp)) (i1 (by omega))⟩)
  | @leaf n t h1 h2 h3 h4 h5 =>
    intro hl
    have ho : oT [t] = [t] := oT_cons h3 []
    exact tree_body KX st (n + 4) (by omega) _ hl (by simp) _ (.inr ⟨pl_nil (by rw [ho]; intro u hu; rw [List.mem_singleton.mp hu]; exact beq_eq_false_iff_ne.mpr h2), .leaf h1 h3.1 (fnd_none (by rw [ho]; intro u hu; rw [List.mem_singleton.mp hu]; exact h4)) h5⟩)
end Mine
namespace Mine
local macro_rules | `(tactic| walk_at "loc") => `(tactic| first | with_reducible exact Loc.head | (with_reducible apply Loc.tail; walk_at "loc"))
local macro_rules | `(tactic| walk_at "locd") => `(tactic| first | exact Loc.head | (with_reducible apply Loc.tail; walk_at "locd"))
local macro_rules | `(tactic| walk_at "upd") => `(tactic| first | with_reducible exact Upd.head | (with_reducible apply Upd.tail; walk_at "upd"))
noncomputable def ptierDs : List D := [[tk "+", tk "-"], [tk "*", tk "//", tk "%"]].map fun s => .list (s.map .str)
theorem back_look (t : Str) : (Spec.lookup (.str t) (backTab.map fun p => (.str p.1, .str p.2))).getD (.str t) = .str (backOp t) := by
  unfold backOp
  generalize backTab = l
  induction l with
  | nil => rfl
  | cons p l ih =>
    rw [List.map_cons, List.lookup_cons]
    have : Spec.lookup (.str t) ((PyData.str p.1, PyData.str p.2) :: l.map fun p => (.str p.1, .str p.2)) = if t == p.1 then some (.str p.2) else Spec.lookup (.str t) (l.map fun p => (.str p.1, .str p.2)) := by
      have := lookup_strs (ps := ((p.1, PyData.str p.2) :: l.map fun p => (p.1, PyData.str p.2))) (y := t)
      rw [List.lookup_cons] at this
      have h2 := lookup_strs (ps := l.map fun p => (p.1, PyData.str p.2)) (y := t)
      simp only [List.map_cons, List.map_map, Function.comp_def] at this h2
      rw [this, h2]
      cases t == p.1 <;> rfl
    rw [this]
    cases t == p.1 with
    | true => rfl
    | false => exact ih
theorem look_or : Spec.lookup (.str (tk "or")) ([(tk "or", tk "||"), (tk "and", tk "&&")].map fun p => (PyData.str p.1, PyData.str p.2)) = some (.str (tk "||")) := by
  refine (lookup_strs (ps := [(tk "or", .str (tk "||")), (tk "and", .str (tk "&&"))])).trans ?_
  rw [List.lookup_cons, show (tk "or" == tk "or") = true by decide +kernel]
theorem look_and : Spec.lookup (.str (tk "and")) ([(tk "or", tk "||"), (tk "and", tk "&&")].map fun p => (PyData.str p.1, PyData.str p.2)) = some (.str (tk "&&")) := by
  refine (lookup_strs (ps := [(tk "or", .str (tk "||")), (tk "and", .str (tk "&&"))])).trans ?_
  rw [List.lookup_cons, show (tk "and" == tk "or") = false by decide +kernel, List.lookup_cons, show (tk "and" == tk "and") = true by decide +kernel]
noncomputable abbrev sigY (part : List Str) (ifs elses word found at_ compares signs : AV) : Sig :=
  [(tk "part", .val (.list (part.map .str))), (tk "places", .val (.list (nats (outside part)))), (tk "ifs", ifs), (tk "elses", elses), (tk "word", word), (tk "found", found), (tk "at", at_), (tk "compares", compares), (tk "signs", signs)]
/-- an operation of Python that parts the words -/
noncomputable def Parts (T : List Str → D → Prop) (part : List Str) (w sym : Str) (d : D) : Prop := ∃ a b x y, part = a ++ w :: b ∧ d = .list [.str sym, x, y] ∧ (pl (eqT w) part).getLast? = some a.length ∧ T a x ∧ T b y
noncomputable def PyTail (T : List Str → D → Prop) (part : List Str) (d : D) : Prop :=
    (∃ r x, part = tk "not" :: r ∧ d = .list [.str (tk "!"), x] ∧ T r x) ∨
    (∃ a b o x y, part = a ++ o :: b ∧ d = .list [.str (backOp o), x, y] ∧ a ≠ [] ∧ a.head? ≠ some (tk "not") ∧ b.head? ≠ some (tk "not") ∧ (pl (isIn cmps) part).length ≤ 1 ∧ (fnd part ptiers).getLast? = some a.length ∧ T a x ∧ T b y) ∨
    (∃ m, part = tk "(" :: (m ++ [tk ")"]) ∧ pl (isIn cmps) part = [] ∧ fnd part ptiers = [] ∧ T m d) ∨
    (∃ t, part = [t] ∧ d = .str t ∧ t ≠ tk "not" ∧ t ≠ tk "(" ∧ pl (isIn cmps) part = [] ∧ fnd part ptiers = [])
theorem getLast_ne {ns : List Nat} {i : Nat} (h : ns.getLast? = some i) : ns ≠ [] := fun e => by rw [e] at h; cases h
theorem nats_ne {ns : List Nat} (h : ns ≠ []) : (!(nats ns).isEmpty) = true := by cases ns with
  | nil => exact absurd rfl h
  | cons _ _ => rfl
set_option maxHeartbeats 4000000 in
theorem python_body {w : World} {h₁ : Heap} {mg mb : Str → Option Value} (KX : (hd.heap_39 w.params).In h₁) (st : Stat h₁ mg mb) (F : Nat) (hF : 4 ≤ F) (part : List Str) (hn : part.length ≤ 1000) (hne : part ≠ []) (hok : ∀ t ∈ part, PyData.strOk t = true) (d : D)
    (H : (∃ a b c x y z, part = a ++ tk "if" :: (b ++ tk "else" :: c) ∧ d = .list [.str (tk "?"), x, y, z] ∧ (∃ r, pl (eqT (tk "if")) part = a.length :: r) ∧ (∃ r, pl (eqT (tk "else")) part = (a.length + 1 + b.length) :: r) ∧ FN prg w h₁ 142 F [dstrs b] x ∧ FN prg w h₁ 142 F [dstrs a] y ∧ FN prg w h₁ 142 F [dstrs c] z)
      ∨ (pl (eqT (tk "if")) part = [] ∧ (pl (eqT (tk "or")) part ≠ [] → Parts (fun p x => FN prg w h₁ 142 F [dstrs p] x) part (tk "or") (tk "||") d) ∧ (pl (eqT (tk "or")) part = [] → pl (eqT (tk "and")) part ≠ [] → Parts (fun p x => FN prg w h₁ 142 F [dstrs p] x) part (tk "and") (tk "&&") d) ∧ (pl (eqT (tk "or")) part = [] → pl (eqT (tk "and")) part = [] → PyTail (fun p x => FN prg w h₁ 142 F [dstrs p] x) part d))) :
    FN prg w h₁ 142 (F + 1) [dstrs part] d := by
  refine FN.of_bodyC (params := [tk "part"]) (names := [tk "places", tk "ifs", tk "elses", tk "word", tk "found", tk "at", tk "compares", tk "signs"]) st (KX 142 _ rfl) rfl (codeRec_of KX rfl) rfl rfl rfl rfl rfl (bindC_one fun _ => rfl) (by decide) (by decide) rfl rfl rfl ?_
  intro c ok is hs hdp hun
  have ev := ok.toEv
  have g_out : GL c "_law_outside" (some (.ref 106)) := GL.of is hs rfl rfl ((glob_at KX st.g rfl rfl _).trans rfl)
  have g_py : GL c "_law_python" (some (.ref 142)) := GL.of is hs rfl rfl ((glob_at KX st.g rfl rfl _).trans rfl)
  have g_cmp : GL c "_law_compares" (some (.ref 125)) := GL.of is hs rfl rfl ((glob_at KX st.g rfl rfl _).trans rfl)
  have g_len : GL c "len" none := GL.of is hs rfl rfl ((glob_at KX st.g rfl rfl _).trans rfl)
  have is_py : IsFn h₁ 142 := ⟨_, _, KX 142 _ rfl, rfl⟩
  have kp : c.env.kindOf (tk "part") = some .cell := by unfold Env.kindOf; rw [hs]; rfl
  have kw : c.env.kindOf (tk "word") = some .cell := by unfold Env.kindOf; rw [hs]; rfl
  have ks : c.env.kindOf (tk "signs") = some .cell := by unfold Env.kindOf; rw [hs]; rfl
  have ki : c.env.kindOf (tk "ifs") = some .local := by unfold Env.kindOf; rw [hs]; rfl
  have ke : c.env.kindOf (tk "elses") = some .local := by unfold Env.kindOf; rw [hs]; rfl
  have kf : c.env.kindOf (tk "found") = some .local := by unfold Env.kindOf; rw [hs]; rfl
  have hst : Stat c.h₁ c.mg c.mb := ev.st
  show SX c _ [(tk "part", .val (.list (part.map .str))), (tk "places", .un), (tk "ifs", .un), (tk "elses", .un), (tk "word", .un), (tk "found", .un), (tk "at", .un), (tk "compares", .un), (tk "signs", .un)] _ _
  refine SX.ite_false (EVB.cast (EVB.compare (EV.name ev (by walk_at "loc")) (EV.list .nil (by simp)) (OP2.eq_nil ev) rfl) (by cases part with
    | nil => exact absurd rfl hne
    | cons _ _ => rfl)) ?_
  refine SX.nil ?_
  refine SX.assign ok (EV.call ev is g_out ⟨_, _, KX 106 _ rfl, rfl⟩ (.one (EV.name ev (by walk_at "locd")) (fun _ => rfl)) ((outside_fn KX st part hn).mono (by omega : 1 ≤ F)) (by omega) (by omega)) (by walk_at "upd") rfl ?_
  have hfree1 : ∀ (σ₀ : Sig), tk "part" ∈ σ₀.map (·.1) → ∀ n ∈ [tk "part"], c.env.kindOf n = some .cell ∧ n ∈ σ₀.map (·.1) := fun σ₀ h n hn' => by
    rw [List.mem_singleton.mp hn']; exact ⟨kp, h⟩
  have hit : ∀ {c' : Cfg} {σ₀ : Sig} {i : Nat} {x : Str} {p q r : Pos}, c'.Ev → part[i]? = some x → Loc σ₀ (tk "part") (.val (.list (part.map .str))) → Loc σ₀ (tk "at") (.val (.int (i : Int))) → EV c' σ₀ (.Subscript (.Name (tk "part") p) (.Name (tk "at") q) r) (.str x) := fun ev' hx h1 h2 => by
    have hi := (List.getElem?_eq_some_iff.mp hx).1
    exact EV.item (EV.name ev' h1) (EV.name ev' h2) (by omega) (by simp; omega) (by simp; omega) (by rw [idx_nat]; simp [hx]) (fun _ _ => rfl)
  refine SX.places ok part (eqT (tk "if")) [(tk "part", .val (.list (part.map .str)))] hn (IT.list ev (EV.name ev (by walk_at "loc"))) (by decide) rfl (by decide) rfl (hfree1 _ (.head _)) (fun q hq => by rw [List.mem_singleton.mp hq]; exact ⟨.head _, rfl, rfl, .head _⟩) (by show [tk "at", tk "part"].Nodup; decide)
    (fun c' i x co hx => EVB.compare (hit co.ev hx (by walk_at "loc") (by walk_at "loc")) EV.const_str OP2.eq_str rfl) (fun _ => rfl) rfl rfl ki (by walk_at "upd") ?_
  refine SX.places ok part (eqT (tk "else")) [(tk "part", .val (.list (part.map .str)))] hn (IT.list ev (EV.name ev (by walk_at "loc"))) (by decide) rfl (by decide) rfl (hfree1 _ (.head _)) (fun q hq => by rw [List.mem_singleton.mp hq]; exact ⟨.head _, rfl, rfl, .head _⟩) (by show [tk "at", tk "part"].Nodup; decide)
    (fun c' i x co hx => EVB.compare (hit co.ev hx (by walk_at "loc") (by walk_at "loc")) EV.const_str OP2.eq_str rfl) (fun _ => rfl) rfl rfl ke (by walk_at "upd") ?_
  show SX c _ (sigY part (.val (.list (nats (pl (eqT (tk "if")) part)))) (.val (.list (nats (pl (eqT (tk "else")) part)))) .un .un .un .un .un) _ _
  rcases H with ⟨a, b, cc, x, y, z, hp, hd', ⟨ri, hif⟩, ⟨re, hel⟩, f1, f2, f3⟩ | ⟨hq, HW0, HW1, HR⟩
  · have hlen : part.length = a.length + 1 + b.length + 1 + cc.length := by rw [hp]; simp; omega
    have hl1 := pl_len (eqT (tk "if")) part
    have hl2 := pl_len (eqT (tk "else")) part
    refine SX.ite_true (EVB.cast (EVB.and (EVB.compare (EV.name ev (by walk_at "loc")) (EV.list .nil (by simp)) (OP2.ne_nil ev) rfl) fun _ => EVB.and1 (EVB.compare (EV.name ev (by walk_at "loc")) (EV.list .nil (by simp)) (OP2.ne_nil ev) rfl)) (by rw [hif, hel]; rfl)) ?_
    have hi0 : ∀ σ₀ p q r kk, Loc σ₀ (tk "ifs") (.val (.list (nats (pl (eqT (tk "if")) part)))) → EV c σ₀ (.Subscript (.Name (tk "ifs") p) (.Constant (.int 0) kk q) r) (.int (a.length : Int)) := fun σ₀ p q r kk hl =>
      EV.item (EV.name ev hl) EV.const_int (by simp [nats]) (by simp [nats, hif]) (by simp [nats]; omega) (by rw [hif]; simp [nats, idx]) (fun _ _ => rfl)
    have he0 : ∀ σ₀ p q r kk, Loc σ₀ (tk "elses") (.val (.list (nats (pl (eqT (tk "else")) part)))) → EV c σ₀ (.Subscript (.Name (tk "elses") p) (.Constant (.int 0) kk q) r) (.int ((a.length + 1 + b.length : Nat) : Int)) := fun σ₀ p q r kk hl =>
      EV.item (EV.name ev hl) EV.const_int (by simp [nats]) (by simp [nats, hel]) (by simp [nats]; omega) (by rw [hel]; simp [nats, idx]) (fun _ _ => rfl)
    have hs1 : cut none (some (a.length : Int)) (part.map D.str) = a.map D.str := by rw [cut_map, cut_take (by omega), hp]; simp
    have hs2 : cut (some ((a.length : Int) + 1)) (some ((a.length + 1 + b.length : Nat) : Int)) (part.map D.str) = b.map D.str := by
      rw [show ((a.length : Int) + 1) = ((a.length + 1 : Nat) : Int) by simp, cut_map, cut_mid (by omega) (by omega), hp]
      rw [show a ++ tk "if" :: (b ++ tk "else" :: cc) = (a ++ [tk "if"]) ++ (b ++ tk "else" :: cc) by simp]
      rw [List.drop_append_of_le_length (by simp), List.drop_of_length_le (by simp), List.nil_append, show a.length + 1 + b.length - (a.length + 1) = b.length by omega]
      simp
    have hs3 : cut (some (((a.length + 1 + b.length : Nat) : Int) + 1)) none (part.map D.str) = cc.map D.str := by
      rw [show (((a.length + 1 + b.length : Nat) : Int) + 1) = ((a.length + 1 + b.length + 1 : Nat) : Int) by simp, cut_map, cut_drop (by omega), hp]
      rw [show a ++ tk "if" :: (b ++ tk "else" :: cc) = (a ++ [tk "if"] ++ b ++ [tk "else"]) ++ cc by simp]
      rw [List.drop_append_of_le_length (by simp; omega), List.drop_of_length_le (by simp; omega), List.nil_append]
    refine SX.ret (EV.list (.cC EV.const_str (.cF (EV.call ev is g_py is_py (.cS (EV.cast (EV.slice (EV.name ev (by walk_at "loc")) (.some (EV.binop (hi0 _ _ _ _ _ (by walk_at "loc")) EV.const_int OP2.add_int)) (.some (he0 _ _ _ _ _ (by walk_at "loc"))) (by simp; omega) (fun _ _ => rfl)) (by rw [hs2]; rfl)) .nil) f1 (by omega) (by omega))
      (.cF (EV.call ev is g_py is_py (.cS (EV.cast (EV.slice (EV.name ev (by walk_at "loc")) .none (.some (hi0 _ _ _ _ _ (by walk_at "loc"))) (by simp; omega) (fun _ _ => rfl)) (by rw [hs1]; rfl)) .nil) f2 (by omega) (by omega))
      (.cF (EV.call ev is g_py is_py (.cS (EV.cast (EV.slice (EV.name ev (by walk_at "loc")) (.some (EV.binop (he0 _ _ _ _ _ (by walk_at "loc")) EV.const_int OP2.add_int)) .none (by simp; omega) (fun _ _ => rfl)) (by rw [hs3]; rfl)) .nil) f3 (by omega) (by omega)) .nil)))) (by simp)) ?_
    show AFlow.ret _ = AFlow.ret d
    rw [hd']
  · refine SX.ite_false (EVB.cast (EVB.and (EVB.compare (EV.name ev (by walk_at "loc")) (EV.list .nil (by simp)) (OP2.ne_nil ev) rfl) fun _ => EVB.and1 (EVB.compare (EV.name ev (by walk_at "loc")) (EV.list .nil (by simp)) (OP2.ne_nil ev) rfl)) (by rw [hq]; rfl)) ?_
    refine SX.nil ?_
    have hlast : ∀ σ₀ (ns : List Nat) p q r z kk at_, ns.getLast? = some at_ → ns.length ≤ 1000 → Loc σ₀ (tk "found") (.val (.list (nats ns))) → EV c σ₀ (.Subscript (.Name (tk "found") p) (.UnaryOp .USub (.Constant (.int 1) kk q) r) z) (.int (at_ : Int)) := fun σ₀ ns p q r z kk at_ hg hl1 hl => by
      have hne' : 1 ≤ (nats ns).length := by cases ns with
        | nil => cases hg
        | cons _ _ => simp [nats]
      exact EV.item (EV.name ev hl) (EV.neg EV.const_int) (by omega) (by omega) (by simp [nats]; omega) (idx_last (by unfold nats; rw [List.getLast?_map, hg]; rfl)) (fun _ _ => rfl)
    have hcut1 : ∀ a o b, part = a ++ o :: b → cut none (some (a.length : Int)) (part.map D.str) = a.map D.str := fun a o b hp => by
      rw [cut_map, cut_take (by rw [hp]; simp), hp]; simp
    have hcut2 : ∀ a o b, part = a ++ o :: b → cut (some ((a.length : Int) + 1)) none (part.map D.str) = b.map D.str := fun a o b hp => by
      rw [show ((a.length : Int) + 1) = ((a.length + 1 : Nat) : Int) by simp, cut_map, cut_drop (by rw [hp]; simp), hp]
      rw [show a ++ o :: b = (a ++ [o]) ++ b by simp, List.drop_append_of_le_length (by simp), List.drop_of_length_le (by simp), List.nil_append]
    -- for word in ('or', 'and')
    show SX c _ (sigY part (.val (.list (nats (pl (eqT (tk "if")) part)))) (.val (.list (nats (pl (eqT (tk "else")) part)))) .un .un .un .un .un) _ _
    with_reducible (refine SX.forIn ok (ds := [.str (tk "or"), .str (tk "and")]) (fun i σ => ∃ vw vf, σ = sigY part (.val (.list (nats (pl (eqT (tk "if")) part)))) (.val (.list (nats (pl (eqT (tk "else")) part)))) vw vf .un .un .un ∧ (1 ≤ i → pl (eqT (tk "or")) part = []) ∧ (2 ≤ i → pl (eqT (tk "and")) part = [])) ?_ ?_ ?_ ?_ ?_)
    · with_reducible (refine IT.tuple ev (EV.tuple (.cC EV.const_str (.cC EV.const_str .nil)) ?_))
      simp
    · exact ⟨_, _, rfl, fun h => by omega, fun h => by omega⟩
    · rintro i dd σ₁ hdd ⟨vw, vf, rfl, hor, hand⟩
      obtain ⟨wd, sym, hwd, hlook, hpart, hnext⟩ : ∃ wd sym : Str, dd = .str wd ∧ Spec.lookup (.str wd) ([(tk "or", tk "||"), (tk "and", tk "&&")].map fun p => (PyData.str p.1, PyData.str p.2)) = some (.str sym) ∧ (pl (eqT wd) part ≠ [] → Parts (fun p x => FN prg w h₁ 142 F [dstrs p] x) part wd sym d) ∧ (pl (eqT wd) part = [] → (1 ≤ i + 1 → pl (eqT (tk "or")) part = []) ∧ (2 ≤ i + 1 → pl (eqT (tk "and")) part = [])) := by
        cases i with
        | zero => exact ⟨tk "or", tk "||", by simpa using hdd.symm, look_or, HW0, fun h => ⟨fun _ => h, fun h => by omega⟩⟩
        | succ i => cases i with
          | zero => exact ⟨tk "and", tk "&&", by simpa using hdd.symm, look_and, HW1 (hor (by omega)), fun h => ⟨fun _ => hor (by omega), fun _ => h⟩⟩
          | succ i => simp at hdd
      subst hwd
      refine ⟨_, by walk_at "upd", ?_⟩
      refine SX.places ok part (eqT wd) [(tk "part", .val (.list (part.map .str))), (tk "word", .val (.str wd))] hn (IT.list ev (EV.name ev (by walk_at "loc"))) (by decide) rfl (by decide) rfl ?_ ?_ (by show [tk "at", tk "part", tk "word"].Nodup; decide) ?_ (fun _ => rfl) rfl rfl kf (by walk_at "upd") ?_
      · intro n hn'
        have hn' : n ∈ [tk "part", tk "word"] := hn'
        rcases List.mem_cons.mp hn' with rfl | hn'
        · exact ⟨kp, .head _⟩
        · rw [List.mem_singleton.mp hn']
          exact ⟨kw, .tail _ (.tail _ (.tail _ (.tail _ (.head _))))⟩
      · intro q hq'
        rcases List.mem_cons.mp hq' with rfl | hq'
        · exact ⟨.head _, rfl, rfl, .head _⟩
        · rw [List.mem_singleton.mp hq']
          exact ⟨.tail _ (.tail _ (.tail _ (.tail _ (.head _)))), rfl, rfl, .tail _ (.head _)⟩
      · exact fun c' i x co hx => EVB.compare (hit co.ev hx (by walk_at "loc") (by walk_at "loc")) (EV.name co.ev (by walk_at "loc")) OP2.eq_str rfl
      have hpl := pl_len (eqT wd) part
      refine SX.ite (EVB.compare (EV.name ev (by walk_at "loc")) (EV.list .nil (by simp)) (OP2.ne_nil ev) rfl) (fun hb => ?_) (fun hb => ?_)
      · obtain ⟨a, b, x, y, hp, hd', hg, f1, f2⟩ := hpart (ne_nil_iff.mp hb)
        refine SX.assign ok (hlast _ _ _ _ _ _ _ _ hg (by omega) (by walk_at "loc")) (by walk_at "upd") rfl ?_
        have hT : TB c (sigY part (.val (.list (nats (pl (eqT (tk "if")) part)))) (.val (.list (nats (pl (eqT (tk "else")) part)))) (.val (.str wd)) (.val (.list (nats (pl (eqT wd) part)))) (.val (.int (a.length : Int))) .un .un) (.Dict [some (.Constant (.str (tk "or")) 0 ⟨150, 21, 150, 25⟩), some (.Constant (.str (tk "and")) 0 ⟨150, 33, 150, 38⟩)] [.Constant (.str (tk "||")) 0 ⟨150, 27, 150, 31⟩, .Constant (.str (tk "&&")) 0 ⟨150, 40, 150, 44⟩] ⟨150, 20, 150, 45⟩) ([(tk "or", tk "||"), (tk "and", tk "&&")].map fun p => (PyData.str p.1, PyData.str p.2)) :=
          TB.disp hst (.cons (.cons .nil)) rfl rfl (by simp) (by simp) (by decide +kernel)
        have hE := TB.itemT (e := .Name (tk "word") ⟨150, 46, 150, 50⟩) (pos := ⟨150, 20, 150, 51⟩) hT (EV.name ev (by walk_at "loc")) hlook (.inr ⟨_, rfl⟩) (fun _ _ => rfl)
        have hE : EV c _ _ (.str sym) := hE
        with_reducible (refine SX.ret (EV.list (.cS hE (.cF (EV.call ev is g_py is_py (.cS (EV.cast (EV.slice (EV.name ev (by walk_at "loc")) .none (.some (EV.name ev (by walk_at "loc"))) ?_ ?_) ?_) .nil) f1 ?_ ?_) (.cF (EV.call ev is g_py is_py (.cS (EV.cast (EV.slice (EV.name ev (by walk_at "loc")) (.some (EV.binop (EV.name ev (by walk_at "loc")) EV.const_int OP2.add_int)) .none ?_ ?_) ?_) .nil) f2 ?_ ?_) .nil))) ?_) ?_)
        · simp; omega
        · exact fun _ _ => rfl
        · rw [hcut1 a _ b hp]; rfl
        · omega
        · omega
        · simp; omega
        · exact fun _ _ => rfl
        · rw [hcut2 a _ b hp]; rfl
        · omega
        · omega
        · simp
        · show AFlow.ret _ = AFlow.ret d
          rw [hd']
      · have hnil : pl (eqT wd) part = [] := by
          cases hq' : pl (eqT wd) part with
          | nil => rfl
          | cons _ _ => rw [hq'] at hb; cases hb
        exact SX.nil (SX.nil ⟨_, _, rfl, hnext hnil⟩)
    rotate_left
    · exact fun _ => rfl
    rintro σ₁ ⟨vw, vf, rfl, hor, hand⟩
    have hor := hor (by decide)
    have hand := hand (by decide)
    have HT := HR hor hand
    obtain ⟨p0, pr, hp0⟩ : ∃ p0 pr, part = p0 :: pr := by cases part with
      | nil => exact absurd rfl hne
      | cons a b => exact ⟨a, b, rfl⟩
    have hit0 : ∀ σ₀ p q r kk, Loc σ₀ (tk "part") (.val (.list (part.map .str))) → EV c σ₀ (.Subscript (.Name (tk "part") p) (.Constant (.int 0) kk q) r) (.str p0) := fun σ₀ p q r kk hl =>
      EV.item (EV.name ev hl) EV.const_int (by simp) (by rw [hp0]; simp) (by simp; omega) (by rw [hp0]; simp [idx]) (fun _ _ => rfl)
    refine SX.ite (EVB.compare (hit0 _ _ _ _ _ (by walk_at "loc")) EV.const_str OP2.eq_str rfl) (fun hb => ?_) (fun hb => ?_)
    · have hb : p0 = tk "not" := eq_of_beq hb
      rcases HT with ⟨r, x, hp, hd', f1⟩ | ⟨a, b, o, x, y, hp, _, g1, g2, _⟩ | ⟨m, hp, _⟩ | ⟨t, hp, _, g1, _⟩
      · have hsl : cut (some 1) none (part.map D.str) = r.map D.str := by
          rw [show (1 : Int) = ((1 : Nat) : Int) from rfl, cut_map, cut_drop (by rw [hp]; simp), hp]; rfl
        with_reducible (refine SX.ret (EV.list (.cC EV.const_str (.cF (EV.call ev is g_py is_py (.cS (EV.cast (EV.slice (EV.name ev (by walk_at "loc")) (.some EV.const_int) .none ?_ ?_) ?_) .nil) f1 ?_ ?_) .nil)) ?_) ?_)
        · simp; omega
        · exact fun _ _ => rfl
        · rw [hsl]; rfl
        · omega
        · omega
        · simp
        · show AFlow.ret _ = AFlow.ret d
          rw [hd']
      · exfalso
        cases a with
        | nil => exact g1 rfl
        | cons a0 a1 => rw [hp0] at hp; cases hp; exact g2 (by rw [hb]; rfl)
      · exfalso; rw [hp0] at hp; cases hp; exact absurd hb (by decide +kernel)
      · exfalso; rw [hp0] at hp; cases hp; exact g1 hb
    · have hb : p0 ≠ tk "not" := ne_of_beq hb
      refine SX.nil ?_
      have hc1 : (pl (isIn cmps) part).length ≤ 1 := by
        rcases HT with ⟨r, x, hp, _, _⟩ | ⟨a, b, o, x, y, hp, _, _, _, _, g, _⟩ | ⟨m, hp, g, _⟩ | ⟨t, hp, _, _, _, g, _⟩
        · rw [hp0] at hp; cases hp; exact absurd rfl hb
        · exact g
        · rw [g]; simp
        · rw [g]; simp
      refine SX.assign ok (EV.call ev is g_cmp ⟨_, _, KX 125 _ rfl, rfl⟩ (.cN (EV.name ev (by walk_at "locd")) .nil) ((compares_fn KX st part hn).mono (by omega : 2 ≤ F)) (by omega) (by omega)) (by walk_at "upd") rfl ?_
      refine SX.ite_false (EVB.cast (EVB.compare (EV.len ev g_len (.one (EV.name ev (by walk_at "loc")) (fun _ => rfl)) (by simp [nats]; omega)) EV.const_int OP2.gt_int rfl) (by simp [nats]; omega)) ?_
      refine SX.nil ?_
      refine SX.assign ok (EV.name ev (by walk_at "loc")) (by walk_at "upd") rfl ?_
      -- for signs in (['+', '-'], ['*', '//', '%'])
      with_reducible (refine SX.forIn ok (ds := ptierDs) (fun i σ => ∃ vs, σ = sigY part (.val (.list (nats (pl (eqT (tk "if")) part)))) (.val (.list (nats (pl (eqT (tk "else")) part)))) vw (.val (.list (nats (fnd part (ptiers.take (i + 1)))))) .un (.val (.list (nats (pl (isIn cmps) part)))) vs) ?_ ?_ ?_ ?_ ?_)
      · with_reducible (refine IT.cast (IT.tuple ev (EV.tuple (.cL (EV.list (.cC EV.const_str (.cC EV.const_str .nil)) ?_) (.cL (EV.list (.cC EV.const_str (.cC EV.const_str (.cC EV.const_str .nil))) ?_) .nil)) ?_)) ?_)
        · simp
        · simp
        · simp
        · rfl
      · refine ⟨.un, ?_⟩
        have : fnd part (ptiers.take (0 + 1)) = pl (isIn cmps) part := by
          rw [show ptiers.take (0 + 1) = [] ++ [cmps] from rfl, fnd_snoc, if_pos (show fnd part [] = [] from rfl)]
        rw [this]
      · rintro i dd σ₁ hdd ⟨vs, rfl⟩
        unfold ptierDs at hdd
        rw [List.getElem?_map, Option.map_eq_some_iff] at hdd
        obtain ⟨s, hs', rfl⟩ := hdd
        have htake : ptiers.take (i + 1 + 1) = ptiers.take (i + 1) ++ [s] := by
          rw [List.take_add_one (i := i + 1)]
          rw [show ptiers[i + 1]? = some s from hs']; rfl
        refine ⟨_, by walk_at "upd", ?_⟩
        refine SX.ite (EVB.compare (EV.name ev (by walk_at "loc")) (EV.list .nil (by simp)) (OP2.eq_nil ev) rfl) (fun hb => ?_) (fun hb => ?_)
        · have hf : fnd part (ptiers.take (i + 1)) = [] := by cases hq' : fnd part (ptiers.take (i + 1)) with
            | nil => rfl
            | cons _ _ => rw [hq'] at hb; simp [nats] at hb
          refine SX.places ok part (isIn s) [(tk "part", .val (.list (part.map .str))), (tk "signs", .val (.list (s.map .str)))] hn (IT.list ev (EV.name ev (by walk_at "loc"))) (by decide) rfl (by decide) rfl ?_ ?_ (by show [tk "at", tk "part", tk "signs"].Nodup; decide) ?_ (fun _ => rfl) rfl rfl kf (by walk_at "upd") ?_
          · intro n hn'
            have hn' : n ∈ [tk "part", tk "signs"] := hn'
            rcases List.mem_cons.mp hn' with rfl | hn'
            · exact ⟨kp, .head _⟩
            · rw [List.mem_singleton.mp hn']
              exact ⟨ks, .tail _ (.tail _ (.tail _ (.tail _ (.tail _ (.tail _ (.tail _ (.tail _ (.head _))))))))⟩
          · intro q hq'
            rcases List.mem_cons.mp hq' with rfl | hq'
            · exact ⟨.head _, rfl, rfl, .head _⟩
            · rw [List.mem_singleton.mp hq']
              exact ⟨.tail _ (.tail _ (.tail _ (.tail _ (.tail _ (.tail _ (.tail _ (.tail _ (.head _)))))))), rfl, rfl, .tail _ (.head _)⟩
          · exact fun c' i x co hx => EVB.compare (hit co.ev hx (by walk_at "loc") (by walk_at "loc")) (EV.name co.ev (by walk_at "loc")) OP2.in_strs rfl
          · refine SX.nil (SX.nil ⟨.val (.list (s.map .str)), ?_⟩)
            rw [htake, fnd_snoc, if_pos hf]
        · have hf : fnd part (ptiers.take (i + 1)) ≠ [] := fun e => by rw [e] at hb; simp [nats] at hb
          refine SX.nil (SX.nil ⟨.val (.list (s.map .str)), ?_⟩)
          rw [htake, fnd_snoc, if_neg hf]
      rotate_left
      · exact fun _ => rfl
      rintro σ₁ ⟨vs, rfl⟩
      rw [show ptiers.take (ptierDs.length + 1) = ptiers by rfl]
      have hfl := fnd_len part ptiers
      rcases HT with ⟨r, x, hp, _, _⟩ | ⟨a, b, o, x, y, hp, hd', g1, g2, g3, _, g5, f1, f2⟩ | ⟨m, hp, _, g2, f1⟩ | ⟨t, hp, hd', g1, g2, _, g4⟩
      · exfalso; rw [hp0] at hp; cases hp; exact absurd rfl hb
      · have hx : part[a.length]? = some o := by rw [hp]; simp
        have hal : a.length < part.length := by rw [hp]; simp
        have hlenb : part.length = a.length + 1 + b.length := by rw [hp]; simp; omega
        refine SX.ite_true (EVB.cast (EVB.compare (EV.name ev (by walk_at "loc")) (EV.list .nil (by simp)) (OP2.ne_nil ev) rfl) (nats_ne (getLast_ne g5))) ?_
        refine SX.assign ok (hlast _ _ _ _ _ _ _ _ g5 (by omega) (by walk_at "loc")) (by walk_at "upd") rfl ?_
        have hcutb : cut (some ((a.length : Int) + 1)) (some ((a.length : Int) + 2)) (part.map D.str) = (b.take 1).map D.str := by
          cases b with
          | nil =>
            rw [show ((a.length : Int) + 1) = ((a.length + 1 : Nat) : Int) by simp, cut_map, hp]
            unfold cut
            have : clipAt (a ++ [o]).length ((a.length + 1 : Nat) : Int) = a.length + 1 := clip_nat (by simp)
            simp only [Option.elim, this]
            rw [List.drop_of_length_le (by simp)]; simp
          | cons b0 b1 =>
            rw [show ((a.length : Int) + 1) = ((a.length + 1 : Nat) : Int) by simp, show ((a.length : Int) + 2) = ((a.length + 2 : Nat) : Int) by simp, cut_map, cut_mid (by omega) (by simp only [List.length_cons] at hlenb; omega), hp]
            rw [show a ++ o :: b0 :: b1 = (a ++ [o]) ++ (b0 :: b1) by simp, List.drop_append_of_le_length (by simp), List.drop_of_length_le (by simp), List.nil_append, show a.length + 2 - (a.length + 1) = 1 by omega]
        have hpb : D.pures ((b.take 1).map D.str) = true := pures_strs _ fun t ht => hok t (by rw [hp]; exact List.mem_append_right _ (.tail _ (List.mem_of_mem_take ht)))
        have hcmp : PyData.eqv (D.list ((b.take 1).map D.str)).toPy (D.list [.str (tk "not")]).toPy = false := by
          cases b with
          | nil => rfl
          | cons b0 b1 =>
            show (b0 == tk "not" && true) = false
            rw [Bool.and_true, beq_eq_false_iff_ne]
            exact fun e => g3 (by rw [e]; rfl)
        refine SX.ite_false (EVB.cast (EVB.compare (EV.cast (EV.slice (EV.name ev (by walk_at "loc")) (.some (EV.binop (EV.name ev (by walk_at "loc")) EV.const_int OP2.add_int)) (.some (EV.binop (EV.name ev (by walk_at "loc")) EV.const_int OP2.add_int)) (by simp; omega) (fun _ _ => rfl)) (congrArg D.list hcutb)) (EV.list (.cC EV.const_str .nil) (by simp)) (OP2.eq_data ev hpb (by decide +kernel) (Nat.le_trans (Nat.min_le_right _ _) (by decide +kernel))) rfl) hcmp) ?_
        refine SX.nil ?_
        have hT : TB c (sigY part (.val (.list (nats (pl (eqT (tk "if")) part)))) (.val (.list (nats (pl (eqT (tk "else")) part)))) vw (.val (.list (nats (fnd part ptiers)))) (.val (.int (a.length : Int))) (.val (.list (nats (pl (isIn cmps) part)))) vs) (.Dict [some (.Constant (.str (tk "//")) 0 ⟨164, 17, 164, 21⟩)] [.Constant (.str (tk "/")) 0 ⟨164, 23, 164, 26⟩] ⟨164, 16, 164, 27⟩) (backTab.map fun p => (PyData.str p.1, PyData.str p.2)) :=
          TB.disp hst (.cons .nil) rfl rfl (by simp) (by simp) (by decide +kernel)
        have hE := TB.get (p' := ⟨164, 16, 164, 31⟩) (pos := ⟨164, 16, 164, 51⟩) hT (.cS (hit (p := ⟨164, 32, 164, 36⟩) (q := ⟨164, 37, 164, 39⟩) (r := ⟨164, 32, 164, 40⟩) ev hx (by walk_at "loc") (by walk_at "loc")) (.cS (hit (p := ⟨164, 42, 164, 46⟩) (q := ⟨164, 47, 164, 49⟩) (r := ⟨164, 42, 164, 50⟩) ev hx (by walk_at "loc") (by walk_at "loc")) .nil)) (back_look o) rfl rfl
        show SX c _ (sigY part (.val (.list (nats (pl (eqT (tk "if")) part)))) (.val (.list (nats (pl (eqT (tk "else")) part)))) vw (.val (.list (nats (fnd part ptiers)))) (.val (.int (a.length : Int))) (.val (.list (nats (pl (isIn cmps) part)))) vs) _ _
        with_reducible (refine SX.ret (EV.list (.cF hE (.cF (EV.call ev is g_py is_py (.cS (EV.cast (EV.slice (EV.name ev (by walk_at "loc")) .none (.some (EV.name ev (by walk_at "loc"))) ?_ ?_) ?_) .nil) f1 ?_ ?_) (.cF (EV.call ev is g_py is_py (.cS (EV.cast (EV.slice (EV.name ev (by walk_at "loc")) (.some (EV.binop (EV.name ev (by walk_at "loc")) EV.const_int OP2.add_int)) .none ?_ ?_) ?_) .nil) f2 ?_ ?_) .nil))) ?_) ?_)
        · simp; omega
        · exact fun _ _ => rfl
        · rw [hcut1 a _ b hp]; rfl
        · omega
        · omega
        · simp; omega
        · exact fun _ _ => rfl
        · rw [hcut2 a _ b hp]; rfl
        · omega
        · omega
        · simp
        · show AFlow.ret _ = AFlow.ret d
          rw [hd']
      · refine SX.ite_false (EVB.cast (EVB.compare (EV.name ev (by walk_at "loc")) (EV.list .nil (by simp)) (OP2.ne_nil ev) rfl) (by rw [g2]; rfl)) ?_
        refine SX.nil ?_
        refine SX.ite_true (EVB.cast (EVB.compare (hit0 _ _ _ _ _ (by walk_at "loc")) EV.const_str OP2.eq_str rfl) (by rw [hp0] at hp; cases hp; decide +kernel)) ?_
        with_reducible (refine SX.ret (EV.call ev is g_py is_py (.cS (EV.cast (EV.slice (EV.name ev (by walk_at "loc")) (.some EV.const_int) (.some (EV.neg EV.const_int)) ?_ ?_) ?_) .nil) f1 ?_ ?_) ?_)
        · simp; omega
        · exact fun _ _ => rfl
        · rw [cut_map, hp, cut_inner]; rfl
        · omega
        · omega
        · rfl
      · have hp0' : p0 = t := by rw [hp0] at hp; cases hp; rfl
        refine SX.ite_false (EVB.cast (EVB.compare (EV.name ev (by walk_at "loc")) (EV.list .nil (by simp)) (OP2.ne_nil ev) rfl) (by rw [g4]; rfl)) ?_
        refine SX.nil ?_
        refine SX.ite_false (EVB.cast (EVB.compare (hit0 _ _ _ _ _ (by walk_at "loc")) EV.const_str OP2.eq_str rfl) (by rw [hp0']; exact beq_eq_false_iff_ne.mpr g2)) ?_
        refine SX.nil ?_
        refine SX.ite_false (EVB.cast (EVB.compare (EV.len ev g_len (.one (EV.name ev (by walk_at "loc")) (fun _ => rfl)) (by simp; omega)) EV.const_int OP2.gt_int rfl) (by rw [hp]; simp)) ?_
        refine SX.nil ?_
        refine SX.ret (hit0 _ _ _ _ _ (by walk_at "loc")) ?_
        show AFlow.ret _ = AFlow.ret d
        rw [hd', hp0']
end Mine
namespace Mine
local macro_rules | `(tactic| walk_at "loc") => `(tactic| first | with_reducible exact Loc.head | (with_reducible apply Loc.tail; walk_at "loc"))
local macro_rules | `(tactic| walk_at "locd") => `(tactic| first | exact Loc.head | (with_reducible apply Loc.tail; walk_at "locd"))
local macro_rules | `(tactic| walk_at "upd") => `(tactic| first | with_reducible exact Upd.head | (with_reducible apply Upd.tail; walk_at "upd"))
theorem fnd_nil {part : List Str} : ∀ {ss : List (List Str)}, (∀ s ∈ ss, pl (isIn s) part = []) → fnd part ss = []
  | [], _ => rfl
  | s :: r, h => by
    rw [fnd, if_pos (h s (.head _))]
    exact fnd_nil fun s hs => h s (.tail _ hs)
theorem wd_tier {t : Str} (h : Wd t) {s : List Str} (hs : s ∈ ptiers) : isIn s t = false := by
  have hs : s = cmps ∨ s = [tk "+", tk "-"] ∨ s = [tk "*", tk "//", tk "%"] := by simpa [ptiers] using hs
  cases hq : isIn s t with
  | false => rfl
  | true =>
    exfalso
    have hn := wd_pk h
    rcases hs with rfl | rfl | rfl
    · rcases pt_cmps t hq with h | h <;> (rw [hn] at h; cases h)
    · have := pt_add t hq; rw [hn] at this; cases this
    · have := pt_mul t hq; rw [hn] at this; cases this
theorem python_fn {w : World} {h₁ : Heap} {mg mb : Str → Option Value} (KX : (hd.heap_39 w.params).In h₁) (st : Stat h₁ mg mb) {n : Nat} {part : List Str} {d : D} (h : PyR n part d) : part.length ≤ 1000 → (∀ t ∈ part, PyData.strOk t = true) → FN prg w h₁ 142 (n + 4) [dstrs part] d := by
  induction h with
  | @cond n a b c x y z h1 h2 h3 h4 _ _ _ i1 i2 i3 =>
    intro hl hok
    have hlen : (a ++ tk "if" :: (b ++ tk "else" :: c)).length = a.length + b.length + c.length + 2 := by simp; omega
    refine python_body KX st (n + 4) (by omega) _ hl (by simp) hok _ (.inl ⟨a, b, c, x, y, z, rfl, rfl, pl_first h1 plain_if (by decide +kernel) (eqT_none fun t ht => (h3 t ht).1), ?_, i1 (by omega) (fun t ht => hok t (by simp [ht])), i2 (by omega) (fun t ht => hok t (by simp [ht])), i3 (by omega) (fun t ht => hok t (by simp [ht]))⟩)
    have hb : Bal (a ++ tk "if" :: b) := h1.append (.cons plain_if h2)
    have := pl_first (P := eqT (tk "else")) (b := c) hb plain_else (by decide +kernel) (eqT_none fun t ht => by
      rw [oT_append h1, oT_cons plain_if] at ht
      rcases List.mem_append.mp ht with q | q
      · exact (h3 t q).2
      · rcases List.mem_cons.mp q with rfl | q
        · decide +kernel
        · exact h4 t q)
    rw [show (a ++ tk "if" :: b) ++ tk "else" :: c = a ++ tk "if" :: (b ++ tk "else" :: c) by simp, show (a ++ tk "if" :: b).length = a.length + 1 + b.length by simp; omega] at this
    exact this
  | @or n a b x y h1 h2 _ _ i1 i2 =>
    intro hl hok
    have hlen : (a ++ tk "or" :: b).length = a.length + b.length + 1 := by simp; omega
    exact python_body KX st (n + 4) (by omega) _ hl (by simp) hok _ (.inr ⟨h1, fun _ => ⟨a, b, x, y, rfl, rfl, h2, i1 (by omega) (fun t ht => hok t (by simp [ht])), i2 (by omega) (fun t ht => hok t (by simp [ht]))⟩, fun e => absurd e (getLast_ne h2), fun e => absurd e (getLast_ne h2)⟩)
  | @and n a b x y h1 h2 h3 _ _ i1 i2 =>
    intro hl hok
    have hlen : (a ++ tk "and" :: b).length = a.length + b.length + 1 := by simp; omega
    exact python_body KX st (n + 4) (by omega) _ hl (by simp) hok _ (.inr ⟨h1, fun e => absurd h2 e, fun _ _ => ⟨a, b, x, y, rfl, rfl, h3, i1 (by omega) (fun t ht => hok t (by simp [ht])), i2 (by omega) (fun t ht => hok t (by simp [ht]))⟩, fun _ e => absurd e (getLast_ne h3)⟩)
  | @neg n r x h1 h2 h3 _ i1 =>
    intro hl hok
    exact python_body KX st (n + 4) (by omega) _ hl (by simp) hok _ (.inr ⟨h1, fun e => absurd h2 e, fun _ e => absurd h3 e, fun _ _ => .inl ⟨r, x, rfl, rfl, i1 (by simp at hl; omega) (fun t ht => hok t (by simp [ht]))⟩⟩)
  | @bin n a b o x y h1 h2 h3 h4 h5 h6 h7 h8 _ _ i1 i2 =>
    intro hl hok
    have hlen : (a ++ o :: b).length = a.length + b.length + 1 := by simp; omega
    exact python_body KX st (n + 4) (by omega) _ hl (by simp) hok _ (.inr ⟨h1, fun e => absurd h2 e, fun _ e => absurd h3 e, fun _ _ => .inr (.inl ⟨a, b, o, x, y, rfl, rfl, h4, h5, h6, h7, h8, i1 (by omega) (fun t ht => hok t (by simp [ht])), i2 (by omega) (fun t ht => hok t (by simp [ht]))⟩)⟩)
  | @par n m x h1 _ i1 =>
    intro hl hok
    have hlen : (tk "(" :: (m ++ [tk ")"])).length = m.length + 2 := by simp
    have ho : ∀ P : Str → Bool, pl P (tk "(" :: (m ++ [tk ")"])) = [] := fun P => pl_nil (by rw [oT_wrap h1]; simp)
    exact python_body KX st (n + 4) (by omega) _ hl (by simp) hok _ (.inr ⟨ho _, fun e => absurd (ho _) e, fun _ e => absurd (ho _) e, fun _ _ => .inr (.inr (.inl ⟨m, rfl, ho _, fnd_nil fun s _ => ho _, i1 (by omega) (fun t ht => hok t (by simp [ht]))⟩))⟩)
  | @leaf n t h1 =>
    intro hl hok
    have ho : oT [t] = [t] := oT_cons (wd_plain h1) []
    have hp : ∀ P : Str → Bool, P t = false → pl P [t] = [] := fun P hP => pl_nil (by rw [ho]; intro u hu; rw [List.mem_singleton.mp hu]; exact hP)
    have he : ∀ x : Str, ¬ Wd x → pl (eqT x) [t] = [] := fun x hx => hp _ (beq_eq_false_iff_ne.mpr (wd_ne h1 hx))
    exact python_body KX st (n + 4) (by omega) _ hl (by simp) hok _ (.inr ⟨he _ (by decide +kernel), fun e => absurd (he _ (by decide +kernel)) e, fun _ e => absurd (he _ (by decide +kernel)) e, fun _ _ => .inr (.inr (.inr ⟨t, rfl, rfl, wd_ne h1 (by decide +kernel), wd_ne h1 (by decide +kernel), hp _ (wd_tier h1 (by simp [ptiers])), fnd_nil fun s hs => hp _ (wd_tier h1 hs)⟩))⟩)
end Mine
namespace Mine
section
variable {c : Cfg} {σ σ' σ₁ σ₂ : Sig} {E : Value → Shared → Prop} {Φ : AFlow → Sig → Prop} {rest : List Stmt}
/-- displays of written texts, of written ints -/
noncomputable def textsOf : List Expr → Option (List Str)
  | [] => some []
  | .Constant (.str x) _ _ :: r => match textsOf r with | some xs => some (x :: xs) | none => none
  | _ => none
noncomputable def intsOf : List Expr → Option (List Int)
  | [] => some []
  | .Constant (.int x) _ _ :: r => match intsOf r with | some xs => some (x :: xs) | none => none
  | _ => none
theorem EVs.texts : ∀ {es : List Expr} {ys : List Str}, textsOf es = some ys → EVs c σ es (ys.map .str)
  | [], ys, h => by injection h with h; subst h; exact .nil
  | .Constant (.str x) k p :: r, ys, h => by
    unfold textsOf at h
    cases hr : textsOf r with
    | none => rw [hr] at h; cases h
    | some xs =>
      rw [hr] at h; injection h with h; subst h
      exact .cons EV.const_str (fun _ => rfl) (EVs.texts hr)
theorem EVs.written : ∀ {es : List Expr} {ys : List Int}, intsOf es = some ys → EVs c σ es (ys.map .int)
  | [], ys, h => by injection h with h; subst h; exact .nil
  | .Constant (.int x) k p :: r, ys, h => by
    unfold intsOf at h
    cases hr : intsOf r with
    | none => rw [hr] at h; cases h
    | some xs =>
      rw [hr] at h; injection h with h; subst h
      exact .cons EV.const_int (fun _ => rfl) (EVs.written hr)
theorem EVs.cB {l r : Expr} {op : Operator} {p : Pos} {es : List Expr} {ds : List D} {d : D} (h : EV c σ (.BinOp l op r p) d) (t : EVs c σ es ds) : EVs c σ (.BinOp l op r p :: es) (d :: ds) := .cons h (fun _ => rfl) t
/-- the cells of a law: xs[:n] + [written ints] -/
theorem EV.cells (ev : c.Ev) {x : Str} {n : Nat} {kk : Nat} {es : List Expr} {p p2 p3 p4 p5 p6 : Pos} {ns tail : List Int} (hl : Loc σ x (.val (.list (ns.map .int)))) (ht : intsOf es = some tail) (hn : ns.length + tail.length ≤ 10000) :
    EV c σ (.BinOp (.Subscript (.Name x p) (.Slice none (some (.Constant (.int n) kk p2)) none p3) p4) .Add (.List es p5) p6) (.list ((ns.take n ++ tail).map .int)) := by
  refine EV.cast (EV.binop (EV.slice (EV.name ev hl) .none (.some EV.const_int) (by simp; omega) (fun _ _ => rfl)) (EV.list (EVs.written ht) (by simp; omega)) (OP2.add_list ?_)) ?_
  · rw [cut_map]; simp [cut]; omega
  · rw [cut_map, List.map_append]
    congr 3
    by_cases h : n ≤ ns.length
    · exact cut_take h
    · unfold cut
      have : clipAt ns.length (n : Int) = ns.length := by unfold clipAt; rw [if_neg (by omega)]; omega
      simp only [Option.elim, List.drop_zero, Nat.sub_zero]
      rw [this, List.take_of_length_le (Nat.le_refl _), List.take_of_length_le (by omega)]
/-- y = f(l op r), f of the text's own -/
theorem SX.assignCallB {prog : Program} {w : World} {h₁ : Heap} {mg : Str → Option Value} (ok : c.Ok) (is : c.Is prog w h₁ mg) {x y : Str} {l r : Expr} {op : Operator} {p p' p1 p2 p3 : Pos} {d r' : D} {f : Addr} {n : Nat} (hx : GL c x (some (.ref f))) (hf : IsFn h₁ f) (he : EV c σ (.BinOp l op r p1) d)
    (hF : FN prog w h₁ f n [d] r') (hdp : c.A.depth + n < recursionLimit) (hun : c.A.units + 8 * n + 64 < cLine) (hu : Upd σ y (.val r') σ') (k : SX c E σ' rest Φ) : SX c E σ (.Assign [.Name y p'] (.Call (.Name x p) [.BinOp l op r p1] [] p2) p3 :: rest) Φ :=
  SX.assign ok (EV.call ok.toEv is hx hf (EVs.cB he .nil) hF hdp hun) hu rfl k
/-- statements one by one, at a state whose tokens have begun -/
theorem SX1.seqK {st : Stmt} (K : Sig → Prop) (h : SX c E σ [st] (turnJ Φ K)) (done : ∀ τ, K τ → SX1 c E τ rest Φ) : SX1 c E σ (st :: rest) Φ := by
  intro k N g m s ht w
  have h1 := wpAny_toks (h k N g m s w)
  refine wpAny_execs_cons ?_
  have key : ∀ {Q : Flow → Shared → Prop}, wpAny c.M c.A (execs [st] c.env) Q E s → wpAny c.M c.A (exec st c.env) Q E s := by
    intro Q hq
    unfold execs at hq
    refine fun Γ p hΓ => ?_
    have := hq Γ p hΓ
    rw [Sem.wp_bind'] at this
    refine Sem.wp_mono c.M Γ _ (fun a p' s' h2 => ?_) (fun _ _ _ h2 => h2) p s this
    cases a <;> exact h2
  refine wpAny_mono (key h1) ?_ fun _ _ e => e
  rintro f s' ⟨⟨h', tk, g', m', σ'', af, rfl, w', fl, hφ⟩, hn⟩
  cases fl with
  | next => exact wpAny_mono (done _ hφ k N g' m' _ (Nat.le_trans ht hn) w') (fun _ _ q => q.trans) fun _ _ e => e
  | brk => exact ⟨h', tk, g', m', σ'', _, rfl, w', .brk, hφ⟩
  | cont => exact ⟨h', tk, g', m', σ'', _, rfl, w', .cont, hφ⟩
  | ret hv => exact ⟨h', tk, g', m', σ'', _, rfl, w', .ret hv, hφ⟩
end
end Mine
namespace Mine
local macro_rules | `(tactic| walk_at "loc") => `(tactic| first | with_reducible exact Loc.head | (with_reducible apply Loc.tail; walk_at "loc"))
local macro_rules | `(tactic| walk_at "locd") => `(tactic| first | exact Loc.head | (with_reducible apply Loc.tail; walk_at "locd"))
local macro_rules | `(tactic| walk_at "upd") => `(tactic| first | with_reducible exact Upd.head | (with_reducible apply Upd.tail; walk_at "upd"))
noncomputable abbrev sigF (cells : List Int) (row opened : AV) (x token kind : AV) : Sig :=
  [(tk "cells", .val (.list (cells.map .int))), (tk "operations", .val (.list (fOps.map .str))), (tk "row", row), (tk "opened", opened), (tk "x", x), (tk "token", token), (tk "kind", kind)]
set_option maxHeartbeats 1000000 in
theorem formula_fn {w : World} {h₁ : Heap} {mg mb : Str → Option Value} (KX : (hd.heap_39 w.params).In h₁) (st : Stat h₁ mg mb) (cells : List Int) (hn : cells.length ≤ 40) : FN prg w h₁ 99 2 [.list (cells.map .int)] (dstrs (form 12 g02 cells)) := by
  refine FN.of_body (params := [tk "cells"]) (names := [tk "operations", tk "row", tk "opened", tk "x", tk "token", tk "kind"]) st (KX 99 _ rfl) rfl (codeRec_of KX rfl) rfl rfl rfl rfl rfl (bind_one fun _ => rfl) (by decide) (by decide) (by decide) rfl rfl rfl ?_
  intro c ok is hs hdp hun
  have ev := ok.toEv
  have g_due : GL c "_law_due" (some (.ref 92)) := GL.of is hs rfl rfl ((glob_at KX st.g rfl rfl _).trans rfl)
  have g_str : GL c "str" none := GL.of is hs rfl rfl ((glob_at KX st.g rfl rfl _).trans rfl)
  have is_due : IsFn h₁ 92 := ⟨_, _, KX 92 _ rfl, rfl⟩
  show SX c _ [(tk "cells", .val (.list (cells.map .int))), (tk "operations", .un), (tk "row", .un), (tk "opened", .un), (tk "x", .un), (tk "token", .un), (tk "kind", .un)] _ _
  refine SX.newlist (σ' := [(tk "cells", .val (.list (cells.map .int))), (tk "operations", .own (fOps.map .str)), (tk "row", .un), (tk "opened", .un), (tk "x", .un), (tk "token", .un), (tk "kind", .un)]) (ds := fOps.map .str) ok ?_ ?_ ?_ ?_
  · exact EVs.texts rfl
  · decide +kernel
  · walk_at "upd"
  refine SX.freeze (x := tk "operations") (by walk_at "loc") (by walk_at "upd") ?_
  refine SX.newlist ok .nil (by simp) (by walk_at "upd") ?_
  refine SX.newlist ok .nil (by simp) (by walk_at "upd") ?_
  have hdue : ∀ (r : List Str) (opened x token kind : AV) (p p' p'' : Pos), r.length ≤ 1000 → EVB c (sigF cells (.own (r.map .str)) opened x token kind) (.Call (.Name "_law_due" p) [.Name "row" p'] [] p'') (due r) := fun r opened x token kind p p' p'' hr =>
    EVB.frozen (x := tk "row") (σ' := sigF cells (.val (.list (r.map .str))) opened x token kind) (by walk_at "loc") (by walk_at "upd") (EVB.of_bool (EV.call ev is g_due is_due (.one (EV.name ev (d := .list (r.map .str)) (by walk_at "loc")) (fun _ => rfl)) (due_fn KX st r hr) (by omega) (by omega)) rfl)
  refine SX.forIn ok (fun i σ => ∃ r o vx vt vk, σ = sigF cells (.own (r.map .str)) (.own (o.map .str)) vx vt vk ∧ (cells.take i).foldl (fstep 12 g02) ([], []) = (r, o))
    (IT.list ev (EV.name ev (by walk_at "loc"))) ⟨[], [], _, _, _, rfl, rfl⟩ ?_ ?_ (fun _ => rfl)
  · rintro i dd σ₁ hd ⟨r, o, vx, vt, vk, rfl, hinv⟩
    rw [List.getElem?_map, Option.map_eq_some_iff] at hd
    obtain ⟨x, hx, rfl⟩ := hd
    have hi : i < cells.length := (List.getElem?_eq_some_iff.mp hx).1
    have hI := Inv.fold (lim := 12) (g := g02) (cells.take i) 0 ([], []) Inv.nil
    rw [hinv] at hI
    have hrl := hI.len
    have hol := hI.olen
    simp only [List.length_take] at hrl hol
    have htake : cells.take (i + 1) = cells.take i ++ [x] := by
      rw [List.take_add_one, hx]; rfl
    have hnext : (cells.take (i + 1)).foldl (fstep 12 g02) ([], []) = (r ++ [(ftok 12 g02 r o x).1], (ftok 12 g02 r o x).2) := by
      rw [htake, List.foldl_append, hinv]; rfl
    have r16 := fmod_range x (m := 16) (by decide)
    have r32 := fmod_range x (m := 32) (by decide)
    have r3 := fmod_range (x.fdiv 2080) (m := 3) (by decide)
    have r130 := fmod_range (x.fdiv 16) (m := 130) (by decide)
    have hL : (Str.ofString "0").length = 1 := by decide +kernel
    refine ⟨_, by walk_at "upd", ?_⟩
    refine SX.assign ok EV.const_str (by walk_at "upd") rfl ?_
    refine SX.join (fun σ => ∃ vk, σ = sigF cells (.own (r.map .str)) (.own ((ftok 12 g02 r o x).2.map .str)) (.val (.int x)) (.val (.str (ftok 12 g02 r o x).1)) vk) (hdue r _ _ _ _ _ _ _ (by omega)) (fun hb => ?_) (fun hb => ?_) ?_
    · refine SX.assign ok (EV.binop (EV.name ev (by walk_at "loc")) EV.const_int (OP2.mod_int (by decide))) (by walk_at "upd") rfl ?_
      refine SX.ite (EVB.chain (b := decide (5 ≤ x.fmod 16)) (b' := decide (x.fmod 16 < 9)) EV.const_int (EV.name ev (by walk_at "loc")) OP2.le_int (fun _ => EV.const_int) OP2.lt_int rfl) (fun h1 => ?_) (fun h1 => ?_)
      · have e : ftok 12 g02 r o x = (numTok ((x.fdiv 2080).fmod 3) ((x.fdiv 16).fmod 130), o) := by
          unfold ftok; rw [if_pos hb, if_pos (by simpa using h1)]
        have hsm : (Txt.mul (Str.ofString "0") ((x.fdiv 2080).fmod 3)).length + (dec ((x.fdiv 16).fmod 130)).length ≤ 64 := by
          have := (numTok_gd r3.1 r3.2 r130.1 r130.2).1.sm.1
          unfold numTok at this
          rw [Str.length_append] at this
          exact this
        refine SX.assign ok (EV.binop (EV.binop EV.const_str (EV.binop (EV.binop (EV.name ev (by walk_at "loc")) EV.const_int (OP2.floordiv_int (by decide) (by decide))) EV.const_int (OP2.mod_int (by decide))) (OP2.mul_str r3.1 (by omega) (by omega))) (EV.str_int ev g_str (.one (EV.binop (EV.binop (EV.name ev (by walk_at "loc")) EV.const_int (OP2.floordiv_int (by decide) (by decide))) EV.const_int (OP2.mod_int (by decide))) (fun _ => rfl)) (by
          have : ((x.fdiv 16).fmod 130).natAbs < 130 := by omega
          exact Nat.lt_of_le_of_lt (Nat.log2_le_self _) (by omega))) (OP2.add_str (by omega))) (by walk_at "upd") rfl ?_
        rw [e]
        exact SX.nil (SX.nil ⟨_, rfl⟩)
      · refine SX.ite (EVB.chain (b := decide (9 ≤ x.fmod 16)) (b' := decide (x.fmod 16 < 12)) EV.const_int (EV.name ev (by walk_at "loc")) OP2.le_int (fun _ => EV.const_int) OP2.lt_int rfl) (fun h2 => ?_) (fun h2 => ?_)
        · have e : ftok 12 g02 r o x = (tk "(", o ++ [tk "("]) := by
            unfold ftok; rw [if_pos hb, if_neg (by simpa using h1), if_pos (by simpa using h2)]
          rw [e]
          refine SX.assign ok EV.const_str (by walk_at "upd") rfl ?_
          refine SX.append ok (by walk_at "loc") (EV.name ev (by walk_at "loc")) (by walk_at "upd") (by simp; omega) rfl rfl rfl ?_
          exact SX.nil (SX.nil (SX.nil ⟨_, by show _ = sigF _ _ _ _ _ _; rw [List.map_append]; rfl⟩))
        · refine SX.ite (b := decide (12 ≤ x.fmod 16) && g02 r) (EVB.and (EVB.compare (EV.name ev (by walk_at "loc")) EV.const_int OP2.ge_int rfl) fun _ => EVB.and1 ?_) (fun h3 => ?_) (fun h3 => ?_)
          · refine EVB.cast (EVB.or (b := (r.map D.str).isEmpty) (b' := match r.getLast? with | none => true | some t => allowed.any (· == t)) (EVB.frozen (x := tk "row") (σ' := sigF cells (.val (.list (r.map .str))) (.own (o.map .str)) (.val (.int x)) (.val (.str (tk "n"))) (.val (.int (x.fmod 16)))) (by walk_at "loc") (by walk_at "upd") (EVB.compare (EV.name ev (by walk_at "loc")) (EV.list .nil (by simp)) (OP2.eq_nil ev) rfl)) fun hr => EVB.or1 ?_) ?_
            · cases hl : r.getLast? with
              | none => rw [List.getLast?_eq_none_iff] at hl; rw [hl] at hr; simp at hr
              | some t =>
                have hne : 1 ≤ r.length := by cases r with | nil => simp at hl | cons _ _ => simp
                refine EVB.frozen (x := tk "row") (σ' := sigF cells (.val (.list (r.map .str))) (.own (o.map .str)) (.val (.int x)) (.val (.str (tk "n"))) (.val (.int (x.fmod 16)))) (by walk_at "loc") (by walk_at "upd") (EVB.compare (d₂ := .tup (allowed.map .str)) (EV.item (EV.name ev (by walk_at "loc")) (EV.neg EV.const_int) (by simp; omega) (by simp; omega) (by simp; omega) (idx_last (by rw [List.getLast?_map, hl]; rfl)) (fun _ _ => rfl)) (EV.tuple ?_ (by decide +kernel)) OP2.in_tup_strs rfl)
                exact EVs.texts rfl
            · unfold g02
              cases r with
              | nil => rfl
              | cons a b => exact Bool.false_or _
          · have h3 : 12 ≤ x.fmod 16 ∧ g02 r = true := by simpa using h3
            have e : ftok 12 g02 r o x = (tk "!", o) := by
              unfold ftok; rw [if_pos hb, if_neg (by simpa using h1), if_neg (by simpa using h2), if_pos h3]
            rw [e]
            refine SX.assign ok EV.const_str (by walk_at "upd") rfl ?_
            exact SX.nil (SX.nil (SX.nil (SX.nil ⟨_, rfl⟩)))
          · have h3 : ¬ (12 ≤ x.fmod 16 ∧ g02 r = true) := fun q => by simp [q.1, q.2] at h3
            have e : ftok 12 g02 r o x = (tk "n", o) := by
              unfold ftok; rw [if_pos hb, if_neg (by simpa using h1), if_neg (by simpa using h2), if_neg h3]
            rw [e]
            exact SX.nil (SX.nil (SX.nil (SX.nil ⟨_, rfl⟩)))
    · have hb' : ¬ due r = true := by rw [hb]; decide
      refine SX.ite (EVB.compare (b := decide (x.fmod 32 < 19)) (EV.binop (EV.name ev (by walk_at "loc")) EV.const_int (OP2.mod_int (by decide))) EV.const_int OP2.lt_int rfl) (fun h1 => ?_) (fun h1 => ?_)
      · have h1 : x.fmod 32 < 19 := by simpa using h1
        obtain ⟨t, ht, _, _⟩ := fOps_ok (x.fmod 32).toNat (by omega)
        have e : ftok 12 g02 r o x = (t, o) := by
          unfold ftok; rw [if_neg hb', if_pos h1, ht]; rfl
        rw [e]
        have hfl : fOps.length = 19 := rfl
        refine SX.assign ok (EV.item (EV.name ev (by walk_at "loc")) (EV.binop (EV.name ev (by walk_at "loc")) EV.const_int (OP2.mod_int (by decide))) (by omega) (by simp; omega) (by simp; omega) (d := .str t) (by
          unfold idx; rw [if_neg (by omega), List.getElem?_map, ht]; rfl) (fun _ _ => rfl)) (by walk_at "upd") rfl ?_
        exact SX.nil (SX.nil ⟨_, rfl⟩)
      · have h1 : ¬ x.fmod 32 < 19 := by simpa using h1
        refine SX.ite (EVB.or (b := decide (x.fmod 32 < 23)) (b' := (o.map D.str).isEmpty) (EVB.compare (EV.binop (EV.name ev (by walk_at "loc")) EV.const_int (OP2.mod_int (by decide))) EV.const_int OP2.lt_int rfl) fun _ => EVB.or1 (EVB.frozen (x := tk "opened") (σ' := sigF cells (.own (r.map .str)) (.val (.list (o.map .str))) (.val (.int x)) (.val (.str (tk "n"))) vk) (by walk_at "loc") (by walk_at "upd") (EVB.compare (EV.name ev (by walk_at "loc")) (EV.list .nil (by simp)) (OP2.eq_nil ev) rfl))) (fun h2 => ?_) (fun h2 => ?_)
        · have h2 : x.fmod 32 < 23 ∨ o = [] := by simpa using h2
          have e : ftok 12 g02 r o x = (tk "?", o ++ [tk "?"]) := by
            unfold ftok; rw [if_neg hb', if_neg h1, if_pos h2]
          rw [e]
          refine SX.assign ok EV.const_str (by walk_at "upd") rfl ?_
          refine SX.append ok (by walk_at "loc") (EV.name ev (by walk_at "loc")) (by walk_at "upd") (by simp; omega) rfl rfl rfl ?_
          exact SX.nil (SX.nil (SX.nil ⟨_, by show _ = sigF _ _ _ _ _ _; rw [List.map_append]; rfl⟩))
        · have h2 : ¬ (x.fmod 32 < 23 ∨ o = []) := fun q => by
            rcases q with q | q
            · simp [q] at h2
            · simp [q] at h2
          have hne : o ≠ [] := fun e => h2 (.inr e)
          obtain ⟨o', y, rfl⟩ : ∃ o' y, o = o' ++ [y] := ⟨o.dropLast, o.getLast hne, (List.dropLast_concat_getLast hne).symm⟩
          have hol' : o'.length < 1000 := by simp at hol; omega
          refine SX.iteX (b := y == tk "(") (EXB.cmpX (d₁ := .str y) (σ₁ := sigF cells (.own (r.map .str)) (.own (o'.map .str)) (.val (.int x)) (.val (.str (tk "n"))) vk) (EX.pop (ds := o'.map .str) ev (by
            rw [List.map_append]; exact Loc.tail (Loc.tail (Loc.tail Loc.head))) (by rw [List.map_append]; exact Upd.tail (Upd.tail (Upd.tail Upd.head))) (by simp; omega) rfl) EV.const_str OP2.eq_str rfl) (fun h3 => ?_) (fun h3 => ?_)
          · have e : ftok 12 g02 r (o' ++ [y]) x = (tk ")", o') := by
              unfold ftok; rw [if_neg hb', if_neg h1, if_neg h2, if_pos (by simpa using h3), List.dropLast_concat]
            rw [e]
            refine SX.assign ok EV.const_str (by walk_at "upd") rfl ?_
            exact SX.nil (SX.nil (SX.nil (SX.nil ⟨_, rfl⟩)))
          · have e : ftok 12 g02 r (o' ++ [y]) x = (tk ":", o') := by
              unfold ftok; rw [if_neg hb', if_neg h1, if_neg h2, if_neg (by simpa using h3), List.dropLast_concat]
            rw [e]
            refine SX.assign ok EV.const_str (by walk_at "upd") rfl ?_
            exact SX.nil (SX.nil (SX.nil (SX.nil ⟨_, rfl⟩)))
    rintro σ₂ ⟨vk', rfl⟩
    refine SX.append ok (by walk_at "loc") (EV.name ev (by walk_at "loc")) (by walk_at "upd") (by simp; omega) rfl rfl rfl ?_
    exact SX.nil ⟨_, _, _, _, _, by show _ = sigF _ _ _ _ _ _; rw [List.map_append]; rfl, hnext⟩
  rintro σ₁ ⟨r, o, vx, vt, vk, rfl, hinv⟩
  rw [show (cells.map D.int).length = cells.length by simp, List.take_length] at hinv
  have hI := Inv.fold (lim := 12) (g := g02) cells 0 ([], []) Inv.nil
  rw [hinv] at hI
  have hrl := hI.len
  have hol := hI.olen
  simp only at hrl hol
  have hform : form 12 g02 cells = r ++ ((if due r then [tk "n"] else []) ++ closers o.reverse) := by unfold form closeUp; rw [hinv]
  have hclose := closers_len o.reverse
  have hfl : (form 12 g02 cells).length ≤ 500 := by
    rw [hform]; simp only [List.length_append]; simp only [List.length_reverse] at hclose
    have : (if due r = true then [tk "n"] else []).length ≤ 1 := by split <;> simp
    omega
  refine SX.join (fun σ => σ = sigF cells (.own ((r ++ if due r then [tk "n"] else []).map .str)) (.own (o.map .str)) vx vt vk) (hdue r _ _ _ _ _ _ _ (by omega)) (fun hb => ?_) (fun hb => ?_) ?_
  · refine SX.append ok (by walk_at "loc") EV.const_str (by walk_at "upd") (by simp; omega) rfl rfl rfl ?_
    exact SX.nil (by show _ = sigF _ _ _ _ _ _; rw [if_pos hb, List.map_append]; rfl)
  · exact SX.nil (by show _ = sigF _ _ _ _ _ _; rw [if_neg (by rw [hb]; decide), List.append_nil])
  rintro σ₂ rfl
  refine SX.whileK (PassesOwn.never) (fun n σ => ∃ r' o', σ = sigF cells (.own (r'.map .str)) (.own (o'.map .str)) vx vt vk ∧ n = o'.length ∧ r' ++ closers o'.reverse = form 12 g02 cells) (fun σ => σ = sigF cells (.own ((form 12 g02 cells).map .str)) (.own []) vx vt vk) o.length ⟨_, o, rfl, rfl, by rw [hform, List.append_assoc]⟩ ?_ ?_
  · rintro n σ₃ ⟨r', o', rfl, rfl, hinv'⟩
    have hr' : r'.length ≤ 500 ∧ (closers o'.reverse).length ≤ 500 := by
      have := congrArg List.length hinv'; simp only [List.length_append] at this; omega
    refine ⟨!(o'.map D.str).isEmpty, _, EVB.toEXB (EVB.frozen (x := tk "opened") (σ' := sigF cells (.own (r'.map .str)) (.val (.list (o'.map .str))) vx vt vk) (by walk_at "loc") (by walk_at "upd") (EVB.compare (EV.name ev (by walk_at "loc")) (EV.list .nil (by simp)) (OP2.ne_nil ev) rfl)), fun hb => ?_, fun hb => ?_⟩
    · have hne : o' ≠ [] := fun e => by subst e; simp at hb
      obtain ⟨o₁, y, rfl⟩ : ∃ o₁ y, o' = o₁ ++ [y] := ⟨o'.dropLast, o'.getLast hne, (List.dropLast_concat_getLast hne).symm⟩
      have hlen : o₁.length ≤ 1000 := by
        have : ∀ st : List Str, st.length ≤ (closers st).length := by
          intro st
          induction st with
          | nil => exact Nat.le_refl _
          | cons a b ih => unfold closers; split <;> simp only [List.length_cons] <;> omega
        have := this (o₁ ++ [y]).reverse
        simp at this hr' ⊢; omega
      rw [List.reverse_append, List.reverse_singleton, List.singleton_append, closers] at hinv'
      refine SX.iteX (b := y == tk "(") (EXB.cmpX (d₁ := .str y) (σ₁ := sigF cells (.own (r'.map .str)) (.own (o₁.map .str)) vx vt vk) (EX.pop (ds := o₁.map .str) ev (by
            rw [List.map_append]; exact Loc.tail (Loc.tail (Loc.tail Loc.head))) (by rw [List.map_append]; exact Upd.tail (Upd.tail (Upd.tail Upd.head))) (by simp; omega) rfl) EV.const_str OP2.eq_str rfl) (fun h3 => ?_) (fun h3 => ?_)
      · rw [if_pos (eq_of_beq h3)] at hinv'
        refine SX.append ok (by walk_at "loc") EV.const_str (by walk_at "upd") (by simp; omega) rfl rfl rfl ?_
        exact SX.nil (SX.nil ⟨_, by simp, r' ++ [tk ")"], o₁, by show _ = sigF _ _ _ _ _ _; rw [List.map_append]; rfl, rfl, by rw [← hinv']; simp⟩)
      · rw [if_neg (ne_of_beq h3)] at hinv'
        refine SX.append ok (by walk_at "loc") EV.const_str (by walk_at "upd") (by simp; omega) rfl rfl rfl ?_
        refine SX.append ok (by walk_at "loc") EV.const_str (by walk_at "upd") (by simp; omega) rfl rfl rfl ?_
        exact SX.nil (SX.nil ⟨_, by simp, r' ++ [tk ":", tk "n"], o₁, by show _ = sigF _ _ _ _ _ _; rw [List.map_append]; simp, rfl, by rw [← hinv']; simp⟩)
    · have hne : o' = [] := by cases o' with | nil => rfl | cons _ _ => simp at hb
      subst hne
      show sigF _ _ _ _ _ _ = sigF _ _ _ _ _ _
      rw [← hinv']; simp [closers]
  rintro σ₃ rfl
  refine SX.freeze (x := tk "row") (by walk_at "loc") (by walk_at "upd") ?_
  exact SX.ret (EV.name ev (d := .list ((form 12 g02 cells).map .str)) (by walk_at "loc")) rfl
end Mine
namespace Mine
theorem plain02' (cells : List Int) (hn : cells.length ≤ 36) : ∃ (text : Str) (d : D), run 400 (.start (-1)) (form 12 g02 cells ++ [tk "", tk "7"]) = .ok text (tk "") [tk "7"] ∧
    TreeR 110 (form 12 g02 cells) d ∧ PyR 545 (Txt.words (apart text)) d ∧ d.pure = true ∧ d.toPy.depth ≤ 218 ∧ (Txt.words (apart text)).length ≤ 545 ∧ (∀ t ∈ Txt.words (apart text), PyData.strOk t = true) := by
  obtain ⟨e, h1, h2, h3⟩ := form_tree 12 g02 cells (by omega)
  have hg := form_gd 12 g02 cells
  have hlen := hg.2
  rw [h2] at hg hlen
  have hwds := wds_of e h1 hg.1
  have hnb := nb_of e h1 (by rw [← h2]; exact form_adj cells)
  have hq : e.nrmq (-1) = e.nrm := if_neg (by omega)
  have hsem := nrm_sem e false h1 hwds (fun e => nomatch e)
  have hpy := (py_pf e.nrm (nrm_WF e h1 hwds) (nrm_Ws e hwds) (nrm_NC e h1 hwds) (nrm_NB e hnb)).1
  have hl5 := nrm_len e
  refine ⟨e.txt (-1), e.sem false, h3, ?_, ?_, sem_pure e false h1 hg.1, ?_, ?_, ?_⟩
  · rw [h2]; exact ((tree_flat e h1 fun t ht => by have := (hg.1 t ht).sm.1; omega).1).mono _ (by omega)
  · rw [words_txt h1 hwds, hq, ← hsem]; exact hpy.mono _ (by omega)
  · have := (sem_depth e).1; omega
  · rw [words_txt h1 hwds, hq]; omega
  · rw [words_txt h1 hwds, hq]; exact pf_ok _ (nrm_WF e h1 hwds) (nrm_Ws e hwds)
end Mine
namespace Mine
local macro_rules | `(tactic| walk_at "loc") => `(tactic| first | with_reducible exact Loc.head | (with_reducible apply Loc.tail; walk_at "loc"))
local macro_rules | `(tactic| walk_at "locd") => `(tactic| first | exact Loc.head | (with_reducible apply Loc.tail; walk_at "locd"))
local macro_rules | `(tactic| walk_at "upd") => `(tactic| first | with_reducible exact Upd.head | (with_reducible apply Upd.tail; walk_at "upd"))
theorem ok_of_gd {ts : List Str} (h : ∀ t ∈ ts, Gd t) : ∀ t ∈ ts, PyData.strOk t = true := fun t ht => (h t ht).ok
noncomputable def cells02 (ns : List Int) : List Int := ns.take 18 ++ [0, 4, 197, 2, 9, 12, 1, 23, 19, 0, 19, 2198, 24, 3, 24, 1, 8, 53]
noncomputable abbrev sigL (ns : List Int) (row source text last : AV) : Sig :=
  [(tk "script", .val (.list (ns.map .int))), (tk "row", row), (tk "source", source), (tk "text", text), (tk "last", last)]
set_option maxHeartbeats 1000000 in
theorem law_fn {w : World} {h₁ : Heap} {mg mb : Str → Option Value} (KX : (hd.heap_39 w.params).In h₁) (st : Stat h₁ mg mb) (ns : List Int) (hns : ns.length ≤ 9000) : FN prg w h₁ 149 600 [.list (ns.map .int)] (.bool true) := by
  refine FN.of_body1 (params := [tk "script"]) (names := [tk "row", tk "source", tk "text", tk "last"]) st (KX 149 _ rfl) rfl (codeRec_of KX rfl) rfl rfl rfl rfl rfl (by decide) (bind_one fun _ => rfl) (by decide) (by decide) (by decide) rfl rfl rfl ?_
  intro c ok is hs hdp hun
  have ev := ok.toEv
  have gl : ∀ {x : Str} {v : Option Value}, (fdOf (hd.heap_39 w.params) 149).scope.names.lookup x = some .globalImplicit → (x == ("__debug__" : Str)) = false → mg x = v → GL c x v := fun h1 h2 h3 => GL.of is hs h1 h2 h3
  have g_form : GL c "_law_formula" (some (.ref 99)) := gl rfl rfl ((glob_at KX st.g rfl rfl _).trans rfl)
  have g_parse : GL c "_parse" (some (.ref 85)) := gl rfl rfl ((glob_at KX st.g rfl rfl _).trans rfl)
  have g_python : GL c "_law_python" (some (.ref 142)) := gl rfl rfl ((glob_at KX st.g rfl rfl _).trans rfl)
  have g_tree : GL c "_law_tree" (some (.ref 130)) := gl rfl rfl ((glob_at KX st.g rfl rfl _).trans rfl)
  have g_iter : GL c "iter" none := gl rfl rfl ((glob_at KX st.g rfl rfl _).trans rfl)
  have g_list : GL c "list" none := gl rfl rfl ((glob_at KX st.g rfl rfl _).trans rfl)
  have hcl : (cells02 ns).length ≤ 36 := by unfold cells02; simp; omega
  obtain ⟨text, d, hrun, htree, hpy, hpure, hdepth, hwl, hwo⟩ := plain02' (cells02 ns) hcl
  have hgd := form_gd 12 g02 (cells02 ns)
  have hfl : (form 12 g02 (cells02 ns)).length ≤ 109 := by have := hgd.2; omega
  generalize hrow : form 12 g02 (cells02 ns) = row at hrun htree hpy hgd hfl
  have hall : ∀ t ∈ row ++ [tk "", tk "7"], Gd t := fun t ht => by
    rcases List.mem_append.mp ht with h | h
    · exact hgd.1 t h
    · exact fixed_gd t (by
        have all : ∀ t ∈ [tk "", tk "7"], t ∈ fixed := by unfold fixed; decide +kernel
        exact all t h)
  have hsm : Smalls (row ++ [tk "", tk "7"]) := fun t ht => (hall t ht).sm
  have hlen := run_len 400 _ _ _ _ _ hsm hrun
  have htl : text.length ≤ 8880 := by
    have := hlen.2.2
    simp only [List.length_append, List.length_cons, List.length_nil] at this
    omega
  show SX1 c _ (sigL ns .un .un .un .un) _ _
  refine SX1.seqK (fun σ => σ = sigL ns (.val (.list (row.map .str))) .un .un .un) ?_ ?_
  · refine SX.assignCallB (n := 2) (r' := .list (row.map .str)) (d := .list ((cells02 ns).map .int)) (σ' := sigL ns (.val (.list (row.map .str))) .un .un .un) ok is g_form ?_ ?_ ?_ ?_ ?_ ?_ ?_
    · exact ⟨_, _, KX 99 _ rfl, rfl⟩
    · exact EV.cells (tail := [0, 4, 197, 2, 9, 12, 1, 23, 19, 0, 19, 2198, 24, 3, 24, 1, 8, 53]) ev (by walk_at "loc") rfl (by simp; omega)
    · rw [← hrow]; exact formula_fn KX st (cells02 ns) (by omega)
    · omega
    · omega
    · walk_at "upd"
    · exact SX.nil rfl
  rintro τ rfl
  refine SX1.seqK (fun σ => ∃ a, σ = sigL ns (.val (.list (row.map .str))) (.it a ((row ++ [tk "", tk "7"]).map .str)) .un .un) ?_ ?_
  · refine SX.iter (ds := (row ++ [tk "", tk "7"]).map .str) (σ' := fun a => sigL ns (.val (.list (row.map .str))) (.it a ((row ++ [tk "", tk "7"]).map .str)) .un .un) ok g_iter ?_ ?_ ?_ ?_ ?_
    · refine EVs.cB (EV.cast (EV.binop (EV.name ev (d := .list (row.map .str)) (by walk_at "loc")) (EV.list (EVs.texts (ys := [tk "", tk "7"]) rfl) (by decide)) (OP2.add_list (by simp; omega))) (by rw [List.map_append])) .nil
    · simp; omega
    · intro a; walk_at "upd"
    · rfl
    · intro a; exact SX.nil ⟨a, rfl⟩
  rintro τ ⟨a, rfl⟩
  refine SX1.seqK (fun σ => σ = sigL ns (.val (.list (row.map .str))) (.it a ([tk "7"].map .str)) (.val (.str text)) (.val (.str (tk "")))) ?_ ?_
  · refine SX.unpack2X ok (d₁ := .str text) (d₂ := .str (tk "")) (EX.callP ev is g_parse (parse_isFn KX) (by walk_at "loc") (by walk_at "upd") .nil ((parse_fn KX st 400 (-1) _ _ _ _ hsm (by simp; omega) hrun).2 rfl) (by omega) (by omega)) (by walk_at "upd") (by walk_at "upd") rfl rfl ?_
    exact SX.nil rfl
  rintro τ rfl
  refine SX1.seqK (fun σ => σ = sigL ns (.val (.list (row.map .str))) .un (.val (.str text)) (.val (.str (tk "")))) ?_ ?_
  · refine SX.iteX (b := false || false) (EXB.orX (b := false) (EVB.cast (EVB.compare (EV.name ev (by walk_at "loc")) EV.const_str OP2.ne_str rfl) (by decide +kernel)).toEXB (fun _ => (EXB.cmpX (d₁ := .list ([tk "7"].map .str)) (d₂ := .list ([tk "7"].map .str)) (EX.listIt ev g_list (by walk_at "loc") (by walk_at "upd")) (EV.list (EVs.texts (ys := [tk "7"]) rfl) (by decide)) (OP2.ne_data ev (by decide +kernel) (by decide +kernel) ?_) rfl)) (fun e => nomatch e)) (fun e => nomatch e) (fun _ => ?_)
    · decide +kernel
    · exact SX.nil (SX.nil rfl)
  rintro τ rfl
  have hap := apart_len text
  refine SX1.ret (d := .bool true) (EV1.compare (d₁ := d) (d₂ := d) (EV1.call1 (d := dstrs (Txt.words (apart text))) ev is g_python ⟨_, _, KX 142 _ rfl, rfl⟩ (EV1.split (EV1.replace (EV1.replace (EV.name ev (by walk_at "loc")).to1 rfl rfl (by decide +kernel) ?_) rfl rfl (by decide +kernel) ?_) rfl rfl ?_) (fun _ => rfl) (python_fn KX st hpy (by omega) hwo) (by omega) (by omega)) (EV.call ev is g_tree ⟨_, _, KX 130 _ rfl, rfl⟩ (.one (EV.name ev (d := .list (row.map .str)) (by walk_at "loc")) (fun _ => rfl)) (tree_fn KX st htree (by omega)) (by omega) (by omega)) ?_ rfl) rfl
  · have : (tk "( ").length = 2 := by decide +kernel
    show _ + _ * (tk "( ").length ≤ _
    rw [this]; omega
  · have : (tk " )").length = 2 := by decide +kernel
    show (Txt.replace text (tk "(") (tk "( ")).length + ((Txt.replace text (tk "(") (tk "( ")).length + 1) * (tk " )").length ≤ _
    rw [this]; omega
  · show (apart text).length ≤ _
    omega
  · have h := OP2.eq_deep (c := c) hpure hpure (by rw [Nat.min_self]; omega)
    rw [PySem.SeqAt.eqv_refl _ (D.canLay d hpure)] at h
    exact h
end Mine
namespace Mine
theorem Reps.of_ints {g : G} : ∀ {vs : List Value} {xs : List Int}, IntsAre vs xs → Reps g vs (xs.map .int) := by
  intro vs xs h
  induction h with
  | nil => exact .nil
  | cons _ _ _ ih => exact .cons (.int _ _) ih
end Mine
open Mine
set_option maxHeartbeats 4000000 in
theorem PySem.Challenge.cw_lo0003_02_holds : PySem.Challenge.rw_lo0003_02.Holds := by
  w_on
  o_law
  refine holds_open (q := Mine.hd.view_39) (loose := hLoose) (Xt := hX) (XP := XL Mine.hd.view_39 []) (Yf := hHook.obs) (Ya := hHook.val) (YP := hHook.says) (N := 3934) left (Hook.of hHook) (Hook.keeps hHook) (fun s e => xl_of s (Bool.and_eq_true_iff.mp e).1) XL.keeps (by rfl) (by rfl) (by rfl) (fun s e => recFacts_of (Bool.and_eq_true_iff.mp e).2) (by rfl) (by first | assumption | decide +kernel) (by decide +kernel) ⟨rfl, rfl, rfl, rfl, rfl, by decide +kernel⟩ ?hw ?hc
  case hw => w_witness2
  intro w s₀ s₁ mg mb G Y fa o pm cd doc dV kV ho hd hcd hD hmg hg args vals as hpre hlay hrd hwl hlo
  have KX := kIn_of Y
  clear ho hd hcd hD 
  refine Ground.open G ?_
  intro T B D TE TW
  wrow_args hpre hlay hrd hwl hlo
  rename_i ns _ _ _ _ _ _ _ l vs _ hL ra _ _ hI _ _ _
  have st : Stat s₁.heap mg mb := ⟨T.g, T.b, T.nolimit, T.nodigits, T.builtins⟩
  have hfa : fa = 149 := by
    have h1 : mg (Str.ofString "law") = some (.ref fa) := hmg
    rw [(glob_at KX T.g rfl rfl _).trans (show _ = some (Value.ref 149) from rfl)] at h1
    cases h1; rfl
  subst hfa
  obtain ⟨ol, hl1, hl2, n, hl3⟩ := hL
  refine law_fn KX st ns (by omega) callerA s₁ (fun b => s₁.heap.get? b) [.ref l] _ _ rfl (by decide +kernel) (by decide +kernel) (fun _ _ e => e) (fun _ _ e => e) (.cons (.list hl1 hl2 hl3 (Reps.of_ints hI)) .nil) ?_
  intro v h' g' tk hk hg' hle hsame hr
  cases hr with
  | bool =>
  refine ⟨.inl ⟨_, .bool true, [], rfl, fun _ => rfl, ?_, ?_, ?_⟩, .of_keep hk, rfl, .of_eq hg⟩
  · exact .bool _
  · first | wrow_post | exact postW_of (by wrow_shape) (by wtm_val) (by decide)
  · exact fun _ => ⟨List.nodup_nil, fun _ h => by cases h⟩
