import PyProof.Rows.All
import Wide.All
import OpenK.AllK
import Wide.FinOn
import Flt.RightSqrt
import Lean
import PySem.Challenge.RW_pg0266_01
set_option Elab.async false
set_option linter.unusedVariables false
set_option genSizeOf false
set_option genInjectivity false

section
open PySem PySem.W PyProof.Rows
set_option maxRecDepth 100000
set_option maxHeartbeats 8000000
namespace Mine
/-- the law's row -/
noncomputable abbrev lw : OpenLaw := PySem.Challenge.rw_pg0266_01
theorem saidNames : namesResolve lw.prog = true := by kernel_rfl
theorem saidAttr : (namesMeet lw.prog lw.prog.main.body fun _ => attrL) = true := by kernel_rfl
theorem saidLooks : looksOpen lw.prog = true := by
  delta looksOpen
  repeat' with_reducible apply look_both
  · kernel_rfl
  · kernel_rfl
  · exact saidNames
  · kernel_rfl
  · kernel_rfl
  · exact saidAttr
  all_goals kernel_rfl
theorem saidRow : lw.row.wellSaid = true := by
  delta OpenRow.wellSaid OpenRow.partSaid
  repeat' with_reducible apply look_both
  · exact saidLooks
  all_goals kernel_rfl
theorem saidFoot : noClassBlock lw.prog lw.footing = true := by kernel_rfl
theorem saidIt : lw.namesIt = true := by kernel_rfl
theorem lawSaid : lw.wellSaid = true := by
  delta OpenLaw.wellSaid
  repeat' with_reducible apply look_both
  · exact saidRow
  · kernel_rfl
  · kernel_rfl
  · exact saidFoot
  all_goals kernel_rfl
end Mine
end

section
open PySem PySem.W PyProof.Rows PySem.Calls
set_option maxRecDepth 100000
namespace Mine

noncomputable abbrev Led := List (Addr × Obj)
noncomputable abbrev tupObj (vs : List Value) (n : Nat) : Obj := { cls := .type "tuple", data := .seq vs.toArray n }
noncomputable abbrev lstObj (vs : List Value) (n : Nat) : Obj := listOf vs.toArray n

/-- the class's place -/
noncomputable abbrev clsW : Addr := 76
/-- what a Whitespace holds -/
structure Wsp where
  n : Int
  nt : Int
  cnt : List Int
  b : Int
  simple : Bool

/-- a lambda -/
structure FnD where
  qual : Str
  params : Arguments
  body : Expr
  scope : Scope
  clos : List (Str × Addr)

/-- data -/
inductive D where
  | none
  | bool (b : Bool)
  | int (i : Int)
  | flt (x : UInt64)
  | str (s : Str)
  | tup (l : List D)
  | lst (l : List D)
  | rng (a b : Int)
  | val (v : Value)
  | ws (w : Wsp)
  | fn (F : FnD)

noncomputable abbrev rngObj (a b : Int) (t u v : Tok) : Obj := { cls := .type "range", data := .fields #[.int a t, .int b u, .int 1 v] }
noncomputable abbrev D.ints (l : List Int) : D := .lst (l.map .int)

noncomputable abbrev wsEnts (h1 h2 h3 h4 h5 : Int) (t1 t2 t3 t4 t5 : Tok) (v1 v2 v3 v4 v5 : Value) : List DictEntry :=
  [⟨h1, .str "raw" t1, v1⟩, ⟨h2, .str "n" t2, v2⟩, ⟨h3, .str "nt" t3, v3⟩, ⟨h4, .str "norm" t4, v4⟩, ⟨h5, .str "is_simple" t5, v5⟩]

mutual
inductive Rep (fz : Led) : Value → D → Prop
  | none : Rep fz .none .none
  | bool (b : Bool) : Rep fz (.bool b) (.bool b)
  | int (i : Int) (t : Tok) : Rep fz (.int i t) (.int i)
  | flt (x : UInt64) (t : Tok) : Rep fz (.float x t) (.flt x)
  | str (s : Str) (t : Tok) : Rep fz (.str s t) (.str s)
  | tup {a : Addr} {vs : List Value} {n : Nat} {ds : List D} : (a, tupObj vs n) ∈ fz → Reps fz vs ds → Rep fz (.ref a) (.tup ds)
  | lst {a : Addr} {vs : List Value} {n : Nat} {ds : List D} : (a, lstObj vs n) ∈ fz → Reps fz vs ds → Rep fz (.ref a) (.lst ds)
  | rng {r : Addr} {a b : Int} {t u v : Tok} : (r, rngObj a b t u v) ∈ fz → Rep fz (.ref r) (.rng a b)
  | val (v : Value) : Rep fz v (.val v)
  | ws {x dx : Addr} {N : Nat} {h1 h2 h3 h4 h5 : Int} {t1 t2 t3 t4 t5 : Tok} {v1 v2 v3 v4 v5 : Value} {w : Wsp} :
      (x, instObj clsW dx) ∈ fz → (dx, dictOf (wsEnts h1 h2 h3 h4 h5 t1 t2 t3 t4 t5 v1 v2 v3 v4 v5) N) ∈ fz →
      Rep fz v2 (.int w.n) → Rep fz v3 (.int w.nt) → Rep fz v4 (.tup [.tup (w.cnt.map .int), .int w.b]) → Rep fz v5 (.bool w.simple) → Rep fz (.ref x) (.ws w)
  | fn {a c : Addr} {co : Obj} {vs : Array Value} {t : Tok} {F : FnD} {pm ctv : Value} : (a, kla_obj "<lambda>" F.qual F.params F.body F.scope F.clos pm c ctv) ∈ fz → (c, co) ∈ fz → co.data = .fields vs → vs[1]? = some (.str F.qual t) → Rep fz (.ref a) (.fn F)
inductive Reps (fz : Led) : List Value → List D → Prop
  | nil : Reps fz [] []
  | cons {v : Value} {vs : List Value} {d : D} {ds : List D} : Rep fz v d → Reps fz vs ds → Reps fz (v :: vs) (d :: ds)
end

mutual
theorem Rep.mono {fz fz' : Led} (k : fz ⊆ fz') {v : Value} {d : D} : Rep fz v d → Rep fz' v d
  | .none => .none
  | .bool b => .bool b
  | .int i t => .int i t
  | .flt x t => .flt x t
  | .str x t => .str x t
  | .tup m r => .tup (k m) (Reps.mono k r)
  | .lst m r => .lst (k m) (Reps.mono k r)
  | .rng m => .rng (k m)
  | .val v => .val v
  | .ws m1 m2 r2 r3 r4 r5 => .ws (k m1) (k m2) (Rep.mono k r2) (Rep.mono k r3) (Rep.mono k r4) (Rep.mono k r5)
  | .fn m c e1 e2 => .fn (k m) (k c) e1 e2
theorem Reps.mono {fz fz' : Led} (k : fz ⊆ fz') {vs : List Value} {ds : List D} : Reps fz vs ds → Reps fz' vs ds
  | .nil => .nil
  | .cons r rs => .cons (Rep.mono k r) (Reps.mono k rs)
end

theorem Reps.length {fz : Led} : ∀ {vs : List Value} {ds : List D}, Reps fz vs ds → vs.length = ds.length
  | _, _, .nil => rfl
  | _, _, .cons _ r => by rw [List.length_cons, List.length_cons, r.length]
theorem Reps.get {fz : Led} : ∀ {vs : List Value} {ds : List D}, Reps fz vs ds → ∀ {i : Nat} {d : D}, ds[i]? = some d → ∃ v, vs[i]? = some v ∧ Rep fz v d
  | _, _, .nil, _, _, e => by simp at e
  | _, _, .cons (v := v) h r, 0, d, e => by
    simp at e; subst e; exact ⟨v, by simp, h⟩
  | _, _, .cons h r, i + 1, d, e => by
    simp at e
    obtain ⟨v, a, b⟩ := r.get e
    exact ⟨v, by simpa using a, b⟩
theorem Reps.append {fz : Led} : ∀ {vs ws : List Value} {ds es : List D}, Reps fz vs ds → Reps fz ws es → Reps fz (vs ++ ws) (ds ++ es)
  | _, _, _, _, .nil, r => r
  | _, _, _, _, .cons h t, r => .cons h (t.append r)
theorem Reps.snoc {fz : Led} {vs : List Value} {ds : List D} {v : Value} {d : D} (r : Reps fz vs ds) (h : Rep fz v d) : Reps fz (vs ++ [v]) (ds ++ [d]) := r.append (.cons h .nil)
theorem Reps.ints {fz : Led} : ∀ {vs : List Value} {ns : List Int}, Reps fz vs (ns.map .int) → IntsAre vs ns
  | _, [], r => by cases r; exact .nil
  | _, n :: ns, r => by
    cases r with
    | cons h r => cases h with | int i t => exact .cons _ t r.ints
theorem IntsAre.reps {fz : Led} : ∀ {vs : List Value} {ns : List Int}, IntsAre vs ns → Reps fz vs (ns.map .int)
  | _, _, .nil => .nil
  | _, _, .cons n t r => .cons (.int n t) (IntsAre.reps r)
theorem Reps.split {fz : Led} : ∀ {ds : List D} {es : List D} {vs : List Value}, Reps fz vs (ds ++ es) → ∃ v1 v2, vs = v1 ++ v2 ∧ Reps fz v1 ds ∧ Reps fz v2 es
  | [], _, vs, r => ⟨[], vs, rfl, .nil, r⟩
  | d :: ds, es, _, r => by
    cases r with
    | cons h r =>
      obtain ⟨v1, v2, e, a, b⟩ := r.split
      exact ⟨_ :: v1, v2, by rw [e]; rfl, .cons h a, b⟩
theorem Reps.take {fz : Led} : ∀ {vs : List Value} {ds : List D}, Reps fz vs ds → ∀ k, Reps fz (vs.take k) (ds.take k)
  | _, _, .nil, k => by simp; exact .nil
  | _, _, .cons h r, 0 => .nil
  | _, _, .cons h r, k + 1 => .cons h (r.take k)
theorem Reps.drop {fz : Led} : ∀ {vs : List Value} {ds : List D}, Reps fz vs ds → ∀ k, Reps fz (vs.drop k) (ds.drop k)
  | _, _, .nil, k => by simp; exact .nil
  | _, _, .cons h r, 0 => .cons h r
  | _, _, .cons h r, k + 1 => r.drop k
theorem Reps.reverse {fz : Led} : ∀ {vs : List Value} {ds : List D}, Reps fz vs ds → Reps fz vs.reverse ds.reverse
  | _, _, .nil => .nil
  | _, _, .cons h r => by rw [List.reverse_cons, List.reverse_cons]; exact r.reverse.snoc h

/-- what is fixed for the whole run -/
structure Wd where
  prog : Program
  w : World
  p : Program
  loose : List Str
  mean : ExcName → Option Value
  mg : Str → Option Value
  mb : Str → Option Value
  K : Frag
  gens : Array GenState
  drawn : Drawn
  os : OsState
  tabs : List (Addr × Addr × Str)

/-- a frame, or a comprehension's block in one -/
structure Cx (P : Wd) where
  A : Around
  env : Env
  fenv : Env
  L : Addr
  g : Heap
  cm : Option (Str → Option Value)


section
variable {P : Wd}
noncomputable abbrev Cx.up (C : Cx P) (A : Around) : Cx P := { C with A := A }

structure CxOk (C : Cx P) (k : Nat) : Prop where
  below : ∃ A₀ base outer, Below A₀ base outer C.g ∧ C.A.frames = some (C.fenv :: outer)
  X : P.K.In C.g
  T : Top P.p P.loose P.mean P.mg P.mb C.g
  kind : C.env.scope.kind = .function
  fkind : C.fenv.scope.kind = .function
  fr : C.fenv.frame = some C.L
  glob : C.env.globals = mainGlobals
  loc : C.cm = none → C.env.locals = C.L
  hh : C.A.handled = none
  dep : C.A.depth ≤ k
  uni : C.A.units ≤ 10 * k
  ca : CodeAll (P.tabs.map fun q => (q.1, q.2.1)) C.g
  cnd : (C.env.cells.map (·.2)).Nodup

theorem CxOk.mono {C : Cx P} {k k' : Nat} (O : CxOk C k) (h : k ≤ k') : CxOk C k' :=
  ⟨O.below, O.X, O.T, O.kind, O.fkind, O.fr, O.glob, O.loc, O.hh, Nat.le_trans O.dep h, Nat.le_trans O.uni (Nat.mul_le_mul_left 10 h), O.ca, O.cnd⟩
theorem CxOk.in1 {C : Cx P} {k : Nat} (O : CxOk C k) : CxOk (C.up C.A.in1) (k + 1) :=
  ⟨O.below, O.X, O.T, O.kind, O.fkind, O.fr, O.glob, O.loc, O.hh, Nat.le_succ_of_le O.dep, by have := O.uni; show C.A.units + 1 ≤ _; lia, O.ca, O.cnd⟩

/-- a code table: the code objects of the lambdas made so far -/
noncomputable def TabOk (fz : Led) (q : Str) (ps : Array Value) : Prop :=
  TriplesOk ps.toList ∧ ∀ pos cv, codeAmong pos ps.toList = some cv → ∃ c o vs t, cv = .ref c ∧ (c, o) ∈ fz ∧ o.data = .fields vs ∧ vs[1]? = some (.str q t)
theorem TabOk.mono {fz fz' : Led} (k : fz ⊆ fz') {q : Str} {ps : Array Value} (h : TabOk fz q ps) : TabOk fz' q ps :=
  ⟨h.1, fun pos cv e => let ⟨c, o, vs, t, a, b, r⟩ := h.2 pos cv e; ⟨c, o, vs, t, a, k b, r⟩⟩

inductive Tabs (fz : Led) : List (Addr × Addr × Str) → Led → Prop
  | nil : Tabs fz [] []
  | cons {c T : Addr} {q : Str} {r : List (Addr × Addr × Str)} {ps : Array Value} {tb : Led} : TabOk fz q ps → Tabs fz r tb → Tabs fz ((c, T, q) :: r) ((T, tabObj ps) :: tb)
theorem Tabs.mono {fz fz' : Led} (k : fz ⊆ fz') : ∀ {l : List (Addr × Addr × Str)} {tb : Led}, Tabs fz l tb → Tabs fz' l tb
  | _, _, .nil => .nil
  | _, _, .cons h r => .cons (h.mono k) (r.mono k)

noncomputable def Apart (fz mu : Led) : Prop := (mu.map (·.1)).Nodup ∧ ∀ p ∈ fz, ∀ q ∈ mu, p.1 ≠ q.1

/-- the frame's own map of names -/
noncomputable def Fm (C : Cx P) (m : Str → Option Value) (mu : Led) (mf : Str → Option Value) : Prop := match C.cm with
  | none => mf = m
  | some m0 => mf = m0 ∧ ∃ o, (C.env.locals, o) ∈ mu ∧ LCg.NsObj o m

/-- the state: fz frozen objects, mu the ones that may turn, kl the ones of them that stay -/
structure St (C : Cx P) (kl : Led) (m : Str → Option Value) (fz mu : Led) (s : Shared) : Prop where
  F : ∃ mf, Fm C m mu mf ∧ Fr C.g C.L s.heap mf
  N : ∃ tb, Tabs fz P.tabs tb ∧ News C.g C.L s.heap (fz ++ (mu ++ tb)) ∧ Apart fz (mu ++ tb)
  kept : kl ⊆ mu
  wd : s.gens = P.gens ∧ s.drawn = P.drawn ∧ s.os = P.os

inductive G where
  | d (x : D)
  | ml (a : Addr) (ds : List D)
noncomputable abbrev GEnv := Str → Option G
noncomputable abbrev GEnv.set (Γ : GEnv) (x : Str) (d : D) : GEnv := fun y => if y = x then some (.d d) else Γ y
noncomputable abbrev GEnv.setM (Γ : GEnv) (x : Str) (a : Addr) (ds : List D) : GEnv := fun y => if y = x then some (.ml a ds) else Γ y

noncomputable def GRep (fz mu kl : Led) (v : Value) : G → Prop
  | .d x => Rep fz v x
  | .ml a ds => v = .ref a ∧ (∀ p ∈ kl, p.1 ≠ a) ∧ ∃ vs n, (a, lstObj vs n) ∈ mu ∧ Reps fz vs ds

/-- where a name's value lies -/
noncomputable def Holds (C : Cx P) (m : Str → Option Value) (mu : Led) (x : Str) (v : Value) : Prop := match C.env.cells.lookup x with
  | none => m x = some v
  | some c => ∃ o, (c, o) ∈ mu ∧ o.data = .cell (some v)

structure EnvRep (C : Cx P) (kl : Led) (m : Str → Option Value) (fz mu : Led) (Γ : GEnv) : Prop where
  at_ : ∀ x g, Γ x = some g → ∃ v, Holds C m mu x v ∧ GRep fz mu kl v g
  inj : ∀ x y a ds es, Γ x = some (.ml a ds) → Γ y = some (.ml a es) → x = y
  cel : ∀ x c, C.env.cells.lookup x = some c → ∃ o w, (c, o) ∈ mu ∧ o.data = .cell w ∧ (C.env.kindOf x = some .cell → ∀ p ∈ kl, p.1 ≠ c)

theorem GRep.mono {fz fz' mu kl : Led} (k : fz ⊆ fz') {v : Value} : ∀ {g : G}, GRep fz mu kl v g → GRep fz' mu kl v g
  | .d _, b => Rep.mono k b
  | .ml _ _, ⟨a, b, vs, n, c, d⟩ => ⟨a, b, vs, n, c, d.mono k⟩
theorem EnvRep.mono {C : Cx P} {kl : Led} {m : Str → Option Value} {fz fz' mu : Led} {Γ : GEnv} (h : EnvRep C kl m fz mu Γ) (k : fz ⊆ fz') : EnvRep C kl m fz' mu Γ :=
  ⟨fun x g e => let ⟨v, a, b⟩ := h.at_ x g e; ⟨v, a, b.mono k⟩, h.inj, h.cel⟩
theorem EnvRep.sub {C : Cx P} {kl : Led} {m : Str → Option Value} {fz mu : Led} {Γ Γ' : GEnv} (h : EnvRep C kl m fz mu Γ) (k : ∀ x g, Γ' x = some g → Γ x = some g) : EnvRep C kl m fz mu Γ' :=
  ⟨fun x g e => h.at_ x g (k x g e), fun x y a ds es e1 e2 => h.inj x y a ds es (k _ _ e1) (k _ _ e2), h.cel⟩

theorem EnvRep.more {C : Cx P} {kl : Led} {m : Str → Option Value} {fz mu mu' : Led} {Γ : GEnv} (h : EnvRep C kl m fz mu Γ) (k : mu ⊆ mu') : EnvRep C kl m fz mu' Γ := by
  refine ⟨fun x g e => ?_, h.inj, fun x c e => let ⟨o, w, a, b⟩ := h.cel x c e; ⟨o, w, k a, b⟩⟩
  obtain ⟨v, a, b⟩ := h.at_ x g e
  refine ⟨v, ?_, ?_⟩
  · unfold Holds at a ⊢
    split at a
    · exact a
    · obtain ⟨o, c, d⟩ := a; exact ⟨o, k c, d⟩
  · cases g with
    | d _ => exact b
    | ml _ _ => obtain ⟨b1, b2, vs, n, b3, b4⟩ := b; exact ⟨b1, b2, vs, n, k b3, b4⟩

theorem St.tok {C : Cx P} {kl : Led} {m : Str → Option Value} {fz mu : Led} {s : Shared} (h : St C kl m fz mu s) (t : Nat) : St C kl m fz mu { s with toks := t } := ⟨h.F, h.N, h.kept, h.wd⟩
theorem Apart.cons {fz mu : Led} {p : Addr × Obj} (h : Apart fz mu) (k : ∀ q ∈ mu, p.1 ≠ q.1) : Apart (p :: fz) mu :=
  ⟨h.1, fun x hx q hq => by rcases List.mem_cons.mp hx with rfl | hx; exact k q hq; exact h.2 x hx q hq⟩
theorem Fm.mono {C : Cx P} {m : Str → Option Value} {mu mu' : Led} {mf : Str → Option Value} (h : Fm C m mu mf) (k : mu ⊆ mu') : Fm C m mu' mf := by
  unfold Fm at h ⊢
  split
  · rename_i e; rw [e] at h; exact h
  · rename_i m0 e
    rw [e] at h
    obtain ⟨a, o, b, c⟩ := h
    exact ⟨a, o, k b, c⟩

theorem News.lt {h₀ h : Heap} {L : Addr} {news : Led} (N : News h₀ L h news) : ∀ p ∈ news, p.1 < h.objs.size := fun p hp => Heap.lt_size (N p hp).1

theorem St.push {C : Cx P} {kl : Led} {m : Str → Option Value} {fz mu : Led} {s : Shared} (h : St C kl m fz mu s) (o : Obj) (hf : o.isFreed = false := by rfl) :
    St C kl m ((s.heap.objs.size, o) :: fz) mu { s with heap := s.heap.push o } := by
  obtain ⟨⟨mf, f1, F⟩, ⟨tb, T, N, A⟩, kp, wd⟩ := h
  refine ⟨⟨mf, f1, F.push o⟩, ⟨tb, T.mono (List.subset_cons_self _ _), ?_, A.cons fun q hq => ?_⟩, kp, wd⟩
  · exact N.push F o hf
  · exact Nat.ne_of_gt (News.lt N q (List.mem_append_right _ hq))

theorem St.pushM {C : Cx P} {kl : Led} {m : Str → Option Value} {fz mu : Led} {s : Shared} (h : St C kl m fz mu s) (o : Obj) (hf : o.isFreed = false := by rfl) :
    St C kl m fz ((s.heap.objs.size, o) :: mu) { s with heap := s.heap.push o } := by
  obtain ⟨⟨mf, f1, F⟩, ⟨tb, T, N, A⟩, kp, wd⟩ := h
  have N2 := N.push F o hf
  refine ⟨⟨mf, f1.mono (List.subset_cons_self _ _), F.push o⟩, ⟨tb, T, fun p hp => N2 p ?_, ?_⟩, fun p hp => List.mem_cons_of_mem _ (kp hp), wd⟩
  · simp only [List.mem_append, List.mem_cons] at hp ⊢
    rcases hp with h | (h | h) | h
    · exact .inr (.inl h)
    · exact .inl h
    · exact .inr (.inr (.inl h))
    · exact .inr (.inr (.inr h))
  · refine ⟨?_, fun p hp q hq => ?_⟩
    · rw [List.cons_append, List.map_cons, List.nodup_cons]
      refine ⟨fun hm => ?_, A.1⟩
      obtain ⟨q, hq, e⟩ := List.mem_map.mp hm
      exact absurd (News.lt N q (List.mem_append_right _ hq)) (by rw [e]; exact Nat.lt_irrefl _)
    · rcases List.mem_cons.mp hq with rfl | hq
      · exact Nat.ne_of_lt (News.lt N p (List.mem_append_left _ hp))
      · exact A.2 p hp q hq

/-- an entry turned -/
noncomputable def mset (mu : Led) (a : Addr) (o : Obj) : Led := mu.map fun p => if p.1 = a then (a, o) else p
theorem mset_fst (mu : Led) (a : Addr) (o : Obj) : (mset mu a o).map (·.1) = mu.map (·.1) := by
  unfold mset
  rw [List.map_map]
  refine List.map_congr_left fun p _ => ?_
  by_cases h : p.1 = a <;> simp [h]
theorem mem_mset_self {mu : Led} {a : Addr} {o o' : Obj} (h : (a, o) ∈ mu) : (a, o') ∈ mset mu a o' := by
  refine List.mem_map.mpr ⟨(a, o), h, by simp⟩
theorem mem_mset_ne {mu : Led} {a : Addr} {o' : Obj} {p : Addr × Obj} (h : p ∈ mu) (hn : p.1 ≠ a) : p ∈ mset mu a o' :=
  List.mem_map.mpr ⟨p, h, by simp [hn]⟩
theorem of_mem_mset {mu : Led} {a : Addr} {o' : Obj} {p : Addr × Obj} (h : p ∈ mset mu a o') : (p = (a, o') ∧ ∃ o, (a, o) ∈ mu) ∨ (p ∈ mu ∧ p.1 ≠ a) := by
  obtain ⟨q, hq, e⟩ := List.mem_map.mp h
  by_cases h1 : q.1 = a
  · rw [if_pos h1] at e
    exact .inl ⟨e.symm, q.2, by rw [← h1]; exact hq⟩
  · rw [if_neg h1] at e; subst e; exact .inr ⟨hq, h1⟩

/-- an entry of mu that is none of kl's is turned -/
theorem St.upd {C : Cx P} {kl : Led} {m : Str → Option Value} {fz mu : Led} {s : Shared} (h : St C kl m fz mu s) {a : Addr} {o o' : Obj} (hm : (a, o) ∈ mu) (hk : ∀ p ∈ kl, p.1 ≠ a)
    (hl : C.cm ≠ none → a ≠ C.env.locals) {h' : Heap} (hs : Heap.SameBut a s.heap h') (ho : h'.get? a = some o') (t : Nat) : St C kl m fz (mset mu a o') { s with heap := h', toks := t } := by
  obtain ⟨⟨mf, f1, F⟩, ⟨tb, T, N, A⟩, kp, wd⟩ := h
  have z := N (a, o) (List.mem_append_right _ (List.mem_append_left _ hm))
  refine ⟨⟨mf, ?_, F.change hs z.2.1 z.2.2⟩, ⟨tb, T, fun p hp => ?_, ?_⟩, fun p hp => mem_mset_ne (kp hp) (hk p hp), wd⟩
  · unfold Fm at f1 ⊢
    split
    · rename_i e; rw [e] at f1; exact f1
    · rename_i m0 e
      rw [e] at f1
      obtain ⟨x, ob, y, w⟩ := f1
      exact ⟨x, ob, mem_mset_ne y (hl (by rw [e]; exact Option.some_ne_none _)).symm, w⟩
  · rcases List.mem_append.mp hp with hp | hp
    · have y := N p (List.mem_append_left _ hp)
      exact ⟨(hs.2 _ (A.2 p hp (a, o) (List.mem_append_left _ hm))).trans y.1, y.2⟩
    · rcases List.mem_append.mp hp with hp | hp
      · rcases of_mem_mset hp with ⟨rfl, _⟩ | ⟨q, hn⟩
        · exact ⟨ho, z.2⟩
        · have y := N p (List.mem_append_right _ (List.mem_append_left _ q))
          exact ⟨(hs.2 _ hn).trans y.1, y.2⟩
      · have y := N p (List.mem_append_right _ (List.mem_append_right _ hp))
        refine ⟨(hs.2 _ fun q => ?_).trans y.1, y.2⟩
        have nd := A.1
        rw [List.map_append, List.nodup_append] at nd
        exact nd.2.2 a (List.mem_map_of_mem hm) p.1 (List.mem_map_of_mem hp) q.symm
  · refine ⟨?_, fun p hp q hq => ?_⟩
    · rw [List.map_append, mset_fst, ← List.map_append]; exact A.1
    · rcases List.mem_append.mp hq with hq | hq
      · rcases of_mem_mset hq with ⟨rfl, o₂, hq⟩ | ⟨hq, _⟩
        · exact A.2 p hp (a, o₂) (List.mem_append_left _ hq)
        · exact A.2 p hp q (List.mem_append_left _ hq)
      · exact A.2 p hp q (List.mem_append_right _ hq)

/-- errors: none -/
noncomputable abbrev noE : Value → Shared → Prop := fun _ _ => False

/-- evaluating e gives d -/
noncomputable def EV (C : Cx P) (Γ : GEnv) (e : Expr) (d : D) : Prop :=
  ∀ ⦃kl : Led⦄ ⦃m : Str → Option Value⦄ ⦃fz mu : Led⦄ ⦃s : Shared⦄ ⦃Q : Value → Shared → Prop⦄,
    EnvRep C kl m fz mu Γ → St C kl m fz mu s →
    (∀ fz' s' v, fz ⊆ fz' → St C kl m fz' mu s' → Rep fz' v d → Q v s') → wpAny (model P.prog P.w) C.A (eval e C.env) Q noE s

/-- the truth of e is b -/
noncomputable def TV (C : Cx P) (Γ : GEnv) (e : Expr) (b : Bool) : Prop :=
  ∀ ⦃kl : Led⦄ ⦃m : Str → Option Value⦄ ⦃fz mu : Led⦄ ⦃s : Shared⦄ ⦃Q : Bool → Shared → Prop⦄,
    EnvRep C kl m fz mu Γ → St C kl m fz mu s →
    (∀ fz' s', fz ⊆ fz' → St C kl m fz' mu s' → Q b s') → wpAny (model P.prog P.w) C.A (isTrue e C.env (eval e C.env)) Q noE s

/-- running one statement or a block: N what holds where it goes on, R of what is returned, B at a break -/
noncomputable def SG (C : Cx P) (Γ : GEnv) (t : Sem Flow) (N : GEnv → Prop) (R : D → Prop) (B : GEnv → Prop) : Prop :=
  ∀ ⦃kl : Led⦄ ⦃m : Str → Option Value⦄ ⦃fz mu : Led⦄ ⦃s : Shared⦄ ⦃Q : Flow → Shared → Prop⦄,
    EnvRep C kl m fz mu Γ → St C kl m fz mu s →
    (∀ m' fz' mu' s' Γ', fz ⊆ fz' → N Γ' → EnvRep C kl m' fz' mu' Γ' → St C kl m' fz' mu' s' → Q .next s') →
    (∀ m' fz' mu' s' v d, fz ⊆ fz' → R d → Rep fz' v d → St C kl m' fz' mu' s' → Q (.ret v) s') →
    (∀ m' fz' mu' s' Γ', fz ⊆ fz' → B Γ' → EnvRep C kl m' fz' mu' Γ' → St C kl m' fz' mu' s' → Q .brk s') →
    wpAny (model P.prog P.w) C.A t Q noE s
noncomputable abbrev S1 (C : Cx P) (Γ : GEnv) (st : Stmt) (N : GEnv → Prop) (R : D → Prop) (B : GEnv → Prop) : Prop := SG C Γ (exec st C.env) N R B
noncomputable abbrev SS (C : Cx P) (Γ : GEnv) (body : List Stmt) (N : GEnv → Prop) (R : D → Prop) (B : GEnv → Prop) : Prop := SG C Γ (execs body C.env) N R B
end
end Mine
end

section
open PySem PySem.W PyProof.Rows PySem.Calls
set_option maxRecDepth 100000
namespace Mine
section
variable {P : Wd} {C : Cx P} {Γ : GEnv} {k : Nat} {kl : Led} {m : Str → Option Value} {fz mu : Led} {s : Shared}

/-- out of a state and back -/
theorem St.opn (h : St C kl m fz mu s) : ∃ mf news, Fr C.g C.L s.heap mf ∧ News C.g C.L s.heap news ∧ fz ⊆ news ∧ mu ⊆ news ∧
    (∀ h' tk, Fr C.g C.L h' mf → News C.g C.L h' news → St C kl m fz mu { s with heap := h', toks := tk }) ∧
    (∀ h' tk l o, Fr C.g C.L h' mf → News C.g C.L h' ((l, o) :: news) → (∀ p ∈ news, p.1 < l) → St C kl m ((l, o) :: fz) mu { s with heap := h', toks := tk }) ∧
    (∀ h' tk l o, Fr C.g C.L h' mf → News C.g C.L h' ((l, o) :: news) → (∀ p ∈ news, p.1 < l) → St C kl m fz ((l, o) :: mu) { s with heap := h', toks := tk }) := by
  obtain ⟨⟨mf, f1, F⟩, ⟨tb, T, N, A⟩, kp, wd⟩ := h
  refine ⟨mf, fz ++ (mu ++ tb), F, N, List.subset_append_left _ _, fun p hp => List.mem_append_right _ (List.mem_append_left _ hp), fun h' tk F' N' => ⟨⟨mf, f1, F'⟩, ⟨tb, T, N', A⟩, kp, wd⟩, fun h' tk l o F' N' hl => ?_, fun h' tk l o F' N' hl => ?_⟩
  · exact ⟨⟨mf, f1, F'⟩, ⟨tb, T.mono (List.subset_cons_self _ _), N', A.cons fun q hq => Nat.ne_of_gt (hl q (List.mem_append_right _ hq))⟩, kp, wd⟩
  · refine ⟨⟨mf, f1.mono (List.subset_cons_self _ _), F'⟩, ⟨tb, T, fun p hp => N' p ?_, ?_⟩, fun p hp => List.mem_cons_of_mem _ (kp hp), wd⟩
    · simp only [List.mem_append, List.mem_cons] at hp ⊢
      rcases hp with h | (h | h) | h
      · exact .inr (.inl h)
      · exact .inl h
      · exact .inr (.inr (.inl h))
      · exact .inr (.inr (.inr h))
    · refine ⟨?_, fun p hp q hq => ?_⟩
      · rw [List.cons_append, List.map_cons, List.nodup_cons]
        refine ⟨fun hm => ?_, A.1⟩
        obtain ⟨q, hq, e⟩ := List.mem_map.mp hm
        exact absurd (hl q (List.mem_append_right _ hq)) (by rw [e]; exact Nat.lt_irrefl _)
      · rcases List.mem_cons.mp hq with rfl | hq
        · exact Nat.ne_of_lt (hl p (List.mem_append_left _ hp))
        · exact A.2 p hp q hq

theorem St.fr (h : St C kl m fz mu s) : ∃ mf, Fr C.g C.L s.heap mf := let ⟨mf, _, F⟩ := h.F; ⟨mf, F⟩
theorem St.keep (h : St C kl m fz mu s) : ∀ b o, C.g.get? b = some o → s.heap.get? b = some o := let ⟨_, _, F⟩ := h.F; F.keep
theorem St.at_ (h : St C kl m fz mu s) {a : Addr} {o : Obj} (hm : (a, o) ∈ fz) : s.heap.get? a = some o := let ⟨_, _, N, _⟩ := h.N; (N _ (List.mem_append_left _ hm)).1
theorem St.atM (h : St C kl m fz mu s) {a : Addr} {o : Obj} (hm : (a, o) ∈ mu) : s.heap.get? a = some o := let ⟨_, _, N, _⟩ := h.N; (N _ (List.mem_append_right _ (List.mem_append_left _ hm))).1
theorem St.ns (O : CxOk C k) (h : St C kl m fz mu s) : s.heap.Ns C.env.locals m := by
  obtain ⟨mf, f1, F⟩ := h.F
  unfold Fm at f1
  split at f1
  · rename_i e; subst f1; rw [O.loc e]; exact F.ns
  · obtain ⟨_, o, hm, hn⟩ := f1
    exact hn.ns (h.atM hm)
theorem St.isList (h : St C kl m fz mu s) {a : Addr} {vs : List Value} {n : Nat} (hm : (a, lstObj vs n) ∈ fz) : s.heap.IsList a vs.toArray := ⟨_, h.at_ hm, rfl, _, rfl⟩
theorem St.isTup (h : St C kl m fz mu s) {a : Addr} {vs : List Value} {n : Nat} (hm : (a, tupObj vs n) ∈ fz) : IsTup s.heap a vs.toArray := ⟨_, h.at_ hm, rfl, _, rfl⟩

theorem len1 {α : Type} {l : List α} (h : l.length = 1) : ∃ a, l = [a] := List.length_eq_one_iff.mp h
theorem lenS {α : Type} {l : List α} {n : Nat} (h : l.length = n + 1) : ∃ a l', l = a :: l' ∧ l'.length = n := by
  cases l with
  | nil => cases h
  | cons a r => exact ⟨a, r, rfl, Nat.succ.inj h⟩
theorem len2 {α : Type} {l : List α} (h : l.length = 2) : ∃ a b, l = [a, b] := by
  obtain ⟨a, r, rfl, h'⟩ := lenS h; obtain ⟨b, rfl⟩ := len1 h'; exact ⟨a, b, rfl⟩
theorem len3 {α : Type} {l : List α} (h : l.length = 3) : ∃ a b c, l = [a, b, c] := by
  obtain ⟨a, r, rfl, h'⟩ := lenS h; obtain ⟨b, c, rfl⟩ := len2 h'; exact ⟨a, b, c, rfl⟩
theorem len4 {α : Type} {l : List α} (h : l.length = 4) : ∃ a b c d, l = [a, b, c, d] := by
  obtain ⟨a, r, rfl, h'⟩ := lenS h; obtain ⟨b, c, d, rfl⟩ := len3 h'; exact ⟨a, b, c, d, rfl⟩
theorem len5 {α : Type} {l : List α} (h : l.length = 5) : ∃ a b c d e, l = [a, b, c, d, e] := by
  obtain ⟨a, r, rfl, h'⟩ := lenS h; obtain ⟨b, c, d, e, rfl⟩ := len4 h'; exact ⟨a, b, c, d, e, rfl⟩
theorem Rep.int_inv {v : Value} {i : Int} (h : Rep fz v (.int i)) : ∃ t, v = .int i t := by cases h; exact ⟨_, rfl⟩
theorem Rep.flt_inv {v : Value} {i : UInt64} (h : Rep fz v (.flt i)) : ∃ t, v = .float i t := by cases h; exact ⟨_, rfl⟩
theorem Rep.str_inv {v : Value} {i : Str} (h : Rep fz v (.str i)) : ∃ t, v = .str i t := by cases h; exact ⟨_, rfl⟩
theorem Rep.bool_inv {v : Value} {i : Bool} (h : Rep fz v (.bool i)) : v = .bool i := by cases h; rfl
theorem Rep.val_inv {v w : Value} (h : Rep fz v (.val w)) : v = w := by cases h; rfl
theorem Rep.none_inv {v : Value} (h : Rep fz v .none) : v = .none := by cases h; rfl
theorem Rep.rng_inv {v : Value} {a b : Int} (h : Rep fz v (.rng a b)) : ∃ r t u w, v = .ref r ∧ (r, rngObj a b t u w) ∈ fz := by cases h; exact ⟨_, _, _, _, rfl, by assumption⟩
theorem Rep.lst_inv {v : Value} {ds : List D} (h : Rep fz v (.lst ds)) : ∃ a vs n, v = .ref a ∧ (a, lstObj vs n) ∈ fz ∧ Reps fz vs ds := by cases h; exact ⟨_, _, _, rfl, by assumption, by assumption⟩
theorem Rep.tup_inv {v : Value} {ds : List D} (h : Rep fz v (.tup ds)) : ∃ a vs n, v = .ref a ∧ (a, tupObj vs n) ∈ fz ∧ Reps fz vs ds := by cases h; exact ⟨_, _, _, rfl, by assumption, by assumption⟩
theorem Reps.c0 {vs : List Value} (r : Reps fz vs []) : vs = [] := by cases r; rfl
theorem Reps.cc {vs : List Value} {d : D} {ds : List D} (r : Reps fz vs (d :: ds)) : ∃ v vs', vs = v :: vs' ∧ Rep fz v d ∧ Reps fz vs' ds := by cases r with | cons h r => exact ⟨_, _, rfl, h, r⟩
theorem Reps.c1 {d : D} {vs : List Value} (r : Reps fz vs [d]) : ∃ v, vs = [v] ∧ Rep fz v d := by
  obtain ⟨v, vs', rfl, h, r⟩ := r.cc
  obtain rfl := r.c0
  exact ⟨_, rfl, h⟩
theorem Reps.c2 {d e : D} {vs : List Value} (r : Reps fz vs [d, e]) : ∃ v w, vs = [v, w] ∧ Rep fz v d ∧ Rep fz w e := by
  obtain ⟨v, vs', rfl, h, r⟩ := r.cc
  obtain ⟨w, rfl, h2⟩ := r.c1; exact ⟨_, _, rfl, h, h2⟩
theorem Reps.c3 {d e f : D} {vs : List Value} (r : Reps fz vs [d, e, f]) : ∃ v w x, vs = [v, w, x] ∧ Rep fz v d ∧ Rep fz w e ∧ Rep fz x f := by
  obtain ⟨v, vs', rfl, h, r⟩ := r.cc
  obtain ⟨w, x, rfl, h2, h3⟩ := r.c2; exact ⟨_, _, _, rfl, h, h2, h3⟩

-- NAMES
theorem EV.name (O : CxOk C k) {x : Str} {pos : Pos} {d : D} (hx : Γ x = some (.d d)) (hk : C.env.kindOf x = some .local) (hc : C.env.cells.lookup x = none) (hd : (x == ("__debug__" : Str)) = false := by decide) : EV C Γ (.Name x pos) d := by
  intro kl m fz mu s Q hE hS hQ
  obtain ⟨v, h1, h2⟩ := hE.at_ x _ hx
  unfold Holds at h1
  rw [hc] at h1
  exact wpAny_Name (wpAny_loadName_local O.kind hk (hS.ns O) h1 (hQ _ _ _ (List.Subset.refl _) hS h2)) hd
theorem EV.nameC (O : CxOk C k) {x : Str} {pos : Pos} {d : D} {c : Addr} (hx : Γ x = some (.d d)) (hk : C.env.kindOf x = some .cell) (hc : C.env.cells.lookup x = some c) (hd : (x == ("__debug__" : Str)) = false := by decide) : EV C Γ (.Name x pos) d := by
  intro kl m fz mu s Q hE hS hQ
  obtain ⟨v, h1, h2⟩ := hE.at_ x _ hx
  unfold Holds at h1
  rw [hc] at h1
  obtain ⟨o, ho, hv⟩ := h1
  exact wpAny_Name (wpAny_loadName_cell O.kind hk hc ⟨o, hS.atM ho, hv⟩ (hQ _ _ _ (List.Subset.refl _) hS h2)) hd
theorem EV.nameF (O : CxOk C k) {x : Str} {pos : Pos} {d : D} {c : Addr} (hx : Γ x = some (.d d)) (hk : C.env.kindOf x = some .free) (hc : C.env.cells.lookup x = some c) (hd : (x == ("__debug__" : Str)) = false := by decide) (hn : (x == ("__classdict__" : Str)) = false := by decide) : EV C Γ (.Name x pos) d := by
  intro kl m fz mu s Q hE hS hQ
  obtain ⟨v, h1, h2⟩ := hE.at_ x _ hx
  unfold Holds at h1
  rw [hc] at h1
  obtain ⟨o, ho, hv⟩ := h1
  exact wpAny_Name (wpAny_loadName_free O.kind hk hc ⟨o, hS.atM ho, hv⟩ (hQ _ _ _ (List.Subset.refl _) hS h2) hn) hd
theorem EV.nameM (O : CxOk C k) {x : Str} {pos : Pos} {a : Addr} {ds : List D} (hx : Γ x = some (.ml a ds)) (hk : C.env.kindOf x = some .local) (hc : C.env.cells.lookup x = none) (hd : (x == ("__debug__" : Str)) = false := by decide) : EV C Γ (.Name x pos) (.val (.ref a)) := by
  intro kl m fz mu s Q hE hS hQ
  obtain ⟨v, h1, h2, _⟩ := hE.at_ x _ hx
  unfold Holds at h1
  rw [hc] at h1
  subst h2
  exact wpAny_Name (wpAny_loadName_local O.kind hk (hS.ns O) h1 (hQ _ _ _ (List.Subset.refl _) hS (.val _))) hd
theorem EV.glob (O : CxOk C k) {x : Str} {pos : Pos} {v : Value} (e : nsIn P.K mainGlobals x = some (some v)) (hk : C.env.kindOf x = some .globalImplicit) (hd : (x == ("__debug__" : Str)) = false := by decide) : EV C Γ (.Name x pos) (.val v) := by
  intro kl m fz mu s Q hE hS hQ
  refine Name_function_global O.kind hk (loadGlobal_global (env := C.env) ?_ (mg_of O.X O.T.g e) (hQ _ _ _ (List.Subset.refl _) hS (.val _))) hd
  rw [O.glob]; exact O.T.g.keeps hS.keep
theorem EV.boot (O : CxOk C k) {x : Str} {pos : Pos} {v : Value} (e : nsIn P.K mainGlobals x = some none) (hv : bootBuiltins x = some v) (hk : C.env.kindOf x = some .globalImplicit) (hb : C.env.builtins = builtinsNs) (hn : x ≠ "__name__" := by decide) (hd : (x == ("__debug__" : Str)) = false := by decide) : EV C Γ (.Name x pos) (.val v) := by
  intro kl m fz mu s Q hE hS hQ
  refine Name_function_global O.kind hk (loadGlobal_builtin (env := C.env) ?_ (mg_none_of O.X O.T.g e) ?_ ((O.T.builtins x hn).trans hv) (hQ _ _ _ (List.Subset.refl _) hS (.val _))) hd
  · rw [O.glob]; exact O.T.g.keeps hS.keep
  · rw [hb]; exact O.T.b.keeps hS.keep

-- CONSTANTS
theorem EV.cInt {i : Int} {kk : Nat} {pos : Pos} : EV C Γ (.Constant (.int i) kk pos) (.int i) := fun _ _ _ _ _ _ _ hS hQ => wpAny_Constant_int (hQ _ _ _ (List.Subset.refl _) (hS.tok _) (.int _ _))
theorem EV.cFlt {x : UInt64} {kk : Nat} {pos : Pos} : EV C Γ (.Constant (.float x) kk pos) (.flt x) := fun _ _ _ _ _ _ _ hS hQ => PySem.AutoFloatOps.wpAny_Constant_float (hQ _ _ _ (List.Subset.refl _) (hS.tok _) (.flt _ _))
theorem EV.cStr {x : Str} {kk : Nat} {pos : Pos} : EV C Γ (.Constant (.str x) kk pos) (.str x) := fun _ _ _ _ _ _ _ hS hQ => wpAny_Constant_str (hQ _ _ _ (List.Subset.refl _) (hS.tok _) (.str _ _))
theorem EV.cNone {kk : Nat} {pos : Pos} : EV C Γ (.Constant .none kk pos) .none := fun _ _ _ _ _ _ _ hS hQ => wpAny_Constant_none (hQ _ _ _ (List.Subset.refl _) hS .none)
theorem EV.cBool {b : Bool} {kk : Nat} {pos : Pos} : EV C Γ (.Constant (.bool b) kk pos) (.bool b) := fun _ _ _ _ _ _ _ hS hQ => wpAny_Constant_bool (hQ _ _ _ (List.Subset.refl _) hS (.bool _))

-- OPERATIONS ON DATA
noncomputable def BinOk (C : Cx P) (t : Value → Value → Sem Value) (d1 d2 d : D) : Prop :=
  ∀ ⦃kl : Led⦄ ⦃m : Str → Option Value⦄ ⦃fz mu : Led⦄ ⦃s : Shared⦄ ⦃Q : Value → Shared → Prop⦄ ⦃v1 v2 : Value⦄, St C kl m fz mu s → Rep fz v1 d1 → Rep fz v2 d2 →
    (∀ fz' s' v, fz ⊆ fz' → St C kl m fz' mu s' → Rep fz' v d → Q v s') → wpAny (model P.prog P.w) C.A (t v1 v2) Q noE s
noncomputable def CallOk (C : Cx P) (f : Value) (ds : List D) (d : D) : Prop :=
  ∀ ⦃kl : Led⦄ ⦃m : Str → Option Value⦄ ⦃fz mu : Led⦄ ⦃s : Shared⦄ ⦃Q : Value → Shared → Prop⦄ ⦃vs : List Value⦄, St C kl m fz mu s → Reps fz vs ds →
    (∀ fz' s' v, fz ⊆ fz' → St C kl m fz' mu s' → Rep fz' v d → Q v s') → wpAny (model P.prog P.w) C.A (call f vs []) Q noE s

theorem EV.bin {l r : Expr} {op : Operator} {pos : Pos} {d1 d2 d : D} (hb : BinOk C (binaryOp op) d1 d2 d) (h1 : EV C Γ l d1) (h2 : EV C Γ r d2) : EV C Γ (.BinOp l op r pos) d := by
  intro kl m fz mu s Q hE hS hQ
  exact wpAny_BinOp (h1 hE hS fun fz1 s1 v1 k1 S1 r1 => h2 (hE.mono k1) S1 fun fz2 s2 v2 k2 S2 r2 => hb S2 (r1.mono k2) r2 fun fz3 s3 v3 k3 S3 r3 => hQ _ _ _ (fun _ hp => k3 (k2 (k1 hp))) S3 r3)
theorem EV.cmp {l r : Expr} {op : CmpOp} {pos : Pos} {d1 d2 d : D} (hb : BinOk C (compareOp op) d1 d2 d) (h1 : EV C Γ l d1) (h2 : EV C Γ r d2) (hm : behindInMarks op r = false := by with_unfolding_all rfl) : EV C Γ (.Compare l [op] [r] pos) d := by
  intro kl m fz mu s Q hE hS hQ
  exact wpAny_Compare1 (h1 hE hS fun fz1 s1 v1 k1 S1 r1 => h2 (hE.mono k1) S1 fun fz2 s2 v2 k2 S2 r2 => hb S2 (r1.mono k2) r2 fun fz3 s3 v3 k3 S3 r3 => hQ _ _ _ (fun _ hp => k3 (k2 (k1 hp))) S3 r3) hm
theorem TV.cmp {l r : Expr} {op : CmpOp} {pos : Pos} {d1 d2 : D} {b : Bool} (hb : BinOk C (compareOp op) d1 d2 (.bool b)) (h1 : EV C Γ l d1) (h2 : EV C Γ r d2) (hm : behindInMarks op r = false := by with_unfolding_all rfl) : TV C Γ (.Compare l [op] [r] pos) b := by
  intro kl m fz mu s Q hE hS hQ
  refine wpAny_isTrue_Compare1 (h1 hE hS fun fz1 s1 v1 k1 S1 r1 => h2 (hE.mono k1) S1 fun fz2 s2 v2 k2 S2 r2 => hb S2 (r1.mono k2) r2 fun fz3 s3 v3 k3 S3 r3 => ?_) hm
  obtain rfl := r3.bool_inv
  exact wpAny_truthy_bool (hQ _ _ (fun _ hp => k3 (k2 (k1 hp))) S3)
theorem TV.value {e : Expr} {b : Bool} (h : EV C Γ e (.bool b)) (he : ∀ env whole, isTrue e env whole = (do let v ← whole; standAt e.pos; holding [v] (truthy v)) := by intro _ _; rfl) : TV C Γ e b := by
  intro kl m fz mu s Q hE hS hQ
  refine wpAny_isTrue_value (h hE hS fun fz1 s1 v1 k1 S1 r1 => ?_) (he _ _)
  obtain rfl := r1.bool_inv
  exact wpAny_truthy_bool (hQ _ _ k1 S1)
theorem TV.not {x : Expr} {pos : Pos} {b : Bool} (h : TV C Γ x b) : TV C Γ (.UnaryOp .Not x pos) (!b) := by
  intro kl m fz mu s Q hE hS hQ
  exact wpAny_isTrue_Not (h hE hS fun fz1 s1 k1 S1 => hQ _ _ k1 S1)
theorem TV.and2 {x y : Expr} {pos : Pos} {b c : Bool} (h1 : TV C Γ x b) (h2 : b = true → TV C Γ y c) : TV C Γ (.BoolOp .And [x, y] pos) (b && c) := by
  intro kl m fz mu s Q hE hS hQ
  refine wpAny_isTrue_BoolOp (wpAny_allTrue_And_cons (h1 hE hS fun fz1 s1 k1 S1 => ?_))
  cases b with
  | false => exact hQ _ _ k1 S1
  | true =>
    refine wpAny_allTrue_And_cons (h2 rfl (hE.mono k1) S1 fun fz2 s2 k2 S2 => ?_)
    cases c with
    | false => exact hQ _ _ (fun _ hp => k2 (k1 hp)) S2
    | true => exact wpAny_allTrue_And_nil (hQ _ _ (fun _ hp => k2 (k1 hp)) S2)

theorem BinOk.ofI {t : Value → Value → Sem Value} {a b : Int} {d : D} (h : ∀ ⦃kl : Led⦄ ⦃m : Str → Option Value⦄ ⦃fz mu : Led⦄ ⦃s : Shared⦄ ⦃Q : Value → Shared → Prop⦄ ⦃t1 t2 : Tok⦄, St C kl m fz mu s → (∀ fz' s' v, fz ⊆ fz' → St C kl m fz' mu s' → Rep fz' v d → Q v s') → wpAny (model P.prog P.w) C.A (t (.int a t1) (.int b t2)) Q noE s) : BinOk C t (.int a) (.int b) d := by
  intro kl m fz mu s Q v1 v2 hS r1 r2 hQ
  obtain ⟨t1, rfl⟩ := r1.int_inv
  obtain ⟨t2, rfl⟩ := r2.int_inv
  exact h hS hQ
theorem BinOk.ofF {t : Value → Value → Sem Value} {a b : UInt64} {d : D} (h : ∀ ⦃kl : Led⦄ ⦃m : Str → Option Value⦄ ⦃fz mu : Led⦄ ⦃s : Shared⦄ ⦃Q : Value → Shared → Prop⦄ ⦃t1 t2 : Tok⦄, St C kl m fz mu s → (∀ fz' s' v, fz ⊆ fz' → St C kl m fz' mu s' → Rep fz' v d → Q v s') → wpAny (model P.prog P.w) C.A (t (.float a t1) (.float b t2)) Q noE s) : BinOk C t (.flt a) (.flt b) d := by
  intro kl m fz mu s Q v1 v2 hS r1 r2 hQ
  obtain ⟨t1, rfl⟩ := r1.flt_inv
  obtain ⟨t2, rfl⟩ := r2.flt_inv
  exact h hS hQ
theorem BinOk.ofFI {t : Value → Value → Sem Value} {a : UInt64} {b : Int} {d : D} (h : ∀ ⦃kl : Led⦄ ⦃m : Str → Option Value⦄ ⦃fz mu : Led⦄ ⦃s : Shared⦄ ⦃Q : Value → Shared → Prop⦄ ⦃t1 t2 : Tok⦄, St C kl m fz mu s → (∀ fz' s' v, fz ⊆ fz' → St C kl m fz' mu s' → Rep fz' v d → Q v s') → wpAny (model P.prog P.w) C.A (t (.float a t1) (.int b t2)) Q noE s) : BinOk C t (.flt a) (.int b) d := by
  intro kl m fz mu s Q v1 v2 hS r1 r2 hQ
  obtain ⟨t1, rfl⟩ := r1.flt_inv
  obtain ⟨t2, rfl⟩ := r2.int_inv
  exact h hS hQ
theorem BinOk.ofS {t : Value → Value → Sem Value} {a b : Str} {d : D} (h : ∀ ⦃kl : Led⦄ ⦃m : Str → Option Value⦄ ⦃fz mu : Led⦄ ⦃s : Shared⦄ ⦃Q : Value → Shared → Prop⦄ ⦃t1 t2 : Tok⦄, St C kl m fz mu s → (∀ fz' s' v, fz ⊆ fz' → St C kl m fz' mu s' → Rep fz' v d → Q v s') → wpAny (model P.prog P.w) C.A (t (.str a t1) (.str b t2)) Q noE s) : BinOk C t (.str a) (.str b) d := by
  intro kl m fz mu s Q v1 v2 hS r1 r2 hQ
  obtain ⟨t1, rfl⟩ := r1.str_inv
  obtain ⟨t2, rfl⟩ := r2.str_inv
  exact h hS hQ
-- INTS
theorem BinOk.addI {a b : Int} : BinOk C (binaryOp .Add) (.int a) (.int b) (.int (a + b)) :=
  BinOk.ofI fun kl m fz mu s Q t1 t2 hS hQ => PyProof.Rows.add_int (hQ _ _ _ (List.Subset.refl _) (hS.tok _) (.int _ _))
theorem BinOk.subI {a b : Int} : BinOk C (binaryOp .Sub) (.int a) (.int b) (.int (a - b)) :=
  BinOk.ofI fun kl m fz mu s Q t1 t2 hS hQ => PyProof.Rows.sub_int' (hQ _ _ _ (List.Subset.refl _) (hS.tok _) (.int _ _))
theorem BinOk.mulI {a b : Int} (h : IntMulOk a b) : BinOk C (binaryOp .Mult) (.int a) (.int b) (.int (a * b)) :=
  BinOk.ofI fun kl m fz mu s Q t1 t2 hS hQ => PyProof.Rows.mul_int (hQ _ _ _ (List.Subset.refl _) (hS.tok _) (.int _ _)) h
theorem BinOk.divI {a b : Int} (hb : b ≠ 0) (hp : Builtin.divisionGoesByPylong a b = false) : BinOk C (binaryOp .FloorDiv) (.int a) (.int b) (.int (a.fdiv b)) :=
  BinOk.ofI fun kl m fz mu s Q t1 t2 hS hQ => PyProof.Rows.floordiv_int hb (hQ _ _ _ (List.Subset.refl _) (hS.tok _) (.int _ _)) (.inl hp)
theorem BinOk.modI {a b : Int} (hb : b ≠ 0) : BinOk C (binaryOp .Mod) (.int a) (.int b) (.int (a.fmod b)) :=
  BinOk.ofI fun kl m fz mu s Q t1 t2 hS hQ => PyProof.Rows.mod_int' hb (hQ _ _ _ (List.Subset.refl _) (hS.tok _) (.int _ _))
theorem BinOk.powI {a n : Int} (hn : 0 ≤ n) (hn2 : n ≤ 1000000) (ha : a.natAbs < 2 ^ 64) : BinOk C (binaryOp .Pow) (.int a) (.int n) (.int (a ^ n.toNat)) :=
  BinOk.ofI fun kl m fz mu s Q t1 t2 hS hQ => PyProof.Rows.pow_int_small hn hn2 ha (hQ _ _ _ (List.Subset.refl _) (hS.tok _) (.int _ _))
theorem BinOk.eqI {a b : Int} : BinOk C (compareOp .Eq) (.int a) (.int b) (.bool (a == b)) :=
  BinOk.ofI fun kl m fz mu s Q t1 t2 hS hQ => PyProof.Rows.eq_int (hQ _ _ _ (List.Subset.refl _) hS (.bool _))
theorem BinOk.neI {a b : Int} : BinOk C (compareOp .NotEq) (.int a) (.int b) (.bool (a != b)) :=
  BinOk.ofI fun kl m fz mu s Q t1 t2 hS hQ => PyProof.Rows.ne_int (hQ _ _ _ (List.Subset.refl _) hS (.bool _))
theorem BinOk.ltI {a b : Int} : BinOk C (compareOp .Lt) (.int a) (.int b) (.bool (decide (a < b))) :=
  BinOk.ofI fun kl m fz mu s Q t1 t2 hS hQ => PyProof.Rows.lt_int (hQ _ _ _ (List.Subset.refl _) hS (.bool _))
theorem BinOk.leI {a b : Int} : BinOk C (compareOp .LtE) (.int a) (.int b) (.bool (decide (a ≤ b))) :=
  BinOk.ofI fun kl m fz mu s Q t1 t2 hS hQ => PyProof.Rows.le_int (hQ _ _ _ (List.Subset.refl _) hS (.bool _))
theorem BinOk.gtI {a b : Int} : BinOk C (compareOp .Gt) (.int a) (.int b) (.bool (decide (b < a))) :=
  BinOk.ofI fun kl m fz mu s Q t1 t2 hS hQ => PyProof.Rows.gt_int (hQ _ _ _ (List.Subset.refl _) hS (.bool _))
theorem BinOk.geI {a b : Int} : BinOk C (compareOp .GtE) (.int a) (.int b) (.bool (decide (b ≤ a))) :=
  BinOk.ofI fun kl m fz mu s Q t1 t2 hS hQ => PyProof.Rows.ge_int (hQ _ _ _ (List.Subset.refl _) hS (.bool _))
theorem BinOk.eqS {a b : Str} : BinOk C (compareOp .Eq) (.str a) (.str b) (.bool (a == b)) :=
  BinOk.ofS fun kl m fz mu s Q t1 t2 hS hQ => PyProof.Rows.eq_str (hQ _ _ _ (List.Subset.refl _) hS (.bool _))
theorem BinOk.isNone {d : D} {b : Bool} (h : ∀ fz v, Rep fz v d → (v == Value.none) = b) : BinOk C (compareOp .Is) d .none (.bool b) := by
  intro kl m fz mu s Q v1 v2 hS r1 r2 hQ; obtain rfl := r2.none_inv
  refine PySem.is_none ?_
  rw [h _ _ r1]
  exact hQ _ _ _ (List.Subset.refl _) hS (.bool _)

-- FLOATS
theorem BinOk.addF {a b : UInt64} : BinOk C (binaryOp .Add) (.flt a) (.flt b) (.flt (Float64.add a b)) :=
  BinOk.ofF fun kl m fz mu s Q t1 t2 hS hQ => PySem.AutoFloatOps.add_0 (hQ _ _ _ (List.Subset.refl _) (hS.tok _) (.flt _ _))
theorem BinOk.subF {a b : UInt64} : BinOk C (binaryOp .Sub) (.flt a) (.flt b) (.flt (Float64.sub a b)) :=
  BinOk.ofF fun kl m fz mu s Q t1 t2 hS hQ => PySem.AutoFloatOps.sub_0 (hQ _ _ _ (List.Subset.refl _) (hS.tok _) (.flt _ _))
theorem BinOk.mulF {a b : UInt64} : BinOk C (binaryOp .Mult) (.flt a) (.flt b) (.flt (Float64.mul a b)) :=
  BinOk.ofF fun kl m fz mu s Q t1 t2 hS hQ => PySem.AutoFloatOps.mul_0 (hQ _ _ _ (List.Subset.refl _) (hS.tok _) (.flt _ _))
theorem BinOk.divF {a b : UInt64} (h : ¬ Float64.isZero b = true) : BinOk C (binaryOp .Div) (.flt a) (.flt b) (.flt (Float64.div a b)) :=
  BinOk.ofF fun kl m fz mu s Q t1 t2 hS hQ => PySem.AutoFloatOps.truediv_1 h (hQ _ _ _ (List.Subset.refl _) (hS.tok _) (.flt _ _))
theorem BinOk.modF {a b : UInt64} (h : ¬ Float64.isZero b = true) : BinOk C (binaryOp .Mod) (.flt a) (.flt b) (.flt (Float64.divmod a b).snd) :=
  BinOk.ofF fun kl m fz mu s Q t1 t2 hS hQ => PySem.AutoFloatOps.mod_1 h (hQ _ _ _ (List.Subset.refl _) (hS.tok _) (.flt _ _))
theorem BinOk.ltF {a b : UInt64} : BinOk C (compareOp .Lt) (.flt a) (.flt b) (.bool (Float64.cmp a b == some .lt)) :=
  BinOk.ofF fun kl m fz mu s Q t1 t2 hS hQ => PySem.AutoFloatOps.lt_0 (hQ _ _ _ (List.Subset.refl _) hS (.bool _))
theorem BinOk.eqF {a b : UInt64} : BinOk C (compareOp .Eq) (.flt a) (.flt b) (.bool (Float64.cmp a b == some .eq)) :=
  BinOk.ofF fun kl m fz mu s Q t1 t2 hS hQ => PySem.AutoFloatOps.eq_0 (hQ _ _ _ (List.Subset.refl _) hS (.bool _))
theorem BinOk.divII {a b : Int} (hb : ¬ (b == 0) = true) (hi : ¬ Float64.isInf (Float64.ofFrac (decide (a < 0) != decide (b < 0)) a.natAbs b.natAbs) = true) : BinOk C (binaryOp .Div) (.int a) (.int b) (.flt (Float64.ofFrac (decide (a < 0) != decide (b < 0)) a.natAbs b.natAbs)) :=
  BinOk.ofI fun kl m fz mu s Q t1 t2 hS hQ => PySem.AutoIntOps.truediv_2 hb hi (hQ _ _ _ (List.Subset.refl _) (hS.tok _) (.flt _ _))
theorem BinOk.mulFI {a : UInt64} {b : Int} (hi : ¬ Float64.isInf (Float64.ofInt b) = true) : BinOk C (binaryOp .Mult) (.flt a) (.int b) (.flt (Float64.mul a (Float64.ofInt b))) :=
  BinOk.ofFI fun kl m fz mu s Q t1 t2 hS hQ => PySem.AutoFloatOps.mul_fi_1 hi (hQ _ _ _ (List.Subset.refl _) (hS.tok _) (.flt _ _))
theorem BinOk.subFI {a : UInt64} {b : Int} (hi : ¬ Float64.isInf (Float64.ofInt b) = true) : BinOk C (binaryOp .Sub) (.flt a) (.int b) (.flt (Float64.sub a (Float64.ofInt b))) :=
  BinOk.ofFI fun kl m fz mu s Q t1 t2 hS hQ => PySem.AutoFloatOps.sub_fi_1 hi (hQ _ _ _ (List.Subset.refl _) (hS.tok _) (.flt _ _))

-- TEXTS
theorem BinOk.addS {a b : Str} (hz : a.length + b.length ≤ sizeLine) : BinOk C (binaryOp .Add) (.str a) (.str b) (.str (a ++ b)) :=
  BinOk.ofS fun kl m fz mu s Q t1 t2 hS hQ => PyProof.Rows.add_str (fun t' tk => hQ _ _ _ (List.Subset.refl _) (hS.tok _) (.str _ _)) hz

-- LISTS
theorem BinOk.addL {a b : List D} (hz : a.length + b.length ≤ sizeLine) : BinOk C (binaryOp .Add) (.lst a) (.lst b) (.lst (a ++ b)) := by
  intro kl m fz mu s Q v1 v2 hS r1 r2 hQ
  obtain ⟨l1, vs1, n1, rfl, m1, q1⟩ := r1.lst_inv
  obtain ⟨l2, vs2, n2, rfl, m2, q2⟩ := r2.lst_inv
  obtain ⟨mf, news, F, N, k1, k2, c1, c2, c3⟩ := hS.opn
  refine add_arrays F N (hS.isList m1) (hS.isList m2) (fun h' F' N' => ?_) (by rw [List.size_toArray, List.size_toArray, q1.length, q2.length]; exact hz)
  exact hQ _ _ _ (List.subset_cons_self _ _) (c2 h' s.toks _ _ F' N' fun p hp => News.lt N p hp) (.lst (n := 0) (.head _) ((q1.append q2).mono (List.subset_cons_self _ _)))
end
end Mine
end

section
open PySem PySem.W PyProof.Rows PySem.Calls
set_option maxRecDepth 100000
namespace Mine
section
variable {P : Wd} {C : Cx P} {Γ : GEnv} {k : Nat} {kl : Led} {m : Str → Option Value} {fz mu : Led} {s : Shared}

theorem St.grown (h : St C kl m fz mu s) {h' : Heap} (hk : ∀ b o, s.heap.get? b = some o → h'.get? b = some o) (tk : Nat) : St C kl m fz mu { s with heap := h', toks := tk } := by
  obtain ⟨⟨mf, f1, F⟩, ⟨tb, T, N, A⟩, kp, wd⟩ := h
  exact ⟨⟨mf, f1, F.grownK hk⟩, ⟨tb, T, N.grown hk, A⟩, kp, wd⟩

-- ARGUMENTS
noncomputable def EVs (C : Cx P) (Γ : GEnv) (es : List Expr) (ds : List D) : Prop :=
  ∀ (pos : Pos) ⦃kl : Led⦄ ⦃m : Str → Option Value⦄ ⦃fz mu : Led⦄ ⦃s : Shared⦄ ⦃Q : List Value → Shared → Prop⦄,
    EnvRep C kl m fz mu Γ → St C kl m fz mu s →
    (∀ fz' s' vs, fz ⊆ fz' → St C kl m fz' mu s' → Reps fz' vs ds → Q vs s') → wpAny (model P.prog P.w) C.A (spliced (backTo pos (starEach es C.env))) Q noE s
theorem EVs.nil : EVs C Γ [] [] := fun _ _ _ _ _ _ _ _ hS hQ => wpAny_items_nil (hQ _ _ _ (List.Subset.refl _) hS .nil)
theorem EVs.cons {e : Expr} {es : List Expr} {d : D} {ds : List D} (h : EV C Γ e d) (hs : EVs C Γ es ds) (he : ∀ env, starEach (e :: es) env = (false, eval e env) :: starEach es env := by intro _; rfl) : EVs C Γ (e :: es) (d :: ds) := by
  intro pos kl m fz mu s Q hE hS hQ
  exact wpAny_items_cons (h hE hS fun fz1 s1 v1 k1 S1 r1 => hs pos (hE.mono k1) S1 fun fz2 s2 v2 k2 S2 r2 => hQ _ _ _ (fun _ hp => k2 (k1 hp)) S2 (.cons (r1.mono k2) r2)) (he _)

-- DISPLAYS
theorem EV.list {es : List Expr} {pos : Pos} {ds : List D} (hs : EVs C Γ es ds) (hz : ds.length ≤ sizeLine := by size_fits) : EV C Γ (.List es pos) (.lst ds) := by
  intro kl m fz mu s Q hE hS hQ
  refine wpAny_List (hs pos hE hS fun fz1 s1 vs k1 S1 r1 => ⟨by rw [r1.length]; exact hz, ?_⟩)
  exact hQ _ _ _ (fun _ hp => List.mem_cons_of_mem _ (k1 hp)) (S1.push _) (.lst (n := 0) (.head _) (r1.mono (List.subset_cons_self _ _)))
theorem EV.tuple {es : List Expr} {kk : Nat} {pos : Pos} {ds : List D} (hs : EVs C Γ es ds) (hz : ds.length ≤ sizeLine := by size_fits) : EV C Γ (.Tuple es kk pos) (.tup ds) := by
  intro kl m fz mu s Q hE hS hQ
  refine wpAny_Tuple (hs pos hE hS fun fz1 s1 vs k1 S1 r1 => ⟨by rw [r1.length]; exact hz, ?_⟩)
  exact hQ _ _ _ (fun _ hp => List.mem_cons_of_mem _ (k1 hp)) (S1.push _) (.tup (n := 0) (.head _) (r1.mono (List.subset_cons_self _ _)))

-- CALLS
theorem hplain (pos : Pos) (es : List Expr) (env : Env) (h : (starEach es env).any (·.1) = false) : (backTo pos (starEach es env)).any (·.1) = false := by
  have : ∀ l : List (Bool × Sem Value), (backTo pos l).any (·.1) = l.any (·.1) := by
    intro l
    induction l with
    | nil => rfl
    | cons x l ih => show (x.1 || (backTo pos l).any (·.1)) = _; rw [ih]; rfl
  rw [this, h]

theorem EV.callB {f : Expr} {id : String} {e : Expr} {es : List Expr} {pos : Pos} {ds : List D} {d : D} (hf : EV C Γ f (.val (.builtin id))) (hs : EVs C Γ (e :: es) ds) (hc : CallOk C (.builtin id) ds d)
    (he : ∀ env, starEach (e :: es) env = (false, eval e env) :: starEach es env := by intro _; rfl) (hp : ∀ env, (starEach es env).any (·.1) = false := by intro _; rfl)
    (hv : ∀ env, eval (.Call f (e :: es) [] pos) env = (do callWith pos (← eval f env) [] (backTo pos (starEach (e :: es) env)) (backToKw pos (keywordEach [] env))) := by intro _; rfl) : EV C Γ (.Call f (e :: es) [] pos) d := by
  intro kl m fz mu s Q hE hS hQ
  refine Call_ (hf hE hS fun fz1 s1 v1 k1 S1 r1 => ?_) (hv _)
  obtain rfl := r1.val_inv
  exact PyProof.Rows.callWith_builtin1 (hs pos (hE.mono k1) S1 fun fz2 s2 vs k2 S2 r2 => hc S2 r2 fun fz3 s3 v3 k3 S3 r3 => hQ _ _ _ (fun _ hp => k3 (k2 (k1 hp))) S3 r3) (he _) (hplain pos es _ (hp _))
theorem EV.callT {f : Expr} {T : String} {e : Expr} {es : List Expr} {pos : Pos} {ds : List D} {d : D} (hf : EV C Γ f (.val (.type T))) (hs : EVs C Γ (e :: es) ds) (hc : CallOk C (.type T) ds d)
    (he : ∀ env, starEach (e :: es) env = (false, eval e env) :: starEach es env := by intro _; rfl) (hp : ∀ env, (starEach es env).any (·.1) = false := by intro _; rfl)
    (hv : ∀ env, eval (.Call f (e :: es) [] pos) env = (do callWith pos (← eval f env) [] (backTo pos (starEach (e :: es) env)) (backToKw pos (keywordEach [] env))) := by intro _; rfl) : EV C Γ (.Call f (e :: es) [] pos) d := by
  intro kl m fz mu s Q hE hS hQ
  refine Call_ (hf hE hS fun fz1 s1 v1 k1 S1 r1 => ?_) (hv _)
  obtain rfl := r1.val_inv
  exact PyProof.Rows.callWith_type1 (hs pos (hE.mono k1) S1 fun fz2 s2 vs k2 S2 r2 => hc S2 r2 fun fz3 s3 v3 k3 S3 r3 => hQ _ _ _ (fun _ hp => k3 (k2 (k1 hp))) S3 r3) (he _) (hplain pos es _ (hp _))
theorem EV.callK (O : CxOk C k) {f : Expr} {fv : Value} {e : Expr} {es : List Expr} {pos : Pos} {ds : List D} {d : D} (hk : keepIn P.K fv = true) (hf : EV C Γ f (.val fv)) (hs : EVs C Γ (e :: es) ds) (hc : CallOk C fv ds d)
    (he : ∀ env, starEach (e :: es) env = (false, eval e env) :: starEach es env := by intro _; rfl) (hp : ∀ env, (starEach es env).any (·.1) = false := by intro _; rfl)
    (hv : ∀ env, eval (.Call f (e :: es) [] pos) env = (do callWith pos (← eval f env) [] (backTo pos (starEach (e :: es) env)) (backToKw pos (keywordEach [] env))) := by intro _; rfl) : EV C Γ (.Call f (e :: es) [] pos) d := by
  intro kl m fz mu s Q hE hS hQ
  refine Call_ (hf hE hS fun fz1 s1 v1 k1 S1 r1 => ?_) (hv _)
  obtain rfl := r1.val_inv
  refine callWith_K (h₀ := C.g) O.X hk (hs pos (hE.mono k1) S1 fun fz2 s2 vs k2 S2 r2 => ⟨O.X.keeps S2.keep, ?_⟩) (he _) (hplain pos es _ (hp _))
  exact hc S2 r2 fun fz3 s3 v3 k3 S3 r3 => hQ _ _ _ (fun _ hp => k3 (k2 (k1 hp))) S3 r3

-- BUILT-IN FUNCTIONS
theorem CallOk.lenL {ds : List D} (hz : (ds.length : Int) < 2 ^ 63) : CallOk C (.builtin "len") [.lst ds] (.int ds.length) := by
  intro kl m fz mu s Q vs hS r hQ
  obtain ⟨v9, rfl, h⟩ := r.c1
  obtain ⟨l1, vs1, n1, rfl, m1, q1⟩ := h.lst_inv
  refine PyProof.Rows.len_list (hS.isList m1) (by rw [List.size_toArray, q1.length]; exact hz) (hQ _ _ _ (List.Subset.refl _) (hS.tok _) ?_)
  rw [List.size_toArray, q1.length]; exact .int _ _
theorem CallOk.lenT {ds : List D} (hz : (ds.length : Int) < 2 ^ 63) : CallOk C (.builtin "len") [.tup ds] (.int ds.length) := by
  intro kl m fz mu s Q vs hS r hQ
  obtain ⟨v9, rfl, h⟩ := r.c1
  obtain ⟨l1, vs1, n1, rfl, m1, q1⟩ := h.tup_inv
  refine PyProof.Rows.len_tuple (hS.isTup m1) (by rw [List.size_toArray, q1.length]; exact hz) (hQ _ _ _ (List.Subset.refl _) (hS.tok _) ?_)
  rw [List.size_toArray, q1.length]; exact .int _ _
theorem CallOk.max2 (O : CxOk C k) {a b : Int} : CallOk C (.builtin "max") [.int a, .int b] (.int (max a b)) := by
  intro kl m fz mu s Q vs hS r hQ
  obtain ⟨v1, v2, rfl, h1, h2⟩ := r.c2
  obtain ⟨t1, rfl⟩ := h1.int_inv
  obtain ⟨t2, rfl⟩ := h2.int_inv
  obtain ⟨mf, news, F, N, k1, k2, c1, c2, c3⟩ := hS.opn
  refine max_two_N O.hh F N fun h' tk F' N' => hQ _ _ _ (List.Subset.refl _) (c1 h' tk F' N') ?_
  have e : (if b > a then b else a) = max a b := by
    split
    · rename_i h; exact (Int.max_eq_right (Int.le_of_lt h)).symm
    · rename_i h; exact (Int.max_eq_left (Int.not_lt.mp h)).symm
  rw [e]; exact .int _ _
theorem CallOk.min2 (O : CxOk C k) {a b : Int} : CallOk C (.builtin "min") [.int a, .int b] (.int (min a b)) := by
  intro kl m fz mu s Q vs hS r hQ
  obtain ⟨v1, v2, rfl, h1, h2⟩ := r.c2
  obtain ⟨t1, rfl⟩ := h1.int_inv
  obtain ⟨t2, rfl⟩ := h2.int_inv
  obtain ⟨mf, news, F, N, k1, k2, c1, c2, c3⟩ := hS.opn
  refine min_two_N O.hh F N fun h' tk F' N' => hQ _ _ _ (List.Subset.refl _) (c1 h' tk F' N') ?_
  have e : (if b < a then b else a) = min a b := by
    split
    · rename_i h; exact (Int.min_eq_right (Int.le_of_lt h)).symm
    · rename_i h; exact (Int.min_eq_left (Int.not_lt.mp h)).symm
  rw [e]; exact .int _ _
theorem CallOk.maxL (O : CxOk C k) {ns : List Int} {M : Int} (hm : M ∈ ns) (hM : ∀ a ∈ ns, a ≤ M) : CallOk C (.builtin "max") [D.ints ns] (.int M) := by
  intro kl m fz mu s Q vs hS r hQ
  obtain ⟨v9, rfl, h⟩ := r.c1
  obtain ⟨l1, vs1, n1, rfl, m1, q1⟩ := h.lst_inv
  obtain ⟨mf, news, F, N, k1, k2, c1, c2, c3⟩ := hS.opn
  refine max_list_N O.hh F N (hS.isList m1) q1.ints (List.length_pos_of_mem hm) fun h' M' t tk F' N' a1 a2 => hQ _ _ _ (List.Subset.refl _) (c1 h' tk F' N') ?_
  have e : M' = M := Int.le_antisymm (hM _ a1) (a2 _ hm)
  rw [e]; exact .int _ _
theorem CallOk.minL (O : CxOk C k) {ns : List Int} {M : Int} (hm : M ∈ ns) (hM : ∀ a ∈ ns, M ≤ a) : CallOk C (.builtin "min") [D.ints ns] (.int M) := by
  intro kl m fz mu s Q vs hS r hQ
  obtain ⟨v9, rfl, h⟩ := r.c1
  obtain ⟨l1, vs1, n1, rfl, m1, q1⟩ := h.lst_inv
  obtain ⟨mf, news, F, N, k1, k2, c1, c2, c3⟩ := hS.opn
  refine min_list_N O.hh F N (hS.isList m1) q1.ints (List.length_pos_of_mem hm) fun h' M' t tk F' N' a1 a2 => hQ _ _ _ (List.Subset.refl _) (c1 h' tk F' N') ?_
  have e : M' = M := Int.le_antisymm (a2 _ hm) (hM _ a1)
  rw [e]; exact .int _ _
theorem CallOk.range1 {b : Int} : CallOk C (.type "range") [.int b] (.rng 0 b) := by
  intro kl m fz mu s Q vs hS r hQ
  obtain ⟨v1, rfl, h1⟩ := r.c1
  obtain ⟨t1, rfl⟩ := h1.int_inv
  exact call_range_1 (hQ _ _ _ (List.subset_cons_self _ _) ((hS.push _).tok _) (.rng (.head _)))
theorem CallOk.range2 {a b : Int} : CallOk C (.type "range") [.int a, .int b] (.rng a b) := by
  intro kl m fz mu s Q vs hS r hQ
  obtain ⟨v1, v2, rfl, h1, h2⟩ := r.c2
  obtain ⟨t1, rfl⟩ := h1.int_inv
  obtain ⟨t2, rfl⟩ := h2.int_inv
  exact call_range_2 (hQ _ _ _ (List.subset_cons_self _ _) ((hS.push _).tok _) (.rng (.head _)))
theorem CallOk.intF {x : UInt64} {sg : Bool} {mm : Nat} {e : Int} (hd : Float64.decode x = .fin sg mm e) : CallOk C (.type "int") [.flt x] (.int (Float64.truncOf sg mm e)) := by
  intro kl m fz mu s Q vs hS r hQ
  obtain ⟨v1, rfl, h1⟩ := r.c1
  obtain ⟨t1, rfl⟩ := h1.flt_inv
  exact call_int_float hd (hQ _ _ _ (List.Subset.refl _) (hS.tok _) (.int _ _))
theorem CallOk.tupleL {ds : List D} (hz : ds.length ≤ sizeLine) : CallOk C (.type "tuple") [.lst ds] (.tup ds) := by
  intro kl m fz mu s Q vs hS r hQ
  obtain ⟨v9, rfl, h⟩ := r.c1
  obtain ⟨l1, vs1, n1, rfl, m1, q1⟩ := h.lst_inv
  refine call_tuple_list (hS.isList m1) (fun h' hk => ?_) (by rw [List.size_toArray, q1.length]; exact hz)
  exact hQ _ _ _ (List.subset_cons_self _ _) ((hS.grown hk s.toks).push _) (.tup (n := 0) (.head _) (q1.mono (List.subset_cons_self _ _)))

-- ITEMS
noncomputable def LetGo (e : Expr) : Prop := ∀ a r, letTemporaryGo e (.ref a) r = pure ()
noncomputable def SubOk (sl : Expr) : Prop := ∀ a k u, subscripted sl false (.ref a) (.int k u) = operate [.ref a, .int k u] (getItem (.ref a) (.int k u))
theorem EV.item {e sl : Expr} {pos : Pos} {ds : List D} {i : Int} {d : D} (h1 : EV C Γ e (.lst ds)) (h2 : EV C Γ sl (.int i)) (h0 : 0 ≤ i) (hz : i < 2 ^ 63) (hd : ds[i.toNat]? = some d)
    (hs : SubOk sl := by intro _ _ _; with_unfolding_all rfl) (hg : LetGo e := by intro _ _; with_unfolding_all rfl) : EV C Γ (.Subscript e sl pos) d := by
  intro kl m fz mu s Q hE hS hQ
  refine Subscript_ (h1 hE hS fun fz1 s1 v1 k1 S1 r1 => h2 (hE.mono k1) S1 fun fz2 s2 v2 k2 S2 r2 => ?_)
  obtain ⟨l1, vs1, n1, rfl, m1, q1⟩ := r1.lst_inv
  obtain ⟨u, rfl⟩ := r2.int_inv
  obtain ⟨v, e1, e2⟩ := q1.get hd
  exact item_list (S2.isList (k2 m1)) h0 hz (by simpa using e1) (hQ _ _ _ (fun _ hp => k2 (k1 hp)) S2 (e2.mono k2)) (hs _ _ _) (hg _)
theorem EV.itemT {e sl : Expr} {pos : Pos} {ds : List D} {i : Int} {d : D} (h1 : EV C Γ e (.tup ds)) (h2 : EV C Γ sl (.int i)) (h0 : 0 ≤ i) (hz : i < ds.length) (hd : ds[i.toNat]? = some d) (hl : (ds.length : Int) < 2 ^ 62)
    (hs : SubOk sl := by intro _ _ _; with_unfolding_all rfl) (hg : LetGo e := by intro _ _; with_unfolding_all rfl) : EV C Γ (.Subscript e sl pos) d := by
  intro kl m fz mu s Q hE hS hQ
  refine Subscript_ (h1 hE hS fun fz1 s1 v1 k1 S1 r1 => h2 (hE.mono k1) S1 fun fz2 s2 v2 k2 S2 r2 => ?_)
  obtain ⟨l1, vs1, n1, rfl, m1, q1⟩ := r1.tup_inv
  obtain ⟨u, rfl⟩ := r2.int_inv
  obtain ⟨v, e1, e2⟩ := q1.get hd
  refine item_tupleL (S2.isTup (k2 m1)) (by omega) (by omega) (j := i.toNat) ?_ e1 (hQ _ _ _ (fun _ hp => k2 (k1 hp)) S2 (e2.mono k2)) (hs _ _ _) (hg _)
  rw [q1.length]
  unfold seqIndex?
  simp only [Int.not_lt.mpr h0, if_false]
  first | rw [if_pos (by omega)] | (simp; omega)

-- SLICES
inductive PV (C : Cx P) (Γ : GEnv) : Option Expr → Option Int → Prop
  | no : PV C Γ none none
  | so {e : Expr} {i : Int} : EV C Γ e (.int i) → PV C Γ (some e) (some i)
theorem PV.run {o : Option Expr} {i : Option Int} (h : PV C Γ o i) {Q : Value → Shared → Prop} (hE : EnvRep C kl m fz mu Γ) (hS : St C kl m fz mu s)
    (hQ : ∀ fz' s' v, fz ⊆ fz' → St C kl m fz' mu s' → IsPart v i → Q v s') : wpAny (model P.prog P.w) C.A (evalPart o C.env) Q noE s := by
  cases h with
  | no => exact wpAny_pure (hQ _ _ _ (List.Subset.refl _) hS .none)
  | so h => exact h hE hS fun fz1 s1 v1 k1 S1 r1 => by obtain ⟨t9, rfl⟩ := r1.int_inv; exact hQ _ _ _ k1 S1 (.int _ _)
noncomputable def SlOk (e sl : Expr) : Prop := ∀ a b, ∃ ops, subscripted sl false (.ref a) (.ref b) = operate ops (getItem (.ref a) (.ref b))
theorem Reps.places {fz : Led} {vs : List Value} {ds : List D} (h : Reps fz vs ds) : ∀ is : List Nat, Reps fz (is.filterMap (vs[·]?)) (is.filterMap (ds[·]?))
  | [] => .nil
  | i :: is => by
    rw [List.filterMap_cons, List.filterMap_cons]
    cases e : ds[i]? with
    | none =>
      have : vs[i]? = none := by rw [List.getElem?_eq_none_iff] at e ⊢; rw [h.length]; exact e
      rw [this]; exact h.places is
    | some d =>
      obtain ⟨v, e1, e2⟩ := h.get e
      rw [e1]; exact .cons e2 (h.places is)
noncomputable def pickD (ds : List D) (lo hi st : Option Int) : List D := (sliceRange (sliceBounds lo hi st ds.length).1 (sliceBounds lo hi st ds.length).2.1 (sliceBounds lo hi st ds.length).2.2).filterMap (ds[·]?)
theorem EV.slice {e : Expr} {o1 o2 o3 : Option Expr} {p pos : Pos} {ds : List D} {lo hi st : Option Int} (h1 : EV C Γ e (.lst ds)) (a1 : PV C Γ o1 lo) (a2 : PV C Γ o2 hi) (a3 : PV C Γ o3 st) (h0 : st ≠ some 0) (hz : ds.length ≤ sizeLine)
    (hs : SlOk e (.Slice o1 o2 o3 p) := by exact fun _ _ => ⟨_, by with_unfolding_all rfl⟩) (hg : LetGo e := by intro _ _; with_unfolding_all rfl) : EV C Γ (.Subscript e (.Slice o1 o2 o3 p) pos) (.lst (pickD ds lo hi st)) := by
  intro kl m fz mu s Q hE hS hQ
  refine Subscript_ (h1 hE hS fun fz1 s1 v1 k1 S1 r1 => wpAny_Slice (a1.run (hE.mono k1) S1 fun fz2 s2 v2 k2 S2 p2 => a2.run ((hE.mono k1).mono k2) S2 fun fz3 s3 v3 k3 S3 p3 => a3.run (((hE.mono k1).mono k2).mono k3) S3 fun fz4 s4 v4 k4 S4 p4 => ?_))
  obtain ⟨l1, vs9, n9, rfl, m1, q1⟩ := r1.lst_inv
  obtain ⟨mf, news, F, N, n1, n2, c1, c2, c3⟩ := S4.opn
  obtain ⟨ops, ho⟩ := hs _ s4.heap.objs.size
  refine slice_list3 F N (S4.isList (k4 (k3 (k2 m1)))) p2 p3 p4 h0 (fun h' F' N' => ?_) ho (hg _) (by rw [List.size_toArray, q1.length]; exact hz)
  refine hQ _ _ _ (fun _ hp => List.mem_cons_of_mem _ (k4 (k3 (k2 (k1 hp))))) (c2 h' s4.toks _ _ F' N' fun p hp => Nat.lt_succ_of_lt (News.lt N p hp)) (.lst (n := 0) (vs := (slicePick vs9.toArray lo hi st).toList) ?_ ?_)
  · rw [lstObj, Array.toArray_toList]; exact .head _
  · have q := ((q1.mono k2).mono k3).mono k4
    have e : (slicePick vs9.toArray lo hi st).toList = (sliceRange (sliceBounds lo hi st ds.length).1 (sliceBounds lo hi st ds.length).2.1 (sliceBounds lo hi st ds.length).2.2).filterMap (vs9[·]?) := by
      simp only [slicePick, List.size_toArray, q1.length, List.toList_toArray, List.getElem?_toArray]
    rw [e]
    exact (q.places _).mono (List.subset_cons_self _ _)
end
end Mine
end

section
open PySem PySem.W PyProof.Rows PySem.Calls
set_option maxRecDepth 100000
namespace Mine
section
variable {P : Wd} {C : Cx P} {Γ Γ' : GEnv} {k : Nat} {kl : Led} {m : Str → Option Value} {fz mu : Led} {s : Shared} {N N1 : GEnv → Prop} {R : D → Prop} {B : GEnv → Prop}

-- STORES
theorem cells_inj {l : List (Str × Addr)} (hn : (l.map (·.2)).Nodup) {x y : Str} {c : Addr} (hx : l.lookup x = some c) (hy : l.lookup y = some c) : x = y := by
  induction l with
  | nil => simp at hx
  | cons p l ih =>
    obtain ⟨z, d⟩ := p
    rw [List.map_cons, List.nodup_cons] at hn
    rw [List.lookup_cons] at hx hy
    have mem : ∀ w, l.lookup w = some c → c ∈ l.map (·.2) := fun w e => List.mem_map.mpr ⟨(w, c), PySem.mem_of_lookup e, rfl⟩
    cases h1 : x == z with
    | true =>
      rw [h1] at hx; cases hx
      cases h2 : y == z with
      | true => exact (eq_of_beq h1).trans (eq_of_beq h2).symm
      | false => rw [h2] at hy; exact absurd (mem y hy) hn.1
    | false =>
      rw [h1] at hx
      cases h2 : y == z with
      | true => rw [h2] at hy; cases hy; exact absurd (mem x hx) hn.1
      | false => rw [h2] at hy; exact ih hn.2 hx hy

/-- the name may be stored -/
noncomputable def CanSt (C : Cx P) (x : Str) : Prop := C.cm = none ∧ ((C.env.kindOf x = some .local ∧ C.env.cells.lookup x = none) ∨ (C.env.kindOf x = some .cell ∧ ∃ c, C.env.cells.lookup x = some c))

noncomputable def gdrop (Γ : GEnv) (x : Str) : GEnv := fun y => if y = x then none else Γ y
noncomputable def gput (Γ : GEnv) (x : Str) (g : G) : GEnv := fun y => if y = x then some g else Γ y

theorem store_gen (O : CxOk C k) {x : Str} (hc : CanSt C x) {v : Value} {g : G} (hE : EnvRep C kl m fz mu Γ) (hS : St C kl m fz mu s) (hr : GRep fz mu kl v g)
    (hg : ∀ a ds, g = .ml a ds → ∀ y es, y ≠ x → Γ y ≠ some (.ml a es)) (hgl : C.env.cells.lookup x = none ∨ ∃ d, g = .d d) {Q : Unit → Shared → Prop}
    (hQ : ∀ m' mu' s', EnvRep C kl m' fz mu' (gput Γ x g) → St C kl m' fz mu' s' → Q () s') : wpAny (model P.prog P.w) C.A (storeName C.env x v) Q noE s := by
  obtain ⟨hcm, hc⟩ := hc
  have inj' : ∀ (y z : Str) (a : Addr) (ds es : List D), gput Γ x g y = some (.ml a ds) → gput Γ x g z = some (.ml a es) → y = z := by
    intro y z a ds es e1 e2
    unfold gput at e1 e2
    by_cases h1 : y = x
    · rw [if_pos h1] at e1
      by_cases h2 : z = x
      · rw [h1, h2]
      · rw [if_neg h2] at e2
        exact absurd e2 (hg a ds (Option.some.inj e1) z es h2)
    · rw [if_neg h1] at e1
      by_cases h2 : z = x
      · rw [if_pos h2] at e2
        exact absurd e1 (hg a es (Option.some.inj e2) y ds h1)
      · rw [if_neg h2] at e2
        exact hE.inj y z a ds es e1 e2
  rcases hc with ⟨hk, hl⟩ | ⟨hk, c, hl⟩
  · have hloc := O.loc hcm
    refine wpAny_storeName_local hk (hS.ns O) (fun h' hn hs => ?_) (by rw [O.kind]; rfl)
    refine hQ (fun y => if y = x then some v else m y) mu _ ⟨fun y g' e => ?_, inj', hE.cel⟩ ?_
    · unfold gput at e
      by_cases hy : y = x
      · rw [if_pos hy] at e; cases e
        refine ⟨v, ?_, hr⟩
        unfold Holds; rw [hy, hl]; simp
      · rw [if_neg hy] at e
        obtain ⟨u, h1, h2⟩ := hE.at_ y g' e
        refine ⟨u, ?_, h2⟩
        unfold Holds at h1 ⊢
        split at h1 <;> rename_i q
        · simpa [hy] using h1
        · exact h1
    · obtain ⟨⟨mf, f1, F⟩, ⟨tb, T, N0, A⟩, kp, wd⟩ := hS
      rw [hloc] at hn hs
      refine ⟨⟨fun y => if y = x then some v else m y, ?_, F.set hn hs⟩, ⟨tb, T, N0.set hs, A⟩, kp, wd⟩
      unfold Fm; rw [hcm]
  · obtain ⟨o, w0, hm, hd, hkl⟩ := hE.cel x c hl
    refine wpAny_storeName_cell O.kind hk hl ⟨o, hS.atM hm, hd⟩ fun h' hv hs => ?_
    obtain ⟨o', ho', hd'⟩ := hv
    have hS' := hS.upd (o' := o') hm (hkl hk) (fun q => absurd hcm q) hs ho' s.toks
    rcases hgl with hgl | ⟨d, rfl⟩
    · rw [hl] at hgl; cases hgl
    refine hQ m (mset mu c o') _ ⟨fun y g' e => ?_, inj', fun y c' e => ?_⟩ hS'
    · have nc : ∀ a vs n, (a, lstObj vs n) ∈ mu → a ≠ c := fun a vs n h1 q => by
        have := hS.atM h1
        rw [q, hS.atM hm] at this
        cases this; cases hd
      unfold gput at e
      by_cases hy : y = x
      · rw [if_pos hy] at e; cases e
        refine ⟨v, ?_, hr⟩
        unfold Holds; rw [hy, hl]; exact ⟨o', mem_mset_self hm, hd'⟩
      · rw [if_neg hy] at e
        obtain ⟨u, h1, h2⟩ := hE.at_ y g' e
        refine ⟨u, ?_, ?_⟩
        · unfold Holds at h1 ⊢
          split at h1 <;> rename_i q
          · exact h1
          · rename_i c2
            obtain ⟨ob, hb1, hb2⟩ := h1
            exact ⟨ob, mem_mset_ne hb1 fun z => hy (cells_inj O.cnd (z ▸ q) hl), hb2⟩
        · cases g' with
          | d _ => exact h2
          | ml a ds =>
            obtain ⟨e1, e2, vs, n, e3, e4⟩ := h2
            exact ⟨e1, e2, vs, n, mem_mset_ne e3 (nc _ _ _ e3), e4⟩
    · obtain ⟨ob, w1, b1, b2, b3⟩ := hE.cel y c' e
      by_cases hcc : c' = c
      · subst hcc; exact ⟨o', _, mem_mset_self hm, hd', fun q => b3 q⟩
      · exact ⟨ob, w1, mem_mset_ne b1 hcc, b2, b3⟩

theorem gput_d (Γ : GEnv) (x : Str) (d : D) : gput Γ x (.d d) = Γ.set x d := rfl
theorem gput_m (Γ : GEnv) (x : Str) (a : Addr) (ds : List D) : gput Γ x (.ml a ds) = Γ.setM x a ds := rfl

theorem store_d (O : CxOk C k) {x : Str} (hc : CanSt C x) {v : Value} {d : D} (hE : EnvRep C kl m fz mu Γ) (hS : St C kl m fz mu s) (hr : Rep fz v d) {Q : Unit → Shared → Prop}
    (hQ : ∀ m' mu' s', EnvRep C kl m' fz mu' (Γ.set x d) → St C kl m' fz mu' s' → Q () s') : wpAny (model P.prog P.w) C.A (storeName C.env x v) Q noE s :=
  store_gen O hc (g := .d d) hE hS hr (fun a ds q => by cases q) (.inr ⟨d, rfl⟩) hQ

-- BLOCKS
theorem SG.mono {t : Sem Flow} {N' : GEnv → Prop} {R' : D → Prop} {B' : GEnv → Prop} (h : SG C Γ t N R B) (hN : ∀ g, N g → N' g) (hR : ∀ d, R d → R' d) (hB : ∀ g, B g → B' g) : SG C Γ t N' R' B' :=
  fun kl m fz mu s Q hE hS h1 h2 h3 => h hE hS (fun m' fz' mu' s' G k n => h1 m' fz' mu' s' G k (hN _ n)) (fun m' fz' mu' s' v d k r => h2 m' fz' mu' s' v d k (hR _ r)) (fun m' fz' mu' s' G k n => h3 m' fz' mu' s' G k (hB _ n))
theorem SG.sub {t : Sem Flow} (h : SG C Γ' t N R B) (k : ∀ x g, Γ' x = some g → Γ x = some g) : SG C Γ t N R B := fun _ _ _ _ _ _ hE hS => h (hE.sub k) hS
theorem SS.nil (h : N Γ) : SS C Γ [] N R B := fun kl m fz mu s Q hE hS h1 _ _ => wpAny_execs_nil (h1 _ _ _ _ _ (List.Subset.refl _) h hE hS)
theorem SS.cons {st : Stmt} {rest : List Stmt} (h1 : S1 C Γ st N1 R B) (h2 : ∀ Γ1, N1 Γ1 → SS C Γ1 rest N R B) : SS C Γ (st :: rest) N R B := by
  intro kl m fz mu s Q hE hS q1 q2 q3
  refine wpAny_execs_cons (h1 hE hS (fun m1 fz1 mu1 s1 Γ1 k1 n1 E1 S1 => ?_) (fun m1 fz1 mu1 s1 v d k1 r1 rep S1 => q2 _ _ _ _ _ _ k1 r1 rep S1) (fun m1 fz1 mu1 s1 Γ1 k1 n1 E1 S1 => q3 _ _ _ _ _ k1 n1 E1 S1))
  exact h2 Γ1 n1 E1 S1 (fun m2 fz2 mu2 s2 Γ2 k2 => q1 _ _ _ _ _ (fun _ hp => k2 (k1 hp))) (fun m2 fz2 mu2 s2 v d k2 => q2 _ _ _ _ _ _ (fun _ hp => k2 (k1 hp))) (fun m2 fz2 mu2 s2 Γ2 k2 => q3 _ _ _ _ _ (fun _ hp => k2 (k1 hp)))
theorem SS.one {st : Stmt} {rest : List Stmt} (h1 : S1 C Γ st (fun g => g = Γ') R B) (h2 : SS C Γ' rest N R B) : SS C Γ (st :: rest) N R B := SS.cons h1 fun _ e => e ▸ h2

-- STATEMENTS
theorem S1.assign (O : CxOk C k) {x : Str} {p pos : Pos} {e : Expr} {d : D} (hc : CanSt C x) (he : EV C Γ e d) (hs : ∀ env, swapsWith e (some (.Name x p)) pos.line env = pure false := by intro _; rfl) :
    S1 C Γ (.Assign [.Name x p] e pos) (fun g => g = Γ.set x d) R B := by
  intro kl m fz mu s Q hE hS q1 q2 q3
  exact wpAny_Assign_Name (he hE hS fun fz1 s1 v1 k1 S1 r1 => store_d O hc (hE.mono k1) S1 r1 fun m' mu' s' E' S' => q1 _ _ _ _ _ k1 rfl E' S') (hs _)
theorem S1.ret {e : Expr} {pos : Pos} {d : D} (he : EV C Γ e d) (hR : R d) : S1 C Γ (.Return (some e) pos) N R B := by
  intro kl m fz mu s Q hE hS q1 q2 q3
  exact wpAny_Return_some (he hE hS fun fz1 s1 v1 k1 S1 r1 => q2 _ _ _ _ _ _ k1 hR r1 S1)
theorem S1.brk {pos : Pos} (h : B Γ) : S1 C Γ (.Break pos) N R B := by
  intro kl m fz mu s Q hE hS q1 q2 q3
  exact wpAny_Break (q3 _ _ _ _ _ (List.Subset.refl _) h hE hS)
theorem S1.ite {test : Expr} {body orelse : List Stmt} {pos : Pos} {b : Bool} (ht : TV C Γ test b) (h1 : b = true → SS C Γ body N R B) (h2 : b = false → SS C Γ orelse N R B) : S1 C Γ (.If test body orelse pos) N R B := by
  intro kl m fz mu s Q hE hS q1 q2 q3
  refine wpAny_If (ht hE hS fun fz1 s1 k1 S1 => ?_)
  cases b with
  | true => exact h1 rfl (hE.mono k1) S1 (fun m2 fz2 mu2 s2 Γ2 k2 => q1 _ _ _ _ _ (fun _ hp => k2 (k1 hp))) (fun m2 fz2 mu2 s2 v d k2 => q2 _ _ _ _ _ _ (fun _ hp => k2 (k1 hp))) (fun m2 fz2 mu2 s2 Γ2 k2 => q3 _ _ _ _ _ (fun _ hp => k2 (k1 hp)))
  | false => exact h2 rfl (hE.mono k1) S1 (fun m2 fz2 mu2 s2 Γ2 k2 => q1 _ _ _ _ _ (fun _ hp => k2 (k1 hp))) (fun m2 fz2 mu2 s2 v d k2 => q2 _ _ _ _ _ _ (fun _ hp => k2 (k1 hp))) (fun m2 fz2 mu2 s2 Γ2 k2 => q3 _ _ _ _ _ (fun _ hp => k2 (k1 hp)))

/-- names taken in order -/
theorem assigns (O : CxOk C k) : ∀ {xs : List (Str × Pos)} {vs : List Value} {ds : List D} {Γ : GEnv} {m : Str → Option Value} {fz mu : Led} {s : Shared} {Q : Unit → Shared → Prop},
    (∀ x ∈ xs, CanSt C x.1) → EnvRep C kl m fz mu Γ → St C kl m fz mu s → Reps fz vs ds → xs.length = ds.length →
    (∀ m' mu' s', EnvRep C kl m' fz mu' ((xs.zip ds).foldl (fun G p => G.set p.1.1 p.2) Γ) → St C kl m' fz mu' s' → Q () s') →
    wpAny (model P.prog P.w) C.A (assignInOrder (xs.map fun x => PySem.assign (.Name x.1 x.2) C.env) vs) Q noE s
  | [], _, _, _, _, _, _, _, _, _, hE, hS, .nil, _, hQ => assignInOrder_nil (hQ _ _ _ hE hS)
  | x :: xs, _, _, _, _, _, _, _, _, hc, hE, hS, .cons r rs, hl, hQ => by
    refine assignInOrder_cons (PyProof.Rows.assign_Name (store_d O (hc x (.head _)) hE hS r fun m' mu' s' E' S' => ?_))
    exact assigns O (fun y hy => hc y (.tail _ hy)) E' S' rs (by simpa using hl) hQ
theorem S1.unpackT (O : CxOk C k) {xs : List (Str × Pos)} {elts : List Expr} {kk : Nat} {p pos : Pos} {e : Expr} {ds : List D} (hel : elts = xs.map fun x => .Name x.1 x.2) (hc : ∀ x ∈ xs, CanSt C x.1) (he : EV C Γ e (.tup ds)) (hl : xs.length = ds.length)
    (hs : ∀ env, swapsWithSole [.Tuple elts kk p] e pos.line env = pure false := by intro _; rfl) (hw : ∀ env, swappedStores [.Tuple elts kk p] e env = pure none := by intro _; rfl)
    (ha : ∀ env, (assignEach elts env).map (·.2) = xs.map (fun x => PySem.assign (.Name x.1 x.2) env) ∧ (assignEach elts env).findIdx? (·.1) = none := by intro _; exact ⟨rfl, rfl⟩) :
    S1 C Γ (.Assign [.Tuple elts kk p] e pos) (fun g => g = (xs.zip ds).foldl (fun G p => G.set p.1.1 p.2) Γ) R B := by
  intro kl m fz mu s Q hE hS q1 q2 q3
  refine Assign_Tuple (he hE hS fun fz1 s1 v1 k1 S1 r1 => ?_) (hs _) (hw _)
  obtain ⟨a, vs, n, rfl, m1, rs⟩ := r1.tup_inv
  obtain ⟨mf, news, F, N, n1, n2, c1, c2, c3⟩ := S1.opn
  refine unpackN_ F N (S1.isTup m1) O.hh ?_ (ha _).2 fun h' F' N' => ?_
  · have := congrArg List.length (ha C.env).1
    rw [List.length_map, List.length_map] at this
    rw [this, List.size_toArray, rs.length, hl]
  · rw [(ha C.env).1]
    exact assigns O hc (hE.mono k1) (c1 h' s1.toks F' N') rs hl fun m' mu' s' E' S' => q1 _ _ _ _ _ k1 rfl E' S'
theorem S1.unpackL (O : CxOk C k) {xs : List (Str × Pos)} {elts : List Expr} {kk : Nat} {p pos : Pos} {e : Expr} {ds : List D} (hel : elts = xs.map fun x => .Name x.1 x.2) (hc : ∀ x ∈ xs, CanSt C x.1) (he : EV C Γ e (.lst ds)) (hl : xs.length = ds.length)
    (hs : ∀ env, swapsWithSole [.Tuple elts kk p] e pos.line env = pure false := by intro _; rfl) (hw : ∀ env, swappedStores [.Tuple elts kk p] e env = pure none := by intro _; rfl)
    (ha : ∀ env, (assignEach elts env).map (·.2) = xs.map (fun x => PySem.assign (.Name x.1 x.2) env) ∧ (assignEach elts env).findIdx? (·.1) = none := by intro _; exact ⟨rfl, rfl⟩) :
    S1 C Γ (.Assign [.Tuple elts kk p] e pos) (fun g => g = (xs.zip ds).foldl (fun G p => G.set p.1.1 p.2) Γ) R B := by
  intro kl m fz mu s Q hE hS q1 q2 q3
  refine Assign_Tuple (he hE hS fun fz1 s1 v1 k1 S1 r1 => ?_) (hs _) (hw _)
  obtain ⟨a, vs, n, rfl, m1, rs⟩ := r1.lst_inv
  obtain ⟨mf, news, F, N, n1, n2, c1, c2, c3⟩ := S1.opn
  refine kun_list F N (S1.isList m1) O.hh ?_ (ha _).2 fun h' F' N' => ?_
  · have := congrArg List.length (ha C.env).1
    rw [List.length_map, List.length_map] at this
    rw [this, List.size_toArray, rs.length, hl]
  · rw [(ha C.env).1]
    exact assigns O hc (hE.mono k1) (c1 h' s1.toks F' N') rs hl fun m' mu' s' E' S' => q1 _ _ _ _ _ k1 rfl E' S'
end
end Mine
end

section
open PySem PySem.W PyProof.Rows PySem.Calls
set_option maxRecDepth 100000
namespace Mine
section
variable {P : Wd} {C : Cx P} {Γ Γ' : GEnv} {k : Nat} {kl : Led} {m : Str → Option Value} {fz mu : Led} {s : Shared}

noncomputable def Γof (bs : List (Str × D)) : GEnv := fun y => (bs.reverse.lookup y).map .d

theorem zip_look : ∀ {names : List Str} {vs : List Value} {ds : List D}, Reps fz vs ds → ∀ {y : Str} {d : D}, (names.zip ds).reverse.lookup y = some d → ∃ v, (names.zip vs).reverse.lookup y = some v ∧ Rep fz v d
  | [], _, _, _, _, _, e => by simp at e
  | x :: names, _, _, .nil, _, _, e => by simp at e
  | x :: names, v :: vs, d0 :: ds, .cons h r, y, d, e => by
    rw [List.zip_cons_cons, List.reverse_cons, List.lookup_append] at e ⊢
    cases q : (names.zip ds).reverse.lookup y with
    | some d1 =>
      rw [q] at e
      obtain ⟨w, a, b⟩ := zip_look r q
      rw [a]
      cases e; exact ⟨w, rfl, b⟩
    | none =>
      rw [q] at e
      have hn : ∀ {vs : List Value} {ds : List D}, vs.length = ds.length → (names.zip ds).reverse.lookup y = none → (names.zip vs).reverse.lookup y = none := by
        intro vs ds hl
        rw [List.lookup_eq_none_iff, List.lookup_eq_none_iff]
        intro h p hp
        obtain ⟨z, v⟩ := p
        rw [List.mem_reverse] at hp
        obtain ⟨i, hi, e2⟩ := List.mem_iff_getElem.mp hp
        rw [List.getElem_zip] at e2
        have hi' : i < (names.zip ds).length := by rw [List.length_zip] at hi ⊢; lia
        have := h (names.zip ds)[i] (List.mem_reverse.mpr (List.getElem_mem hi'))
        rw [List.getElem_zip] at this
        rw [← (Prod.mk.inj e2).1]; exact this
      rw [hn r.length q]
      simp only [Option.none_or, List.lookup_cons, List.lookup_nil] at e ⊢
      cases hy : y == x with
      | true => rw [hy] at e; cases e; exact ⟨v, rfl, h⟩
      | false => rw [hy] at e; cases e

theorem Apart.keep {fz fz2 mu mu2 tb tb2 : Led} (A : Apart fz (mu ++ tb)) (A2 : Apart fz2 (mu2 ++ tb2)) (k : mu ⊆ mu2) : Apart fz2 (mu ++ tb2) := by
  refine ⟨?_, fun p hp q hq => A2.2 p hp q ?_⟩
  · have n1 := A.1
    have n2 := A2.1
    rw [List.map_append, List.nodup_append] at n1 n2 ⊢
    refine ⟨n1.1, n2.2.1, fun a ha b hb => ?_⟩
    obtain ⟨p, hp, rfl⟩ := List.mem_map.mp ha
    exact n2.2.2 p.1 (List.mem_map_of_mem (k hp)) b hb
  · rcases List.mem_append.mp hq with h | h
    · exact List.mem_append_left _ (k h)
    · exact List.mem_append_right _ h

theorem CxOk.callee (O : CxOk C k) {g : Heap} {L' f : Addr} {qual : Str} {scope : Scope} {cdv : Value} {cl : List (Str × Addr)} {mf : Str → Option Value} {base : Heap} {outer : List Env} (hA : C.A.frames = some (C.fenv :: outer)) (B' : Below C.A base (C.fenv :: outer) g)
    (FG : Fr C.g C.L g mf) (hk : scope.kind = .function) (hn : (cl.map (·.2)).Nodup) : CxOk (P := P) { A := C.A.deeper (envX qual scope L' f cdv cl), env := envX qual scope L' f cdv cl, fenv := envX qual scope L' f cdv cl, L := L', g := g, cm := none } (k + 1) := by
  refine ⟨⟨C.A, base, C.fenv :: outer, B', Around.frames_deeper hA⟩, O.X.keeps FG.keep, O.T.keeps FG.keep, hk, hk, rfl, rfl, fun _ => rfl, O.hh, Nat.succ_le_succ O.dep, ?_, ?_, hn⟩
  · have := O.uni
    show C.A.units + 3 ≤ 10 * (k + 1)
    lia
  · have : ∀ l : List (Addr × Addr), CodeAll l C.g → CodeAll l g := by
      intro l
      induction l with
      | nil => exact fun _ => trivial
      | cons q r ih => exact fun x => ⟨x.1.keeps FG.keep, ih x.2⟩
    exact this _ O.ca

/-- a call of a def of the text -/
theorem CallOk.plain (O : CxOk C k) (hroom : k < 900) {f : Addr} {name qual : Str} {params : Arguments} {body : List Stmt} {scope : Scope} {dV kV doc pm cdv ct oc : Value} {an od : Option Addr} {osl : Array (Option Value)}
    (ho : P.K.lookup f = some ⟨oc, od, .func (fnOf name qual params body scope dV kV doc pm an cdv ct), osl⟩) (hcd : codeIn P.K cdv qual = true) {names : List Str} {ds : List D} {kw : List (Str × Value)} {d : D}
    (hb : ∀ (s : Shared) (vs : List Value), P.K.In s.heap → vs.length = ds.length → BindsTo s (fnOf name qual params body scope dV kV doc pm an cdv ct) ⟨vs, []⟩ (names.zip vs))
    (hl : names.length = ds.length) (hloc : ∀ y ∈ names, scope.names.lookup y = some .local) (hcell : ∀ x ∈ scope.names, x.2 ≠ .cell)
    (hbody : ∀ C' : Cx P, CxOk C' (k + 1) → C'.cm = none → C'.env.scope = scope → C'.env.cells = [] → C'.env.builtins = builtinsNs → SS C' (Γof (names.zip ds)) body (fun _ => d = .none) (fun r => r = d) (fun _ => False))
    (hco : scope.isCoroutine = false := by rfl) (hgen : scope.isGenerator = false := by rfl) (hk : scope.kind = .function := by rfl) : CallOk C (.ref f) ds d := by
  intro kl m fz mu s Q vs hS hr hQ
  obtain ⟨A₀, base, outer, B, hA⟩ := O.below
  obtain ⟨⟨mf, f1, F⟩, ⟨tb, T, N, Ap⟩, kp, wd⟩ := id hS
  refine wpAny_call (code_def (R := fun r s' => match r with | .ok (.ret v) => Q v s' | .ok _ => False | .error e => noE e s') (binds := names.zip vs) B F O.X N O.T hA O.fr O.fkind ho hcd ?_ (hb s vs (O.X.keeps F.keep) hr.length) ?_ (fun g L' h₁ FG F' N' B' X' T' => ?_) hco hgen hk hcell)
  · have := O.dep; show C.A.depth < 1000; lia
  · intro y hy
    exact hloc y.1 (List.of_mem_zip hy).1
  · have O' := O.callee (qual := qual) (f := f) (cdv := cdv) (L' := L') (cl := []) hA B' FG hk List.nodup_nil
    refine wpAny_mono (hbody _ O' rfl rfl rfl rfl (kl := mu) (m := fun y => (names.zip vs).reverse.lookup y) (fz := fz) (mu := mu) (s := { s with heap := h₁, toks := s.toks + (names.zip vs).length })
      (Q := fun fl s' => LeaveK C.g C.L mf g (fun r s' => match r with | .ok (.ret v) => Q v s' | .ok _ => False | .error e => noE e s') (match fl with | .ret v => v | _ => .none) s')
      ⟨fun y gg e => ?_, fun y z a es es' e _ => ?_, fun x c e => ?_⟩ ⟨⟨_, rfl, F'⟩, ⟨tb, T, N', Ap⟩, List.Subset.refl _, wd⟩ ?_ ?_ ?_) (fun _ _ q => q) (fun _ _ x => x.elim)
    · unfold Γof at e
      cases q : (names.zip ds).reverse.lookup y with
      | none => rw [q] at e; cases e
      | some d1 =>
        rw [q] at e; cases e
        obtain ⟨v, a, b⟩ := zip_look hr q
        exact ⟨v, a, b⟩
    · unfold Γof at e
      cases q : (names.zip ds).reverse.lookup y <;> rw [q] at e <;> cases e
    · cases e
    · rintro m2 fz2 mu2 s2 Γ2 k2 rfl E2 S2
      obtain ⟨⟨mf2, g1, F2⟩, ⟨tb2, T2, N2, Ap2⟩, kp2, wd2⟩ := S2
      refine leaveK_ (R := fun r s' => match r with | .ok (.ret v) => Q v s' | .ok _ => False | .error e => noE e s') F2 N2 fun F3 N3 => hQ fz2 s2 .none k2 ⟨⟨mf, f1, F3⟩, ⟨tb2, T2, fun p hp => N3 p ?_, Ap.keep Ap2 kp2⟩, kp, wd2⟩ .none
      simp only [List.mem_append] at hp ⊢
      rcases hp with h | h | h
      · exact .inl h
      · exact .inr (.inl (kp2 h))
      · exact .inr (.inr h)
    · rintro m2 fz2 mu2 s2 v d2 k2 rfl r2 S2
      obtain ⟨⟨mf2, g1, F2⟩, ⟨tb2, T2, N2, Ap2⟩, kp2, wd2⟩ := S2
      refine leaveK_ (R := fun r s' => match r with | .ok (.ret v) => Q v s' | .ok _ => False | .error e => noE e s') F2 N2 fun F3 N3 => hQ fz2 s2 v k2 ⟨⟨mf, f1, F3⟩, ⟨tb2, T2, fun p hp => N3 p ?_, Ap.keep Ap2 kp2⟩, kp, wd2⟩ r2
      simp only [List.mem_append] at hp ⊢
      rcases hp with h | h | h
      · exact .inl h
      · exact .inr (.inl (kp2 h))
      · exact .inr (.inr h)
    · rintro m2 fz2 mu2 s2 Γ2 k2 h2
      exact h2.elim
end
end Mine
end

section
open PySem PySem.W PyProof.Rows PySem.Calls
set_option maxRecDepth 100000
namespace Mine
section
variable {P : Wd} {C : Cx P} {Γ Γ' : GEnv} {k : Nat} {kl : Led} {m : Str → Option Value} {fz mu : Led} {s : Shared} {N : GEnv → Prop} {R : D → Prop} {B : GEnv → Prop}

noncomputable def NoMl (o : Obj) : Prop := (∀ vs n, o ≠ lstObj vs n) ∧ ∀ w, o.data ≠ .cell w

theorem St.one (h : St C kl m fz mu s) {a : Addr} {o o' : Obj} (h1 : (a, o) ∈ mu) (h2 : (a, o') ∈ mu) : o = o' := by
  have e1 := h.atM h1
  rw [h.atM h2] at e1
  exact (Option.some.inj e1).symm

theorem EnvRep.addkl (hE : EnvRep C kl m fz mu Γ) (hS : St C kl m fz mu s) {I : Addr} {o : Obj} (hm : (I, o) ∈ mu) (hn : NoMl o) : EnvRep C ((I, o) :: kl) m fz mu Γ := by
  refine ⟨fun x g e => ?_, hE.inj, fun x c e => ?_⟩
  · obtain ⟨v, a, b⟩ := hE.at_ x g e
    refine ⟨v, a, ?_⟩
    cases g with
    | d _ => exact b
    | ml a2 ds =>
      obtain ⟨b1, b2, vs, n, b3, b4⟩ := b
      refine ⟨b1, fun p hp => ?_, vs, n, b3, b4⟩
      rcases List.mem_cons.mp hp with rfl | hp
      · intro q
        simp only at q
        subst q
        exact hn.1 _ _ (hS.one hm b3)
      · exact b2 p hp
  · obtain ⟨ob, w, b1, b2, b3⟩ := hE.cel x c e
    refine ⟨ob, w, b1, b2, fun q p hp => ?_⟩
    rcases List.mem_cons.mp hp with rfl | hp
    · intro q2
      simp only at q2
      subst q2
      rw [← hS.one hm b1] at b2
      exact hn.2 _ b2
    · exact b3 q p hp
theorem EnvRep.unkl {p : Addr × Obj} (hE : EnvRep C (p :: kl) m fz mu Γ) : EnvRep C kl m fz mu Γ := by
  refine ⟨fun x g e => ?_, hE.inj, fun x c e => ?_⟩
  · obtain ⟨v, a, b⟩ := hE.at_ x g e
    refine ⟨v, a, ?_⟩
    cases g with
    | d _ => exact b
    | ml a2 ds =>
      obtain ⟨b1, b2, r⟩ := b
      exact ⟨b1, fun q hq => b2 q (.tail _ hq), r⟩
  · obtain ⟨ob, w, b1, b2, b3⟩ := hE.cel x c e
    exact ⟨ob, w, b1, b2, fun q p hp => b3 q p (.tail _ hp)⟩
theorem St.addkl (hS : St C kl m fz mu s) {p : Addr × Obj} (hm : p ∈ mu) : St C (p :: kl) m fz mu s :=
  ⟨hS.F, hS.N, fun q hq => by rcases List.mem_cons.mp hq with rfl | hq; exact hm; exact hS.kept hq, hS.wd⟩
theorem St.unkl {p : Addr × Obj} (hS : St C (p :: kl) m fz mu s) : St C kl m fz mu s := ⟨hS.F, hS.N, fun q hq => hS.kept (.tail _ hq), hS.wd⟩

theorem EnvRep.upd (hE : EnvRep C kl m fz mu Γ) (hS : St C kl m fz mu s) {I : Addr} {o o' : Obj} (hm : (I, o) ∈ mu) (hn : NoMl o) : EnvRep C kl m fz (mset mu I o') Γ := by
  have nl : ∀ {a vs n}, (a, lstObj vs n) ∈ mu → a ≠ I := fun h q => by subst q; exact hn.1 _ _ (hS.one hm h)
  have nc : ∀ {c ob w}, (c, ob) ∈ mu → ob.data = .cell w → c ≠ I := fun h e q => by subst q; rw [← hS.one hm h] at e; exact hn.2 _ e
  refine ⟨fun x g e => ?_, hE.inj, fun x c e => ?_⟩
  · obtain ⟨v, a, b⟩ := hE.at_ x g e
    refine ⟨v, ?_, ?_⟩
    · unfold Holds at a ⊢
      split at a <;> rename_i q
      · exact a
      · obtain ⟨ob, c1, c2⟩ := a
        exact ⟨ob, mem_mset_ne c1 (nc c1 c2), c2⟩
    · cases g with
      | d _ => exact b
      | ml a2 ds =>
        obtain ⟨b1, b2, vs, n, b3, b4⟩ := b
        exact ⟨b1, b2, vs, n, mem_mset_ne b3 (nl b3), b4⟩
  · obtain ⟨ob, w, b1, b2, b3⟩ := hE.cel x c e
    exact ⟨ob, w, mem_mset_ne b1 (nc b1 b2), b2, b3⟩

noncomputable def mdel (mu : Led) (I : Addr) : Led := mu.filter fun p => p.1 != I
theorem mem_mdel {mu : Led} {I : Addr} {p : Addr × Obj} : p ∈ mdel mu I ↔ p ∈ mu ∧ p.1 ≠ I := by unfold mdel; simp
theorem EnvRep.del (hE : EnvRep C kl m fz mu Γ) (hS : St C kl m fz mu s) {I : Addr} {o : Obj} (hm : (I, o) ∈ mu) (hn : NoMl o) : EnvRep C kl m fz (mdel mu I) Γ := by
  have nl : ∀ {a vs n}, (a, lstObj vs n) ∈ mu → a ≠ I := fun h q => by subst q; exact hn.1 _ _ (hS.one hm h)
  have nc : ∀ {c ob w}, (c, ob) ∈ mu → ob.data = .cell w → c ≠ I := fun h e q => by subst q; rw [← hS.one hm h] at e; exact hn.2 _ e
  refine ⟨fun x g e => ?_, hE.inj, fun x c e => ?_⟩
  · obtain ⟨v, a, b⟩ := hE.at_ x g e
    refine ⟨v, ?_, ?_⟩
    · unfold Holds at a ⊢
      split at a <;> rename_i q
      · exact a
      · obtain ⟨ob, c1, c2⟩ := a
        exact ⟨ob, mem_mdel.mpr ⟨c1, nc c1 c2⟩, c2⟩
    · cases g with
      | d _ => exact b
      | ml a2 ds =>
        obtain ⟨b1, b2, vs, n, b3, b4⟩ := b
        exact ⟨b1, b2, vs, n, mem_mdel.mpr ⟨b3, nl b3⟩, b4⟩
  · obtain ⟨ob, w, b1, b2, b3⟩ := hE.cel x c e
    exact ⟨ob, w, mem_mdel.mpr ⟨b1, nc b1 b2⟩, b2, b3⟩
theorem St.del (hS : St C kl m fz mu s) {I : Addr} {o : Obj} (hm : (I, o) ∈ mu) (hk : ∀ p ∈ kl, p.1 ≠ I) (hcm : C.cm = none) {h' : Heap} (hx : Heap.ExtBut I s.heap h') (t : Nat) : St C kl m fz (mdel mu I) { s with heap := h', toks := t } := by
  obtain ⟨⟨mf, f1, F⟩, ⟨tb, T, N, A⟩, kp, wd⟩ := hS
  have z := N (I, o) (List.mem_append_right _ (List.mem_append_left _ hm))
  refine ⟨⟨mf, ?_, ⟨F.ns.extBut hx z.2.1.symm, fun b ob e => hx b ob (fun q => by rw [q, z.2.2] at e; cases e) (F.keep b ob e), F.above⟩⟩, ⟨tb, T, fun p hp => ?_, ?_⟩, fun p hp => mem_mdel.mpr ⟨kp hp, hk p hp⟩, wd⟩
  · unfold Fm at f1 ⊢
    rw [hcm] at f1 ⊢
    exact f1
  · have ne : p.1 ≠ I := by
      rcases List.mem_append.mp hp with h | h
      · exact A.2 p h (I, o) (List.mem_append_left _ hm)
      · rcases List.mem_append.mp h with h | h
        · exact (mem_mdel.mp h).2
        · intro q
          have nd := A.1
          rw [List.map_append, List.nodup_append] at nd
          exact nd.2.2 I (List.mem_map_of_mem hm) p.1 (List.mem_map_of_mem h) q.symm
    have hp' : p ∈ fz ++ (mu ++ tb) := by
      simp only [List.mem_append] at hp ⊢
      rcases hp with h | h | h
      · exact .inl h
      · exact .inr (.inl (mem_mdel.mp h).1)
      · exact .inr (.inr h)
    have y := N p hp'
    exact ⟨hx _ _ ne y.1, y.2⟩
  · refine ⟨?_, fun p hp q hq => A.2 p hp q ?_⟩
    · have nd := A.1
      rw [List.map_append, List.nodup_append] at nd ⊢
      refine ⟨nd.1.sublist ((List.filter_sublist).map _), nd.2.1, fun a ha b hb => nd.2.2 a ?_ b hb⟩
      obtain ⟨p, hp, rfl⟩ := List.mem_map.mp ha
      exact List.mem_map_of_mem (mem_mdel.mp hp).1
    · rcases List.mem_append.mp hq with h | h
      · exact List.mem_append_left _ (mem_mdel.mp h).1
      · exact List.mem_append_right _ h

/-- an iterator over data -/
structure Itr (C : Cx P) (fz0 : Led) (I : Addr) (n : Nat) (dat : Nat → D) (Pr : Nat → Obj → Prop) : Prop where
  no : ∀ i o, Pr i o → NoMl o
  item : ∀ i ⦃kl : Led⦄ ⦃m : Str → Option Value⦄ ⦃fz mu : Led⦄ ⦃s : Shared⦄ ⦃Q : Option Value → Shared → Prop⦄ ⦃o : Obj⦄, i < n → fz0 ⊆ fz → St C kl m fz mu s → (I, o) ∈ mu → Pr i o →
    (∀ v o' h' tk, Pr (i + 1) o' → Heap.SameBut I s.heap h' → h'.get? I = some o' → Rep fz v (dat i) → Q (some v) { s with heap := h', toks := tk }) → wpAny (model P.prog P.w) C.A (pyNext (.ref I)) Q noE s
  done : ∀ ⦃kl : Led⦄ ⦃m : Str → Option Value⦄ ⦃fz mu : Led⦄ ⦃s : Shared⦄ ⦃Q : Option Value → Shared → Prop⦄ ⦃o : Obj⦄, fz0 ⊆ fz → St C kl m fz mu s → (I, o) ∈ mu → Pr n o →
    (∀ h' tk, Heap.ExtBut I s.heap h' → Q none { s with heap := h', toks := tk }) → wpAny (model P.prog P.w) C.A (pyNext (.ref I)) Q noE s

theorem loop_gen (O : CxOk C k) {x : Str} {px : Pos} (hc : CanSt C x) {body : List Stmt} {I : Addr} {n : Nat} {dat : Nat → D} {Pr : Nat → Obj → Prop} {fz0 : Led} (W : Itr C fz0 I n dat Pr) (Inv : Nat → GEnv → Prop)
    (hbody : ∀ i Γi, i < n → Inv i Γi → SS C (Γi.set x (dat i)) body (Inv (i + 1)) R N) (hend : ∀ Γ', Inv n Γ' → N Γ') {o : Obj} {Q : Flow → Shared → Prop}
    (hE : EnvRep C kl m fz mu Γ) (h0 : Inv 0 Γ) (hS : St C kl m fz mu s) (hf : fz0 ⊆ fz) (hm : (I, o) ∈ mu) (hP : Pr 0 o) (hk : ∀ p ∈ kl, p.1 ≠ I)
    (q1 : ∀ m' fz' mu' s' Γ', fz ⊆ fz' → N Γ' → EnvRep C kl m' fz' mu' Γ' → St C kl m' fz' mu' s' → Q .next s')
    (q2 : ∀ m' fz' mu' s' v d, fz ⊆ fz' → R d → Rep fz' v d → St C kl m' fz' mu' s' → Q (.ret v) s') :
    codeAny (model P.prog P.w) C.A (.forLoop (.Name x px) (.ref I) body [] C.env) (fun r s' => match r with | .ok f => Q f s' | .error e => cameBackBy (model P.prog P.w) C.A C.env noE e s') s := by
  refine codeAny_forLoop (fun j s' => ∃ i fz' mu' m' o' Γ', i ≤ n ∧ j = n - i ∧ fz ⊆ fz' ∧ Inv i Γ' ∧ EnvRep C kl m' fz' mu' Γ' ∧ St C kl m' fz' mu' s' ∧ (I, o') ∈ mu' ∧ Pr i o') ?_ n
    ⟨0, fz, mu, m, o, Γ, Nat.zero_le _, rfl, List.Subset.refl _, h0, hE, hS, hm, hP⟩
  rintro j s' ⟨i, fz', mu', m', o', Γ', hi, rfl, kf, hI, E', S', hm', hP'⟩
  by_cases hlt : i < n
  · refine wpAny_mono (W.item i hlt (fun _ h => kf (hf h)) S' hm' hP' fun v o2 h2 tk hP2 hs2 hg2 hr => ?_) (fun _ _ q => q) (fun _ _ f => f.elim)
    have S2 := S'.upd (o' := o2) hm' hk (fun q => absurd hc.1 q) hs2 hg2 tk
    have E2 := E'.upd (o' := o2) S' hm' (W.no _ _ hP')
    have hm2 : (I, o2) ∈ mset mu' I o2 := mem_mset_self hm'
    refine wpAny_mono (assign_Name (store_d O hc (E2.addkl S2 hm2 (W.no _ _ hP2)) (S2.addkl hm2) hr fun m3 mu3 s3 E3 S3 => ?_)) (fun _ _ q => q) (fun _ _ f => f.elim)
    refine wpAny_mono (hbody i Γ' hlt hI E3 S3 (fun m4 fz4 mu4 s4 Γ4 k4 n4 E4 S4 => ?_) (fun m4 fz4 mu4 s4 v4 d4 k4 r4 rep4 S4 => ?_) (fun m4 fz4 mu4 s4 Γ4 k4 n4 E4 S4 => ?_)) (fun _ _ q => q) (fun _ _ f => f.elim)
    · exact ⟨n - (i + 1), by grind, i + 1, fz4, mu4, m4, o2, Γ4, hlt, rfl, fun _ h => k4 (kf h), n4, E4.unkl, S4.unkl, S4.kept (.head _), hP2⟩
    · exact q2 _ _ _ _ _ _ (fun _ h => k4 (kf h)) r4 rep4 S4.unkl
    · exact q1 _ _ _ _ _ (fun _ h => k4 (kf h)) n4 E4.unkl S4.unkl
  · obtain rfl : i = n := by lia
    refine wpAny_mono (W.done (fun _ h => kf (hf h)) S' hm' hP' fun h2 tk hx => wpAny_execs_nil ?_) (fun _ _ q => q) (fun _ _ f => f.elim)
    exact q1 _ _ _ _ _ kf (hend _ hI) (E'.del S' hm' (W.no _ _ hP')) (S'.del hm' hk hc.1 hx tk)

-- LISTS
noncomputable def ListPr (l : Addr) (i : Nat) (o : Obj) : Prop := o.cls = .type "list_iterator" ∧ o.data = .fields #[.ref l, .int i 0]
theorem itr_list (O : CxOk C k) {l I : Addr} {vs : List Value} {n : Nat} {ds : List D} {fz0 : Led} (hm : (l, lstObj vs n) ∈ fz0) (hr : Reps fz0 vs ds) : Itr C fz0 I ds.length (fun i => ds.getD i .none) (ListPr l) := by
  refine ⟨fun i o h => And.intro (fun vs n e => by rw [e] at h; exact absurd h.2 (by intro q; cases q)) (fun w e => by rw [h.2] at e; cases e), ?_, ?_⟩
  · intro i kl m fz mu s Q o hi kf hS hmI hP hQ
    have hd : ds[i]? = some (ds.getD i .none) := by rw [List.getD_eq_getElem?_getD, List.getElem?_eq_getElem hi]; rfl
    obtain ⟨v, e1, e2⟩ := hr.get hd
    refine wpAny_pyNext_list_item (i := i) ⟨o, hS.atM hmI, hP.1, hP.2⟩ (hS.isList (kf hm)) (x := v) (by simpa using e1) fun h' hit hs => ?_
    obtain ⟨o', a, b, c⟩ := hit
    exact hQ v o' h' s.toks ⟨b, c⟩ hs a (e2.mono kf)
  · intro kl m fz mu s Q o kf hS hmI hP hQ
    refine wpAny_pyNext_list_end O.hh (i := ds.length) ⟨o, hS.atM hmI, hP.1, hP.2⟩ (hS.isList (kf hm)) (by rw [List.getElem?_toArray, List.getElem?_eq_none_iff, hr.length]; exact Nat.le_refl _) fun h' hx => hQ h' s.toks hx

theorem S1.forL (O : CxOk C k) {x : Str} {px pos : Pos} (hc : CanSt C x) {iter : Expr} {body : List Stmt} {ds : List D} (hi : EV C Γ iter (.lst ds)) (Inv : Nat → GEnv → Prop) (h0 : Inv 0 Γ)
    (hbody : ∀ i Γi, i < ds.length → Inv i Γi → SS C (Γi.set x (ds.getD i .none)) body (Inv (i + 1)) R N) (hend : ∀ Γ', Inv ds.length Γ' → N Γ')
    (hs : ∀ env x, foldedSetIterable iter env x = pure x := by intro _ _; rfl) : S1 C Γ (.For (.Name x px) iter body [] pos) N R B := by
  intro kl m fz mu s Q hE hS q1 q2 q3
  refine wpAny_For (hi hE hS fun fz1 s1 v1 k1 S1 r1 => ?_) (hs _)
  obtain ⟨l, vs, n, rfl, hm, hr⟩ := r1.lst_inv
  refine wpAny_pyIter_list (S1.isList hm) ?_
  have S2 := S1.pushM { cls := .type "list_iterator", data := .fields #[.ref l, .int 0 0] }
  refine loop_gen (R := R) (N := N) O hc (itr_list O hm hr (I := s1.heap.objs.size)) Inv hbody hend (Γ := Γ) ?_ h0 S2 (List.Subset.refl _) (.head _) ⟨rfl, rfl⟩ ?_ (fun m' fz' mu' s' Γ' k' => q1 _ _ _ _ _ (fun _ h => k' (k1 h))) (fun m' fz' mu' s' v d k' => q2 _ _ _ _ _ _ (fun _ h => k' (k1 h)))
  · exact (hE.mono k1).more (List.subset_cons_self _ _)
  · intro p hp q
    have := Heap.lt_size (S1.atM (a := p.1) (o := p.2) (S1.kept hp))
    rw [q] at this; exact Nat.lt_irrefl _ this

-- RANGES
noncomputable def RngPr (a b : Int) (i : Nat) (o : Obj) : Prop := o = { cls := .type "range_iterator", data := .fields #[rawInt (a + i), rawInt ((b - a) - i), rawInt 1] }
theorem itr_range (O : CxOk C k) {I : Addr} {a b : Int} {fz0 : Led} (hab : a ≤ b) : Itr C fz0 I (b - a).toNat (fun i => .int (a + i)) (RngPr a b) := by
  refine ⟨fun i o h => And.intro (fun vs n e => by rw [h] at e; exact absurd (congrArg Obj.data e) (by intro q; cases q)) (fun w e => by rw [h] at e; cases e), ?_, ?_⟩
  · intro i kl m fz mu s Q o hi kf hS hmI hP hQ
    rw [hP] at hmI
    refine wpAny_pyNext_range_item (hS.atM hmI) (by (clear hab; omega)) fun h' hit hs => ?_
    refine hQ _ _ h' (s.toks + 1) ?_ hs hit (.int _ _)
    unfold RngPr
    congr 3
    simp only [rawInt, List.cons.injEq, Value.int.injEq, and_true]
    lia
  · intro kl m fz mu s Q o kf hS hmI hP hQ
    rw [hP] at hmI
    exact wpAny_pyNext_range_end O.hh (hS.atM hmI) (by (clear hab; lia)) fun h' hx => hQ h' s.toks hx
theorem S1.forR (O : CxOk C k) {x : Str} {px pos : Pos} (hc : CanSt C x) {iter : Expr} {body : List Stmt} {a b : Int} (hab : a ≤ b) (hsm : Builtin.Range.small a b 1 = true) (hi : EV C Γ iter (.rng a b)) (Inv : Nat → GEnv → Prop) (h0 : Inv 0 Γ)
    (hbody : ∀ i Γi, i < (b - a).toNat → Inv i Γi → SS C (Γi.set x (.int (a + i))) body (Inv (i + 1)) R N) (hend : ∀ Γ', Inv (b - a).toNat Γ' → N Γ')
    (hs : ∀ env x, foldedSetIterable iter env x = pure x := by intro _ _; rfl) : S1 C Γ (.For (.Name x px) iter body [] pos) N R B := by
  intro kl m fz mu s Q hE hS q1 q2 q3
  refine wpAny_For (hi hE hS fun fz1 s1 v1 k1 S1 r1 => ?_) (hs _)
  cases r1 with | rng hm =>
  refine wpAny_pyIter_range (S1.at_ hm) hsm ?_
  have S2 := S1.pushM { cls := .type "range_iterator", data := .fields #[rawInt a, rawInt (Builtin.Range.rangeSize a b 1), rawInt 1] }
  refine loop_gen (R := R) (N := N) O hc (itr_range O hab (I := s1.heap.objs.size) (fz0 := [])) Inv hbody hend (Γ := Γ) ?_ h0 S2 (List.nil_subset _) (.head _) ?_ ?_ (fun m' fz' mu' s' Γ' k' => q1 _ _ _ _ _ (fun _ h => k' (k1 h))) (fun m' fz' mu' s' v d k' => q2 _ _ _ _ _ _ (fun _ h => k' (k1 h)))
  · exact (hE.mono k1).more (List.subset_cons_self _ _)
  · unfold RngPr
    rw [rangeSize_one]
    have e : (if a < b then b - a else 0) = b - a - ((0 : Nat) : Int) := by split <;> omega
    rw [e]
    have e2 : a + ((0 : Nat) : Int) = a := by simp
    rw [e2]
  · intro p hp q
    have := Heap.lt_size (S1.atM (a := p.1) (o := p.2) (S1.kept hp))
    rw [q] at this; exact Nat.lt_irrefl _ this

-- WHILE
theorem S1.whil (O : CxOk C k) {test : Expr} {body : List Stmt} {pos : Pos} (Inv : Nat → GEnv → Prop) {n : Nat} (h0 : Inv n Γ)
    (turn : ∀ n Γ', Inv n Γ' → ∃ b, TV C Γ' test b ∧ (b = true → SS C Γ' body (fun G => ∃ j, j < n ∧ Inv j G) R N) ∧ (b = false → N Γ')) : S1 C Γ (.While test body [] pos) N R B := by
  intro kl m fz mu s Q hE hS q1 q2 q3
  refine wpAny_While (codeAny_whileLoop (fun j s' => ∃ fz' mu' m' Γ', fz ⊆ fz' ∧ Inv j Γ' ∧ EnvRep C kl m' fz' mu' Γ' ∧ St C kl m' fz' mu' s') (fun j s' hI => ?_) n ⟨fz, mu, m, Γ, List.Subset.refl _, h0, hE, hS⟩)
  obtain ⟨fz', mu', m', Γ', kf, hI, E', S'⟩ := hI
  obtain ⟨b, ht, h1, h2⟩ := turn j Γ' hI
  refine wpAny_mono (ht E' S' fun fz2 s2 k2 S2 => ?_) (fun _ _ q => q) (fun _ _ f => f.elim)
  cases b with
  | true =>
    refine wpAny_mono (h1 rfl (E'.mono k2) S2 (fun m4 fz4 mu4 s4 Γ4 k4 n4 E4 S4 => ?_) (fun m4 fz4 mu4 s4 v4 d4 k4 r4 rep4 S4 => ?_) (fun m4 fz4 mu4 s4 Γ4 k4 n4 E4 S4 => ?_)) (fun _ _ q => q) (fun _ _ f => f.elim)
    · obtain ⟨j2, hj, hI2⟩ := n4
      exact ⟨j2, hj, fz4, mu4, m4, Γ4, fun _ h => k4 (k2 (kf h)), hI2, E4, S4⟩
    · exact q2 _ _ _ _ _ _ (fun _ h => k4 (k2 (kf h))) r4 rep4 S4
    · exact q1 _ _ _ _ _ (fun _ h => k4 (k2 (kf h))) n4 E4 S4
  | false =>
    exact wpAny_execs_nil (q1 _ _ _ _ _ (fun _ h => k2 (kf h)) (h2 rfl) (E'.mono k2) S2)
end
end Mine
end

section
open PySem PySem.W PyProof.Rows PySem.Calls
set_option maxRecDepth 100000
namespace Mine
section
variable {P : Wd} {C : Cx P} {Γ Γ' : GEnv} {k : Nat} {kl : Led} {m : Str → Option Value} {fz mu : Led} {s : Shared} {N : GEnv → Prop} {R : D → Prop} {B : GEnv → Prop}

-- ATTRIBUTES OF A Whitespace
inductive WAt : Str → Wsp → D → Prop
  | n (w : Wsp) : WAt "n" w (.int w.n)
  | nt (w : Wsp) : WAt "nt" w (.int w.nt)
  | norm (w : Wsp) : WAt "norm" w (.tup [.tup (w.cnt.map .int), .int w.b])
  | simple (w : Wsp) : WAt "is_simple" w (.bool w.simple)
structure AtOk (K : Frag) (name : Str) : Prop where
  g : plainGet K clsW name = true
  h : hasDictIn K clsW = true
  f : findIn K (.ref clsW) name = some Option.none
structure MeOk (K : Frag) (name : Str) (fa : Addr) : Prop where
  g : plainGet K clsW name = true
  f : findIn K (.ref clsW) name = some (some (.ref fa))
  t : isFn K (.ref fa) = true
  k : keepIn K (.ref fa) = true

theorem handed_rep {v : Value} {d : D} (h : Rep fz v d) (hd : ∀ u, d ≠ .val u) : handedIn v = true := by
  cases h <;> first | rfl | exact absurd rfl (hd _)

theorem wgets {h1 h2 h3 h4 h5 : Int} {t1 t2 t3 t4 t5 : Tok} {v1 v2 v3 v4 v5 : Value} :
    getL "n" (wsEnts h1 h2 h3 h4 h5 t1 t2 t3 t4 t5 v1 v2 v3 v4 v5) = some (some v2) ∧ getL "nt" (wsEnts h1 h2 h3 h4 h5 t1 t2 t3 t4 t5 v1 v2 v3 v4 v5) = some (some v3) ∧
    getL "norm" (wsEnts h1 h2 h3 h4 h5 t1 t2 t3 t4 t5 v1 v2 v3 v4 v5) = some (some v4) ∧ getL "is_simple" (wsEnts h1 h2 h3 h4 h5 t1 t2 t3 t4 t5 v1 v2 v3 v4 v5) = some (some v5) := ⟨rfl, rfl, rfl, rfl⟩
theorem wmeths {h1 h2 h3 h4 h5 : Int} {t1 t2 t3 t4 t5 : Tok} {v1 v2 v3 v4 v5 : Value} {name : Str} (hn : name ∈ (["longest_run_of_spaces", "indent_level", "equal", "not_equal_witness", "less", "not_less_witness"] : List Str)) :
    getL name (wsEnts h1 h2 h3 h4 h5 t1 t2 t3 t4 t5 v1 v2 v3 v4 v5) = some none := by
  simp only [List.mem_cons, List.not_mem_nil, or_false] at hn
  rcases hn with rfl | rfl | rfl | rfl | rfl | rfl <;> rfl

noncomputable abbrev methNames : List Str := ["longest_run_of_spaces", "indent_level", "equal", "not_equal_witness", "less", "not_less_witness"]
theorem Rep.ws_inv {v : Value} {w : Wsp} (h : Rep fz v (.ws w)) : ∃ x dx es n, v = .ref x ∧ (x, instObj clsW dx) ∈ fz ∧ (dx, dictOf es n) ∈ fz ∧
    (∀ name d, WAt name w d → ∃ u, getL name es = some (some u) ∧ handedIn u = true ∧ Rep fz u d) ∧ ∀ name ∈ methNames, getL name es = some Option.none := by
  cases h with | ws m1 m2 r2 r3 r4 r5 =>
  refine ⟨_, _, _, _, rfl, m1, m2, fun name d hw => ?_, fun name hn => wmeths hn⟩
  cases hw with
  | n => exact ⟨_, wgets.1, handed_rep r2 (by intro u q; cases q), r2⟩
  | nt => exact ⟨_, wgets.2.1, handed_rep r3 (by intro u q; cases q), r3⟩
  | norm => exact ⟨_, wgets.2.2.1, handed_rep r4 (by intro u q; cases q), r4⟩
  | simple => exact ⟨_, wgets.2.2.2, handed_rep r5 (by intro u q; cases q), r5⟩

theorem EV.attr (O : CxOk C k) {e : Expr} {name : Str} {pos : Pos} {w : Wsp} {d : D} (A : AtOk P.K name) (hw : WAt name w d) (h : EV C Γ e (.ws w))
    (he : ∀ env, eval (.Attribute e name pos) env = (do let o ← eval e env; standAt pos.atName; let r ← holding [o] (getAttr o name true); letTemporaryGo e o r; pure r) := by intro _; with_unfolding_all rfl)
    (hg : LetGo e := by intro _ _; with_unfolding_all rfl) : EV C Γ (.Attribute e name pos) d := by
  intro kl m fz mu s Q hE hS hQ
  rw [he]
  refine wpAny_bind (h hE hS fun fz1 s1 v1 k1 S1 r1 => wpAny_bind (wpAny_standAt (wpAny_bind (wpAny_holding ?_))))
  obtain ⟨x, dx, es, n, rfl, m1, m2, ga, gm⟩ := r1.ws_inv
  obtain ⟨u, g1, g2, g3⟩ := ga name d hw
  obtain ⟨mf, F⟩ := S1.fr
  have I : InstAt s1.heap x (instObj clsW dx) clsW (some (dictOf es n)) := ⟨S1.at_ m1, rfl, rfl, S1.at_ m2⟩
  exact get_own F O.X I A.g A.h A.f rfl g1 g2 (wpAny_bind (wpAny_of_eq (hg _ _) (wpAny_pure (hQ _ _ _ k1 (S1.tok _) g3))))

/-- a method of a Whitespace -/
theorem EV.meth (O : CxOk C k) {o : Expr} {name : Str} {apos pos : Pos} {e : Expr} {es : List Expr} {w : Wsp} {ds : List D} {d : D} {fa : Addr} (A : MeOk P.K name fa)
    (hn : name ∈ methNames) (ho : EV C Γ o (.ws w)) (hs : EVs C Γ (e :: es) ds) (hc : CallOk C (.ref fa) (.ws w :: ds) d)
    (hst : ∀ env, starEach (e :: es) env = (false, eval e env) :: starEach es env := by intro _; rfl) (hp : ∀ env, (starEach es env).any (·.1) = false := by intro _; rfl)
    {pl : Env → Sem Bool}
    (he : ∀ env, eval (.Call (.Attribute o name apos) (e :: es) [] pos) env = (do
      let ov ← eval o env
      standAt apos.atName
      let (f, first) ← holding [ov] (getMethod ov name (pl env))
      callWith pos f first (backTo pos (starEach (e :: es) env)) []) := by intro _; rfl) : EV C Γ (.Call (.Attribute o name apos) (e :: es) [] pos) d := by
  intro kl m fz mu s Q hE hS hQ
  refine MethodCall_ (pl := pl C.env) (ho hE hS fun fz1 s1 v1 k1 S1 r1 => ?_) (he _)
  obtain ⟨x, dx, ents, n, rfl, m1, m2, ga, gm⟩ := r1.ws_inv
  obtain ⟨mf, F⟩ := S1.fr
  have I : InstAt s1.heap x (instObj clsW dx) clsW (some (dictOf ents n)) := ⟨S1.at_ m1, rfl, rfl, S1.at_ m2⟩
  refine method_inst F O.X I A.g A.f A.t (gm _ hn) ?_
  refine callWith_K (h₀ := C.g) O.X A.k (hs pos (hE.mono k1) S1 fun fz2 s2 vs k2 S2 rs => ⟨O.X.keeps S2.keep, ?_⟩) (hst _) (hplain pos es _ (hp _))
  exact hc S2 (.cons (r1.mono k2) rs) fun fz3 s3 v3 k3 S3 r3 => hQ _ _ _ (fun _ hp => k3 (k2 (k1 hp))) S3 r3
theorem EV.meth0 (O : CxOk C k) {o : Expr} {name : Str} {apos pos : Pos} {w : Wsp} {d : D} {fa : Addr} (A : MeOk P.K name fa)
    (hn : name ∈ methNames) (ho : EV C Γ o (.ws w)) (hc : CallOk C (.ref fa) [.ws w] d)
    {pl : Env → Sem Bool}
    (he : ∀ env, eval (.Call (.Attribute o name apos) [] [] pos) env = (do
      let ov ← eval o env
      standAt apos.atName
      let (f, first) ← holding [ov] (getMethod ov name (pl env))
      callWith pos f first (backTo pos (starEach [] env)) []) := by intro _; rfl) : EV C Γ (.Call (.Attribute o name apos) [] [] pos) d := by
  intro kl m fz mu s Q hE hS hQ
  refine MethodCall_ (pl := pl C.env) (ho hE hS fun fz1 s1 v1 k1 S1 r1 => ?_) (he _)
  obtain ⟨x, dx, ents, n, rfl, m1, m2, ga, gm⟩ := r1.ws_inv
  obtain ⟨mf, F⟩ := S1.fr
  have I : InstAt s1.heap x (instObj clsW dx) clsW (some (dictOf ents n)) := ⟨S1.at_ m1, rfl, rfl, S1.at_ m2⟩
  refine method_inst F O.X I A.g A.f A.t (gm _ hn) ?_
  refine callWith_K0 (O.X.keeps S1.keep) A.k ?_
  exact hc S1 (.cons r1 .nil) fun fz3 s3 v3 k3 S3 r3 => hQ _ _ _ (fun _ hp => k3 (k1 hp)) S3 r3

-- LISTS THAT TURN
theorem St.freshM (hS : St C kl m fz mu s) : ∀ p ∈ mu, p.1 ≠ s.heap.objs.size := fun p hp q => by
  have := Heap.lt_size (hS.atM (a := p.1) (o := p.2) hp)
  rw [q] at this; exact Nat.lt_irrefl _ this
theorem EnvRep.noml (hE : EnvRep C kl m fz mu Γ) {a : Addr} (h : ∀ p ∈ mu, p.1 ≠ a) : ∀ y es, Γ y ≠ some (.ml a es) := fun y es q => by
  obtain ⟨v, _, _, _, vs, n, b, _⟩ := hE.at_ y _ q
  exact h _ b rfl
/-- a fresh list kept under a name as one that may turn -/
theorem store_m (O : CxOk C k) {x : Str} (hc : CanSt C x) (hl : C.env.cells.lookup x = none) {vs : List Value} {ds : List D} {n : Nat} {l : Addr} (hE : EnvRep C kl m fz mu Γ) (hS : St C kl m fz ((l, lstObj vs n) :: mu) s) (hr : Reps fz vs ds) (hf : ∀ p ∈ mu, p.1 ≠ l) (hk : kl ⊆ mu)
    {Q : Unit → Shared → Prop} (hQ : ∀ m' mu' s', EnvRep C kl m' fz mu' (Γ.setM x l ds) → St C kl m' fz mu' s' → Q () s') : wpAny (model P.prog P.w) C.A (storeName C.env x (.ref l)) Q noE s :=
  store_gen O hc (g := .ml l ds) (hE.more (List.subset_cons_self _ _)) hS ⟨rfl, fun p hp => hf p (hk hp), vs, n, .head _, hr⟩
    (fun a ds2 q y es hy e => by cases q; exact hE.noml hf y es e) (.inl hl) hQ

theorem S1.assignL (O : CxOk C k) {x : Str} {p pos lp : Pos} {es : List Expr} {ds : List D} {N : GEnv → Prop} (hc : CanSt C x) (hl : C.env.cells.lookup x = none) (hs : EVs C Γ es ds) (hz : ds.length ≤ sizeLine)
    (hN : ∀ l, N (Γ.setM x l ds)) : S1 C Γ (.Assign [.Name x p] (.List es lp) pos) N R B := by
  intro kl m fz mu s Q hE hS q1 q2 q3
  refine wpAny_Assign_Name (wpAny_List (hs lp hE hS fun fz1 s1 vs k1 S1 r1 => ⟨by rw [r1.length]; exact hz, ?_⟩)) rfl
  exact store_m O hc hl (n := 0) (hE.mono k1) (S1.pushM _) r1 (S1.freshM) S1.kept fun m' mu' s' E' S' => q1 _ _ _ _ _ k1 (hN _) E' S'

theorem EnvRep.turn (hE : EnvRep C kl m fz mu Γ) {fz2 : Led} (hS : St C kl m fz2 mu s) {x : Str} {a : Addr} {ds ds' : List D} {vs' : List Value} {n' : Nat} (hx : Γ x = some (.ml a ds)) (hr : Reps fz vs' ds') : EnvRep C kl m fz (mset mu a (lstObj vs' n')) (Γ.setM x a ds') := by
  obtain ⟨v0, h0, _, _, vs, n, hm, _⟩ := hE.at_ x _ hx
  have nc : ∀ {c ob w}, (c, ob) ∈ mu → ob.data = .cell w → c ≠ a := fun h e q => by subst q; rw [← hS.one hm h] at e; cases e
  have hold : ∀ y v, Holds C m mu y v → Holds C m (mset mu a (lstObj vs' n')) y v := by
    intro y v h
    unfold Holds at h ⊢
    split at h
    · exact h
    · obtain ⟨ob, c1, c2⟩ := h
      exact ⟨ob, mem_mset_ne c1 (nc c1 c2), c2⟩
  refine ⟨fun y g e => ?_, fun y z b d1 d2 e1 e2 => ?_, fun y c e => ?_⟩
  · simp only [GEnv.setM] at e
    by_cases hy : y = x
    · rw [if_pos hy] at e; cases e
      subst hy
      obtain ⟨v, b1, b2, b3, _⟩ := hE.at_ y _ hx
      exact ⟨v, hold _ _ b1, b2, b3, vs', n', mem_mset_self hm, hr⟩
    · rw [if_neg hy] at e
      obtain ⟨v, b1, b2⟩ := hE.at_ y g e
      refine ⟨v, hold _ _ b1, ?_⟩
      cases g with
      | d _ => exact b2
      | ml c es =>
        obtain ⟨c1, c2, ws, j, c3, c4⟩ := b2
        exact ⟨c1, c2, ws, j, mem_mset_ne c3 fun q => hy (hE.inj y x c es ds e (by rw [show c = a from q]; exact hx)), c4⟩
  · simp only [GEnv.setM] at e1 e2
    by_cases h1 : y = x
    · rw [if_pos h1] at e1
      cases e1
      by_cases h2 : z = x
      · rw [h1, h2]
      · rw [if_neg h2] at e2
        exact absurd (hE.inj z x a d2 ds e2 hx) h2
    · rw [if_neg h1] at e1
      by_cases h2 : z = x
      · rw [if_pos h2] at e2
        cases e2
        exact absurd (hE.inj y x a d1 ds e1 hx) h1
      · rw [if_neg h2] at e2
        exact hE.inj y z b d1 d2 e1 e2
  · obtain ⟨ob, w, b1, b2, b3⟩ := hE.cel y c e
    exact ⟨ob, w, mem_mset_ne b1 (nc b1 b2), b2, b3⟩

theorem notInteractive (O : CxOk C k) : interactive C.env = false := by
  unfold interactive
  rw [O.kind]; rfl

theorem S1.append (O : CxOk C k) {x : Str} {xp ap cp pos : Pos} {e : Expr} {a : Addr} {ds : List D} {d : D} (hx : Γ x = some (.ml a ds)) (hk : C.env.kindOf x = some .local) (hl : C.env.cells.lookup x = none) (he : EV C Γ e d) (hz : ds.length ≤ 1000000) (hcm : C.cm = none)
    (hst : ∀ env, starEach [e] env = [(false, eval e env)] := by intro _; rfl)
    {pl : Env → Sem Bool}
    (hv : ∀ env, eval (.Call (.Attribute (.Name x xp) "append" ap) [e] [] cp) env = (do
      let ov ← eval (.Name x xp) env
      standAt ap.atName
      let (f, first) ← holding [ov] (getMethod ov "append" (pl env))
      callWith cp f first (backTo cp (starEach [e] env)) []) := by intro _; rfl)
    (hs : ∀ env, swapsWith (.Call (.Attribute (.Name x xp) "append" ap) [e] [] cp) none pos.line env = pure false := by intro _; rfl) (hd : (x == ("__debug__" : Str)) = false := by decide) :
    S1 C Γ (.Expr (.Call (.Attribute (.Name x xp) "append" ap) [e] [] cp) pos) (fun g => g = Γ.setM x a (ds ++ [d])) R B := by
  intro kl m fz mu s Q hE hS q1 q2 q3
  refine wpAny_Expr (MethodCall_ (pl := pl C.env) (EV.nameM O hx hk hl hd hE hS fun fz1 s1 v1 k1 S1 r1 => ?_) (hv _)) (notInteractive O) (hs _)
  obtain rfl := r1.val_inv
  obtain ⟨v0, h0, _, hkl, vs, n, hm, hr⟩ := hE.at_ x _ hx
  refine getMethod_builtin (T := "list") ⟨_, S1.atM hm, rfl⟩ PySem.F.plainAttrs_list slot_list_append PySem.F.type_list_append (fun b e => by cases e; exact ⟨_, S1.atM hm, rfl⟩) ?_
  refine PyProof.Rows.callWith_method1 (e := e) (rest := []) ?_ (by rw [hst]; rfl) rfl
  rw [show starEach (e :: []) C.env = [(false, eval e C.env)] from hst _]
  have hs1 : EVs C Γ [e] [d] := EVs.cons he EVs.nil (fun env => hst env)
  have h1 := hs1 cp (hE.mono k1) S1 (Q := fun vs s₁ => wpAny (model P.prog P.w) C.A (call (.builtin "list.append") ([.ref a] ++ vs)) (fun v s' => match v with | .ref _ => False | _ => Q .next s') noE s₁) fun fz2 s2 vs2 k2 S2 r2 => ?_
  · rw [show starEach [e] C.env = [(false, eval e C.env)] from hst _] at h1; exact h1
  obtain ⟨v2, rfl, r2'⟩ := r2.c1
  refine append_at (S2.atM hm) (fun h' hs2 ho => ?_) (by rw [List.size_toArray, hr.length, sizeLine_eq]; lia)
  have e1 : (vs.toArray.push v2) = (vs ++ [v2]).toArray := by simp
  rw [e1] at ho
  have S3 := S2.upd (o' := lstObj (vs ++ [v2]) (n + 1)) hm hkl (fun q => absurd hcm q) hs2 ho s2.toks
  exact q1 _ _ _ _ _ (fun _ h => k2 (k1 h)) rfl (((hE.mono k1).mono k2).turn S2 hx (((hr.mono k1).mono k2).snoc r2')) S3
end
end Mine
end

section
open PySem PySem.W PyProof.Rows PySem.Calls
set_option maxRecDepth 100000
namespace Mine

-- EQUALITY
mutual
noncomputable def toP : D → PyData
  | .int i => .int i
  | .bool b => .bool b
  | .tup l => .tuple (toPs l)
  | .lst l => .list (toPs l)
  | _ => .none
noncomputable def toPs : List D → List PyData
  | [] => []
  | d :: ds => toP d :: toPs ds
end
mutual
noncomputable def okP : D → Bool
  | .int _ => true
  | .bool _ => true
  | .tup l => okPs l
  | .lst l => okPs l
  | _ => false
noncomputable def okPs : List D → Bool
  | [] => true
  | d :: ds => okP d && okPs ds
end
mutual
theorem rep_reads {fz : Led} {h : Heap} (k : ∀ p ∈ fz, h.get? p.1 = some p.2) : ∀ {v : Value} {d : D}, Rep fz v d → okP d = true → ∃ as, Reads h v (toP d) as
  | _, _, .int i t, _ => ⟨_, by rw [toP]; exact Reads.int i t⟩
  | _, _, .bool b, _ => ⟨_, by rw [toP]; exact Reads.bool b⟩
  | _, _, .tup m r, e => by
    obtain ⟨as, q⟩ := reps_reads k r (by rw [okP] at e; exact e)
    rw [toP]
    exact ⟨as, .tuple (k _ m) rfl rfl (by simpa using q)⟩
  | _, _, .lst m r, e => by
    obtain ⟨as, q⟩ := reps_reads k r (by rw [okP] at e; exact e)
    rw [toP]
    exact ⟨_, .list (k _ m) rfl rfl (by simpa using q)⟩
  | _, _, .none, e => by simp [okP] at e
  | _, _, .flt x t, e => by simp [okP] at e
  | _, _, .str x t, e => by simp [okP] at e
  | _, _, .rng m, e => by simp [okP] at e
  | _, _, .val v, e => by simp [okP] at e
  | _, _, .ws m1 m2 r2 r3 r4 r5, e => by simp [okP] at e
  | _, _, .fn m c e1 e2, e => by simp [okP] at e
theorem reps_reads {fz : Led} {h : Heap} (k : ∀ p ∈ fz, h.get? p.1 = some p.2) : ∀ {vs : List Value} {ds : List D}, Reps fz vs ds → okPs ds = true → ∃ as, ReadsAll h vs (toPs ds) as
  | _, _, .nil, _ => ⟨_, by rw [toPs]; exact .nil⟩
  | _, _, .cons r rs, e => by
    rw [okPs, Bool.and_eq_true] at e
    obtain ⟨as, q⟩ := rep_reads k r e.1
    obtain ⟨bs, p⟩ := reps_reads k rs e.2
    rw [toPs]
    exact ⟨_, .cons q p⟩
end
mutual
theorem okP_lay : ∀ d : D, okP d = true → (toP d).canLay0 = true
  | .int _, _ => by simp [toP, PyData.canLay0]
  | .bool _, _ => by simp [toP, PyData.canLay0]
  | .tup l, e => by rw [toP, PyData.canLay0]; exact okPs_lay l (by rw [okP] at e; exact e)
  | .lst l, e => by rw [toP, PyData.canLay0]; exact okPs_lay l (by rw [okP] at e; exact e)
  | .none, e => by simp [okP] at e
  | .flt _, e => by simp [okP] at e
  | .str _, e => by simp [okP] at e
  | .rng _ _, e => by simp [okP] at e
  | .val _, e => by simp [okP] at e
  | .ws _, e => by simp [okP] at e
  | .fn _, e => by simp [okP] at e
theorem okPs_lay : ∀ ds : List D, okPs ds = true → PyData.canLayAll0 (toPs ds) = true
  | [], _ => by simp [toPs, PyData.canLayAll0]
  | d :: ds, e => by
    rw [okPs, Bool.and_eq_true] at e
    rw [toPs, PyData.canLayAll0, okP_lay d e.1, okPs_lay ds e.2]; rfl
end
/-- data without floats and shallow -/
structure Pl (d : D) : Prop where
  ok : okP d = true
  dep : (toP d).depth ≤ 64
theorem Pl.shaped {d : D} (h : Pl d) : PySem.SeqAt.shaped (toP d) = true := by
  unfold PySem.SeqAt.shaped
  rw [okP_lay d h.ok, Bool.true_and]; exact decide_eq_true h.dep
theorem Pl.reads {P : Wd} {C : Cx P} {kl : Led} {m : Str → Option Value} {fz mu : Led} {s : Shared} (hS : St C kl m fz mu s) {d : D} (h : Pl d) {v : Value} (r : Rep fz v d) : ∃ as, Reads s.heap v (toP d) as :=
  rep_reads (fun p hp => hS.at_ (a := p.1) (o := p.2) hp) r h.ok

section
variable {P : Wd} {C : Cx P} {k : Nat}
theorem CxOk.room (O : CxOk C k) (h : k < 980) : C.A.units + 64 < cLine := by
  have := O.uni
  unfold cLine
  lia
theorem BinOk.eqP (O : CxOk C k) (h : k < 980) {d e : D} {b : Bool} (hd : Pl d) (he : Pl e) (hb : PyData.eqv (toP d) (toP e) = b) : BinOk C (compareOp .Eq) d e (.bool b) := by
  intro kl m fz mu s Q v1 v2 hS r1 r2 hQ
  obtain ⟨as, ra⟩ := hd.reads hS r1
  obtain ⟨bs, rb⟩ := he.reads hS r2
  exact eq_dataH ra rb hd.shaped he.shaped (O.room h) (by rw [hb]; exact hQ _ _ _ (List.Subset.refl _) hS (.bool _))
theorem BinOk.neP (O : CxOk C k) (h : k < 980) {d e : D} {b : Bool} (hd : Pl d) (he : Pl e) (hb : PyData.eqv (toP d) (toP e) = b) : BinOk C (compareOp .NotEq) d e (.bool (!b)) := by
  intro kl m fz mu s Q v1 v2 hS r1 r2 hQ
  obtain ⟨as, ra⟩ := hd.reads hS r1
  obtain ⟨bs, rb⟩ := he.reads hS r2
  exact ne_dataH ra rb hd.shaped he.shaped (O.room h) (by rw [hb]; exact hQ _ _ _ (List.Subset.refl _) hS (.bool _))
theorem pl_nil : Pl (.lst []) := ⟨rfl, by simp [toP, toPs, PyData.depth, PyData.depthAll]⟩
/-- a list against the empty one -/
theorem BinOk.eqNil (O : CxOk C k) (h : k < 980) {ds : List D} : BinOk C (compareOp .Eq) (.lst ds) (.lst []) (.bool ds.isEmpty) := by
  cases ds with
  | nil => exact BinOk.eqP O h pl_nil pl_nil (by simp [toP, toPs, PyData.eqv, PyData.eqvAll])
  | cons d ds =>
    intro kl m fz mu s Q v1 v2 hS r1 r2 hQ
    obtain ⟨a, vs, n, rfl, m1, q1⟩ := r1.lst_inv
    obtain ⟨b, ws, j, rfl, m2, q2⟩ := r2.lst_inv
    refine PySem.SeqAt.eq_list_lengthsAt (hS.isList m1) (hS.isList m2) ?_ (by have := O.room h; lia) (hQ _ _ _ (List.Subset.refl _) hS (.bool _))
    rw [List.size_toArray, List.size_toArray, q1.length, q2.length]; simp
end

theorem eqvAll_map {α : Type} [DecidableEq α] {f : α → D} (hf : ∀ a b, PyData.eqv (toP (f a)) (toP (f b)) = decide (a = b)) : ∀ l r : List α, PyData.eqvAll (toPs (l.map f)) (toPs (r.map f)) = decide (l = r)
  | [], [] => by simp [toPs, PyData.eqvAll]
  | [], _ :: _ => by simp [toPs, PyData.eqvAll]
  | _ :: _, [] => by simp [toPs, PyData.eqvAll]
  | a :: l, b :: r => by
    rw [List.map_cons, List.map_cons, toPs, toPs, PyData.eqvAll, hf, eqvAll_map hf l r]
    by_cases h1 : a = b <;> by_cases h2 : l = r <;> simp [h1, h2]
theorem eqv_int (a b : Int) : PyData.eqv (toP (.int a)) (toP (.int b)) = decide (a = b) := by
  simp [toP, PyData.eqv]; by_cases h : a = b <;> simp [h]
theorem eqv_bool (a b : Bool) : PyData.eqv (toP (.bool a)) (toP (.bool b)) = decide (a = b) := by
  cases a <;> cases b <;> simp [toP, PyData.eqv]
theorem eqv_lst {α : Type} [DecidableEq α] {f : α → D} (hf : ∀ a b, PyData.eqv (toP (f a)) (toP (f b)) = decide (a = b)) (l r : List α) : PyData.eqv (toP (.lst (l.map f))) (toP (.lst (r.map f))) = decide (l = r) := by
  rw [toP, toP, PyData.eqv]; exact eqvAll_map hf l r
theorem eqv_tup {α : Type} [DecidableEq α] {f : α → D} (hf : ∀ a b, PyData.eqv (toP (f a)) (toP (f b)) = decide (a = b)) (l r : List α) : PyData.eqv (toP (.tup (l.map f))) (toP (.tup (r.map f))) = decide (l = r) := by
  rw [toP, toP, PyData.eqv]; exact eqvAll_map hf l r

theorem okPs_map {α : Type} {f : α → D} : ∀ l : List α, (∀ a, okP (f a) = true) → okPs (l.map f) = true
  | [], _ => rfl
  | a :: l, h => by rw [List.map_cons, okPs, h a, okPs_map l h]; rfl
theorem depth_map {α : Type} {f : α → D} {n : Nat} : ∀ l : List α, (∀ a, (toP (f a)).depth ≤ n) → PyData.depthAll (toPs (l.map f)) ≤ n
  | [], _ => by simp [toPs, PyData.depthAll]
  | a :: l, h => by
    rw [List.map_cons, toPs, PyData.depthAll]
    exact Nat.max_le.mpr ⟨h a, depth_map l h⟩
theorem dep_int (a : Int) : (toP (.int a)).depth ≤ 0 := by simp [toP, PyData.depth]
theorem dep_bool (a : Bool) : (toP (.bool a)).depth ≤ 0 := by simp [toP, PyData.depth]
theorem dep_lst {α : Type} {f : α → D} {n : Nat} (h : ∀ a, (toP (f a)).depth ≤ n) (l : List α) : (toP (.lst (l.map f))).depth ≤ n + 1 := by
  rw [toP, PyData.depth]; have := depth_map l h; simp [*]
theorem dep_tup {α : Type} {f : α → D} {n : Nat} (h : ∀ a, (toP (f a)).depth ≤ n) (l : List α) : (toP (.tup (l.map f))).depth ≤ n + 1 := by
  rw [toP, PyData.depth]; have := depth_map l h; omega
theorem ok_lst {α : Type} {f : α → D} (h : ∀ a, okP (f a) = true) (l : List α) : okP (.lst (l.map f)) = true := by rw [okP]; exact okPs_map l h
theorem ok_tup {α : Type} {f : α → D} (h : ∀ a, okP (f a) = true) (l : List α) : okP (.tup (l.map f)) = true := by rw [okP]; exact okPs_map l h

/-- lists of int lists -/
noncomputable abbrev D.rows (l : List (List Int)) : D := .lst (l.map fun r => D.lst (r.map .int))
/-- lists of int tuples -/
noncomputable abbrev D.tups (l : List (List Int)) : D := .lst (l.map fun r => D.tup (r.map .int))
noncomputable abbrev D.bools (l : List Bool) : D := .lst (l.map .bool)
theorem pl_rows (l : List (List Int)) : Pl (D.rows l) := ⟨ok_lst (fun r => ok_lst (fun _ => rfl) r) l, Nat.le_trans (dep_lst (fun r => dep_lst dep_int r) l) (by decide)⟩
theorem pl_tups (l : List (List Int)) : Pl (D.tups l) := ⟨ok_lst (fun r => ok_tup (fun _ => rfl) r) l, Nat.le_trans (dep_lst (fun r => dep_tup dep_int r) l) (by decide)⟩
theorem pl_bools (l : List Bool) : Pl (D.bools l) := ⟨ok_lst (fun _ => rfl) l, Nat.le_trans (dep_lst dep_bool l) (by decide)⟩
theorem eqv_rows (l r : List (List Int)) : PyData.eqv (toP (D.rows l)) (toP (D.rows r)) = decide (l = r) := eqv_lst (fun a b => eqv_lst eqv_int a b) l r
theorem eqv_tups (l r : List (List Int)) : PyData.eqv (toP (D.tups l)) (toP (D.tups r)) = decide (l = r) := eqv_lst (fun a b => eqv_tup eqv_int a b) l r
theorem eqv_bools (l r : List Bool) : PyData.eqv (toP (D.bools l)) (toP (D.bools r)) = decide (l = r) := eqv_lst eqv_bool l r
/-- the normal forms -/
noncomputable abbrev D.norm (c : List Int) (b : Int) : D := .tup [.tup (c.map .int), .int b]
theorem pl_norm (c : List Int) (b : Int) : Pl (D.norm c b) := by
  refine ⟨?_, ?_⟩
  · show (okP (.tup (c.map .int)) && (true && true)) = true
    rw [ok_tup (fun _ => rfl) c]; rfl
  · have h := dep_tup dep_int c
    simp only [toP, toPs, PyData.depth, PyData.depthAll] at h ⊢
    grind
theorem eqv_norm (c c' : List Int) (b b' : Int) : PyData.eqv (toP (D.norm c b)) (toP (D.norm c' b')) = decide (c = c' ∧ b = b') := by
  have h := eqv_tup eqv_int c c'
  have h2 := eqv_int b b'
  have e : ∀ c b, toP (D.norm c b) = .tuple [toP (.tup (c.map .int)), toP (.int b)] := fun c b => by simp only [toP, toPs]
  rw [e, e, PyData.eqv, PyData.eqvAll, PyData.eqvAll, PyData.eqvAll, h, h2]
  by_cases h1 : c = c' <;> by_cases h2 : b = b' <;> simp [h1, h2]
end Mine
end

section
open PySem PySem.W PyProof.Rows PySem.Calls
set_option maxRecDepth 100000
namespace Mine
section
variable {P : Wd} {C : Cx P} {Γ Γ' : GEnv} {k : Nat} {kl : Led} {m m0 : Str → Option Value} {fz mu : Led} {s : Shared} {N : GEnv → Prop} {R : D → Prop} {B : GEnv → Prop}

-- THE BLOCK OF A COMPREHENSION
noncomputable abbrev Cx.blk (C : Cx P) (scope : Scope) (cl : List (Str × Addr)) (Cb : Addr) (m0 : Str → Option Value) : Cx P := { C with env := compEnvC scope cl Cb C.env, cm := some m0 }
theorem CxOk.blk (O : CxOk C k) {scope : Scope} {cl : List (Str × Addr)} {Cb : Addr} (hk : scope.kind = .function) (hn : (cl.map (·.2)).Nodup) : CxOk (C.blk scope cl Cb m0) k :=
  ⟨O.below, O.X, O.T, hk, O.fkind, O.fr, O.glob, (fun q => by cases q), O.hh, O.dep, O.uni, O.ca, hn⟩
theorem St.blk (h : St C kl m0 fz mu s) (hcm : C.cm = none) {scope : Scope} {cl : List (Str × Addr)} {Cb : Addr} {ob : Obj} (hm : (Cb, ob) ∈ mu) (hn : LCg.NsObj ob m) : St (C.blk scope cl Cb m0) [] m fz mu s := by
  obtain ⟨⟨mf, f1, F⟩, ⟨tb, T, N, A⟩, kp, wd⟩ := h
  unfold Fm at f1
  rw [hcm] at f1
  exact ⟨⟨mf, ⟨f1, ob, hm, hn⟩, F⟩, ⟨tb, T, N, A⟩, List.nil_subset _, wd⟩
theorem St.unblk {scope : Scope} {cl : List (Str × Addr)} {Cb : Addr} (h : St (C.blk scope cl Cb m0) [] m fz mu s) (hcm : C.cm = none) (hk : kl ⊆ mu) : St C kl m0 fz mu s := by
  obtain ⟨⟨mf, f1, F⟩, ⟨tb, T, N, A⟩, kp, wd⟩ := h
  obtain ⟨f1, _⟩ := f1
  refine ⟨⟨mf, ?_, F⟩, ⟨tb, T, N, A⟩, hk, wd⟩
  unfold Fm
  rw [hcm]; exact f1
/-- what is known of a block -/
structure Bk (C C' : Cx P) (k : Nat) (scope : Scope) (cl : List (Str × Addr)) : Prop where
  ok : CxOk C' k
  sco : C'.env.scope = relabel scope C.env
  cells : C'.env.cells = cl
  bi : C'.env.builtins = C.env.builtins
  code : C'.env.code = C.env.code
  A : C'.A = C.A

noncomputable def Γcl (Γ : GEnv) (cl : List (Str × Addr)) : GEnv := fun y => match cl.lookup y with
  | none => none
  | some _ => match Γ y with
    | some (.d d) => some (.d d)
    | _ => none

/-- the tests of a comprehension -/
noncomputable def IfsOk (C : Cx P) (Γ : GEnv) (ifs : List Expr) (b : Bool) : Prop :=
  ∀ ⦃kl : Led⦄ ⦃m : Str → Option Value⦄ ⦃fz mu : Led⦄ ⦃s : Shared⦄ ⦃Q : Bool → Shared → Prop⦄,
    EnvRep C kl m fz mu Γ → St C kl m fz mu s →
    (∀ fz' s', fz ⊆ fz' → St C kl m fz' mu s' → Q b s') →
    wpAny (model P.prog P.w) C.A (forIn ifs true fun c r => if r = true then do let ok ← isTrue c C.env (eval c C.env); pure (ForInStep.yield ok) else pure (ForInStep.yield r)) Q noE s
theorem IfsOk.nil : IfsOk C Γ [] true := fun _ _ _ _ _ _ _ hS hQ => wpAny_tests_nil (hQ _ _ (List.Subset.refl _) hS)
theorem IfsOk.one {t : Expr} {b : Bool} (h : TV C Γ t b) : IfsOk C Γ [t] b := fun _ _ _ _ _ _ hE hS hQ => wpAny_tests_one (h hE hS hQ)

theorem St.sub (h : St C kl m fz mu s) {mu' kl' : Led} (hs : mu' ⊆ mu) (hn : (mu'.map (·.1)).Nodup) (hk : kl' ⊆ mu') (hcm : C.cm = none) : St C kl' m fz mu' s := by
  obtain ⟨⟨mf, f1, F⟩, ⟨tb, T, N, A⟩, kp, wd⟩ := h
  refine ⟨⟨mf, ?_, F⟩, ⟨tb, T, fun p hp => N p ?_, ?_, fun p hp q hq => A.2 p hp q ?_⟩, hk, wd⟩
  · unfold Fm at f1 ⊢; rw [hcm] at f1 ⊢; exact f1
  · simp only [List.mem_append] at hp ⊢
    rcases hp with h | h | h
    · exact .inl h
    · exact .inr (.inl (hs h))
    · exact .inr (.inr h)
  · have nd := A.1
    rw [List.map_append, List.nodup_append] at nd ⊢
    refine ⟨hn, nd.2.1, fun a ha b hb => nd.2.2 a ?_ b hb⟩
    obtain ⟨p, hp, rfl⟩ := List.mem_map.mp ha
    exact List.mem_map_of_mem (hs hp)
  · rcases List.mem_append.mp hq with h | h
    · exact List.mem_append_left _ (hs h)
    · exact List.mem_append_right _ h
theorem St.nodup (h : St C kl m fz mu s) : (mu.map (·.1)).Nodup := by
  obtain ⟨_, ⟨tb, T, N, A⟩, _, _⟩ := h
  have nd := A.1
  rw [List.map_append, List.nodup_append] at nd
  exact nd.1
/-- an entry frozen -/
theorem St.frz (h : St C kl m fz mu s) {a : Addr} {o : Obj} (ha : (a, o) ∈ mu) {mu' kl' : Led} (hs : mu' ⊆ mu) (hn : (mu'.map (·.1)).Nodup) (hna : ∀ p ∈ mu', p.1 ≠ a) (hk : kl' ⊆ mu') (hcm : C.cm = none) : St C kl' m ((a, o) :: fz) mu' s := by
  have h2 := h.sub hs hn hk hcm
  obtain ⟨⟨mf, f1, F⟩, ⟨tb, T, N, A⟩, kp, wd⟩ := h
  have Ap : Apart fz (mu' ++ tb) := by
    refine ⟨?_, fun p hp q hq => A.2 p hp q ?_⟩
    · have nd := A.1
      rw [List.map_append, List.nodup_append] at nd ⊢
      refine ⟨hn, nd.2.1, fun a ha b hb => nd.2.2 a ?_ b hb⟩
      obtain ⟨p, hp, rfl⟩ := List.mem_map.mp ha
      exact List.mem_map_of_mem (hs hp)
    · rcases List.mem_append.mp hq with h | h
      · exact List.mem_append_left _ (hs h)
      · exact List.mem_append_right _ h
  refine ⟨h2.F, ⟨tb, T.mono (List.subset_cons_self _ _), fun p hp => N p ?_, Ap.cons fun q hq => ?_⟩, hk, wd⟩
  · simp only [List.mem_append, List.mem_cons] at hp ⊢
    rcases hp with (rfl | h) | h | h
    · exact .inr (.inl ha)
    · exact .inl h
    · exact .inr (.inl (hs h))
    · exact .inr (.inr h)
  · rcases List.mem_append.mp hq with h | h
    · exact fun e => hna q h e.symm
    · have nd := A.1
      rw [List.map_append, List.nodup_append] at nd
      exact nd.2.2 a (List.mem_map_of_mem ha) q.1 (List.mem_map_of_mem h)

theorem memX {mu : Led} {a b : Addr} {o o' : Obj} (h : (a, o) ∈ mu) (hn : a ≠ b) : (a, o) ∈ mset mu b o' := mem_mset_ne h hn

/-- the environment inside -/
theorem EnvRep.blk (hE : EnvRep C kl m0 fz mu Γ) {mu' : Led} (hs : mu ⊆ mu') {scope : Scope} {cl : List (Str × Addr)} {Cb : Addr} (hcl : ∀ y c, cl.lookup y = some c → C.env.cells.lookup y = some c) {x : Str} (hx : cl.lookup x = none) {v : Value} {d : D} (hm : m x = some v) (hr : Rep fz v d) :
    EnvRep (C.blk scope cl Cb m0) [] m fz mu' ((Γcl Γ cl).set x d) := by
  have cls : ∀ y g, Γcl Γ cl y = some g → ∃ d c, g = .d d ∧ Γ y = some (.d d) ∧ cl.lookup y = some c := by
    intro y g e
    unfold Γcl at e
    split at e
    · cases e
    · rename_i c hc
      split at e
      · rename_i d2 hd; cases e; exact ⟨d2, c, rfl, hd, hc⟩
      · cases e
  refine ⟨fun y g e => ?_, fun y z a ds es e1 _ => ?_, fun y c e => ?_⟩
  · by_cases hy : y = x
    · simp only [GEnv.set] at e
      rw [if_pos hy] at e; cases e
      refine ⟨v, ?_, hr⟩
      unfold Holds
      subst hy
      show (match cl.lookup y with | none => _ | some c => _)
      rw [hx]; exact hm
    · simp only [GEnv.set] at e
      rw [if_neg hy] at e
      obtain ⟨d2, c, rfl, g2, hc⟩ := cls y g e
      obtain ⟨u, h1, h2⟩ := hE.at_ y _ g2
      refine ⟨u, ?_, h2⟩
      unfold Holds at h1 ⊢
      rw [hcl y c hc] at h1
      show (match cl.lookup y with | none => _ | some c => _)
      rw [hc]
      obtain ⟨o, a, b⟩ := h1
      exact ⟨o, hs a, b⟩
  · simp only [GEnv.set] at e1
    by_cases hy : y = x
    · rw [if_pos hy] at e1; cases e1
    · rw [if_neg hy] at e1
      obtain ⟨d2, c, h, _⟩ := cls y _ e1
      cases h
  · obtain ⟨o, w, a, b, _⟩ := hE.cel y c (hcl y c e)
    exact ⟨o, w, hs a, b, fun _ p hp => by cases hp⟩

/-- the iterator is its own iterator -/
noncomputable def SelfIt (C : Cx P) (I : Addr) (Pr : Nat → Obj → Prop) : Prop := ∀ ⦃kl : Led⦄ ⦃m : Str → Option Value⦄ ⦃fz mu : Led⦄ ⦃s : Shared⦄ ⦃Q : Value → Shared → Prop⦄ ⦃E : Value → Shared → Prop⦄ ⦃o : Obj⦄, St C kl m fz mu s → (I, o) ∈ mu → Pr 0 o → Q (.ref I) s → wpAny (model P.prog P.w) C.A (pyIter (.ref I)) Q E s

theorem ns_noml {o : Obj} (h : LCg.NsObj o m) : NoMl o := by
  obtain ⟨es, ep, e, _⟩ := h
  exact ⟨(fun vs n q => by rw [q] at e; cases e), (fun w q => by rw [e] at q; cases q)⟩

theorem comp_block (O : CxOk C k) (hcm : C.cm = none) {scope : Scope} {cl : List (Str × Addr)} {x : Str} {px pos : Pos} {elt iter : Expr} {ifs : List Expr} {α : Type} (xs : List α) (f : α → D) (p : α → Bool) (g : α → D)
    (hk : scope.kind = .function) (hcell : ∀ y ∈ scope.names, y.2 ≠ .cell) (hxl : scope.names.lookup x = some .local) (hxn : cl.lookup x = none) (hcl : ∀ y c, cl.lookup y = some c → C.env.cells.lookup y = some c) (hcn : (cl.map (·.2)).Nodup)
    {I : Addr} {dat : Nat → D} {Pr : Nat → Obj → Prop} {fz0 : Led} (W : Itr C fz0 I xs.length dat Pr) (hself : SelfIt C I Pr) (hdat : ∀ i a, xs[i]? = some a → dat i = f a) (hsz : xs.length ≤ 1000000)
    (htest : ∀ C', Bk C C' k scope cl → ∀ a ∈ xs, IfsOk C' ((Γcl Γ cl).set x (f a)) ifs (p a))
    (helt : ∀ C', Bk C C' k scope cl → ∀ a ∈ xs, p a = true → EV C' ((Γcl Γ cl).set x (f a)) elt (g a))
    (hE : EnvRep C kl m0 fz mu Γ) {o : Obj} {mu1 : Led} (hS : St C kl m0 fz mu1 s) (hI : (I, o) ∈ mu1) (hmu : mu ⊆ mu1) (hmI : ∀ p ∈ mu, p.1 ≠ I) (hkl : kl ⊆ mu) (hP : Pr 0 o) (hf : fz0 ⊆ fz) {RR : Value → Addr → Result → Shared → Prop} {E : Value → Shared → Prop}
    (hRR : ∀ Dl Cb fz' mu' s' ob vs n, fz ⊆ fz' → St C kl m0 fz' mu' s' → mu ⊆ mu' → (Dl, lstObj vs n) ∈ mu' → Reps fz' vs ((xs.filter p).map g) → (Cb, ob) ∈ mu' → (∃ m, LCg.NsObj ob m) → (∀ p ∈ mu, p.1 ≠ Dl) → (∀ p ∈ mu, p.1 ≠ Cb) → Dl ≠ Cb → RR (.ref Dl) Cb (.ok .next) s') :
    wpAny (model P.prog P.w) C.A (newList []) (fun acc s₃ => wpAny (model P.prog P.w) C.A (newFunctionEnv scope C.env.globals cl [] C.env.qual none .none (some C.env)) (fun cenv s₄ =>
      codeAny (model P.prog P.w) C.A (.compStart (.ListComp elt [⟨.Name x px, iter, ifs, 0⟩] scope pos) 0 (.ref I) acc { cenv with scope := relabel scope C.env }) (RR acc cenv.locals) s₄) E s₃) E s := by
  refine wpAny_newObj_type (wpAny_newFunctionEnv hcell (by intro y hy; simp at hy) (fun h₁ hns₁ hsb₁ => ?_) hk)
  dsimp only at hns₁ hsb₁ ⊢
  have hS0 : St C [] m0 fz mu1 s := hS.sub (List.Subset.refl _) hS.nodup (List.nil_subset _) hcm
  have S1 : St C [] m0 fz ((s.heap.objs.size, lstObj [] 0) :: mu1) { s with heap := s.heap.push (lstObj [] 0) } := hS0.pushM _
  have hDf := hS0.freshM
  generalize hH : s.heap.push { cls := .type "list", dict := none, data := .seq ([] : List Value).toArray } = H2 at hns₁ hsb₁ ⊢
  have hH' : s.heap.push (lstObj [] 0) = H2 := hH
  rw [hH'] at S1
  have hCf : ∀ p ∈ (s.heap.objs.size, lstObj [] 0) :: mu1, p.1 ≠ H2.objs.size := S1.freshM
  have S2 := S1.pushM { cls := .type "dict", data := .dict #[] }
  obtain ⟨ob, ho, hn⟩ := LCg.ns_obj hns₁
  have S3 := S2.upd (o' := ob) (.head _) (by intro p hp; cases hp) (fun q => absurd hcm q) hsb₁ ho (s.toks + ([] : List (Str × Value)).length)
  generalize hDl : s.heap.objs.size = Dl at *
  generalize hCb : H2.objs.size = Cb at *
  have hDC : Dl ≠ Cb := hCf _ (.head _)
  have hIC : I ≠ Cb := hCf (I, o) (.tail _ hI)
  have hID : I ≠ Dl := hDf (I, o) hI
  have muC : ∀ p ∈ mu, p.1 ≠ Cb := fun p hp => hCf p (.tail _ (hmu hp))
  have muD : ∀ p ∈ mu, p.1 ≠ Dl := fun p hp => hDf p (hmu hp)
  have loop : ∀ s₃ mu3, St C [] m0 fz mu3 s₃ → mu ⊆ mu3 → (I, o) ∈ mu3 → (Dl, lstObj [] 0) ∈ mu3 → (Cb, ob) ∈ mu3 →
      codeAny (model P.prog P.w) C.A (.compLoop (.ListComp elt [⟨.Name x px, iter, ifs, 0⟩] scope pos) 0 (.ref I) (.ref Dl) (compEnvC scope cl Cb C.env)) (RR (.ref Dl) Cb) s₃ := by
    intro s₃ mu3 S₃ hm1 hm2 hm3 hm4
    refine codeAny_compLoop_tests (fun j s' => ∃ i mu' fz' m' o' ob' vs n, j = xs.length - i ∧ i ≤ xs.length ∧ fz ⊆ fz' ∧ St C [] m0 fz' mu' s' ∧ mu ⊆ mu' ∧ (I, o') ∈ mu' ∧ Pr i o' ∧ (Dl, lstObj vs n) ∈ mu' ∧
      Reps fz' vs (((xs.take i).filter p).map g) ∧ (Cb, ob') ∈ mu' ∧ LCg.NsObj ob' m') ?_ xs.length ⟨0, mu3, fz, _, o, ob, [], 0, rfl, Nat.zero_le _, List.Subset.refl _, S₃, hm1, hm2, hP, hm3, by simp; exact .nil, hm4, hn⟩
    rintro j s' ⟨i, mu', fz', m', o', ob', vs, n, rfl, hi, kf, S', a1, a2, a3, a4, a5, a6, a7⟩
    by_cases hlt : i < xs.length
    · obtain ⟨a, ha⟩ : ∃ a, xs[i]? = some a := ⟨xs[i], List.getElem?_eq_getElem hlt⟩
      have hax : a ∈ xs := List.mem_of_getElem? ha
      refine wpAny_mono (W.item i hlt (fun _ h => kf (hf h)) S' a2 a3 fun v o2 h2 tk hP2 hs2 hg2 hr => ?_) (fun _ _ q => q) (fun _ _ f => f.elim)
      rw [hdat i a ha] at hr
      have S5 := S'.upd (o' := o2) a2 (by intro p hp; cases hp) (fun q => absurd hcm q) hs2 hg2 tk
      have b1 : mu ⊆ mset mu' I o2 := fun p hp => mem_mset_ne (a1 hp) (hmI p hp)
      have b2 : (I, o2) ∈ mset mu' I o2 := mem_mset_self a2
      have b4 : (Dl, lstObj vs n) ∈ mset mu' I o2 := mem_mset_ne a4 (Ne.symm hID)
      have b6 : (Cb, ob') ∈ mset mu' I o2 := mem_mset_ne a6 (Ne.symm hIC)
      generalize mset mu' I o2 = mu5 at *
      refine wpAny_mono (assign_Name (wpAny_storeName_local (env := compEnvC scope cl Cb C.env) (m := m') (lookup_relabel_local hxl) (a7.ns (S5.atM b6)) (fun h6 hn6 hs6 => ?_) (by show (scope.kind == .class || (scope.kind == .module && _)) = false; rw [hk]; rfl) (E := noE))) (fun _ _ q => q) (fun _ _ f => f.elim)
      obtain ⟨ob6, ho6, hn6⟩ := LCg.ns_obj hn6
      have S6 := S5.upd (o' := ob6) b6 (by intro p hp; cases hp) (fun q => absurd hcm q) hs6 ho6 (tk + 1)
      have c1 : mu ⊆ mset mu5 Cb ob6 := fun p hp => mem_mset_ne (b1 hp) (muC p hp)
      have c2 : (I, o2) ∈ mset mu5 Cb ob6 := mem_mset_ne b2 hIC
      have c4 : (Dl, lstObj vs n) ∈ mset mu5 Cb ob6 := mem_mset_ne b4 hDC
      have c6 : (Cb, ob6) ∈ mset mu5 Cb ob6 := mem_mset_self b6
      generalize mset mu5 Cb ob6 = mu6 at *
      have bk : Bk C (C.blk scope cl Cb m0) k scope cl := ⟨O.blk hk hcn, rfl, rfl, rfl, rfl, rfl⟩
      have E6 : EnvRep (C.blk scope cl Cb m0) [] (fun y => if y = x then some v else m' y) fz' mu6 ((Γcl Γ cl).set x (f a)) := (hE.mono kf).blk c1 hcl hxn (by simp) hr
      refine wpAny_mono (htest _ bk a hax E6 (S6.blk hcm c6 hn6) fun fz7 s7 k7 S7 => ?_) (fun _ _ q => q) (fun _ _ f => f.elim)
      by_cases hpa : p a = true
      · rw [if_pos hpa]
        refine wpAny_mono (helt _ bk a hax hpa (E6.mono k7) S7 fun fz8 s8 y k8 S8 r8 => ?_) (fun _ _ q => q) (fun _ _ f => f.elim)
        have S8' : St C [] m0 fz8 mu6 s8 := S8.unblk hcm (List.nil_subset _)
        have rv := (a5.mono k7).mono k8
        refine append_at (S8'.atM c4) (fun h' hs9 ho9 => ?_) ?_
        · have e1 : (vs.toArray.push y) = (vs ++ [y]).toArray := by simp
          rw [e1] at ho9
          have S9 := S8'.upd (o' := lstObj (vs ++ [y]) (n + 1)) c4 (by intro p hp; cases hp) (fun q => absurd hcm q) hs9 ho9 s8.toks
          refine ⟨xs.length - (i + 1), by grind, i + 1, _, fz8, _, o2, ob6, vs ++ [y], n + 1, rfl, hlt, fun _ h => k8 (k7 (kf h)), S9, fun p hp => mem_mset_ne (c1 hp) (muD p hp), mem_mset_ne c2 hID, hP2, mem_mset_self c4, ?_, mem_mset_ne c6 (Ne.symm hDC), hn6⟩
          rw [take_succ_filter p xs i a ha, if_pos hpa, List.map_append]
          exact rv.snoc r8
        · rw [List.size_toArray, rv.length, List.length_map]
          have h1 := List.length_filter_le p (xs.take i)
          have h2 := List.length_take_le i xs
          rw [sizeLine_eq]; (clear hlt; lia)
      · rw [if_neg hpa]
        refine ⟨xs.length - (i + 1), by omega, i + 1, mu6, fz7, _, o2, ob6, vs, n, rfl, hlt, fun _ h => k7 (kf h), S7.unblk hcm (List.nil_subset _), c1, c2, hP2, c4, ?_, c6, hn6⟩
        rw [take_succ_filter p xs i a ha, if_neg hpa, List.append_nil]
        exact a5.mono k7
    · obtain rfl : i = xs.length := by lia
      refine wpAny_mono (W.done (fun _ h => kf (hf h)) S' a2 a3 fun h2 tk hx => ?_) (fun _ _ q => q) (fun _ _ f => f.elim)
      have S5 := S'.del a2 (by intro p hp; cases hp) hcm hx tk
      have d1 : mu ⊆ mdel mu' I := fun p hp => mem_mdel.mpr ⟨a1 hp, hmI p hp⟩
      rw [List.take_length] at a5
      exact hRR Dl Cb fz' _ _ ob' vs n kf (S5.sub (List.Subset.refl _) S5.nodup (fun p hp => d1 (hkl hp)) hcm) d1 (mem_mdel.mpr ⟨a4, Ne.symm hID⟩) a5 (mem_mdel.mpr ⟨a6, Ne.symm hIC⟩) ⟨_, a7⟩ muD muC hDC
  have e1 : mu ⊆ mset ((Cb, ({ cls := .type "dict", data := .dict #[] } : Obj)) :: (Dl, lstObj [] 0) :: mu1) Cb ob := fun p hp => mem_mset_ne (.tail _ (.tail _ (hmu hp))) (muC p hp)
  have e2 : (I, o) ∈ mset ((Cb, ({ cls := .type "dict", data := .dict #[] } : Obj)) :: (Dl, lstObj [] 0) :: mu1) Cb ob := mem_mset_ne (.tail _ (.tail _ hI)) hIC
  have e3 : (Dl, lstObj [] 0) ∈ mset ((Cb, ({ cls := .type "dict", data := .dict #[] } : Obj)) :: (Dl, lstObj [] 0) :: mu1) Cb ob := mem_mset_ne (.tail _ (.head _)) hDC
  have e4 : (Cb, ob) ∈ mset ((Cb, ({ cls := .type "dict", data := .dict #[] } : Obj)) :: (Dl, lstObj [] 0) :: mu1) Cb ob := mem_mset_self (.head _)
  exact codeAny_compStart_list (loop _ _ S3 e1 e2 e3 e4) (hself S3 e2 hP (loop _ _ S3 e1 e2 e3 e4))
end
end Mine
end

section
open PySem PySem.W PyProof.Rows PySem.Calls
set_option maxRecDepth 100000
namespace Mine
section
variable {P : Wd} {C : Cx P} {Γ Γ' : GEnv} {k : Nat} {kl : Led} {m m0 : Str → Option Value} {fz mu : Led} {s : Shared} {N : GEnv → Prop} {R : D → Prop} {B : GEnv → Prop}

-- ITERATORS
noncomputable def TupPr (l : Addr) (i : Nat) (o : Obj) : Prop := o.cls = .type "tuple_iterator" ∧ o.data = .fields #[.ref l, .int i 0]
theorem itr_tup (O : CxOk C k) {l I : Addr} {vs : List Value} {n : Nat} {ds : List D} {fz0 : Led} (hm : (l, tupObj vs n) ∈ fz0) (hr : Reps fz0 vs ds) : Itr C fz0 I ds.length (fun i => ds.getD i .none) (TupPr l) := by
  refine ⟨fun i o h => And.intro (fun vs n e => by rw [e] at h; exact absurd h.2 (by intro q; cases q)) (fun w e => by rw [h.2] at e; cases e), ?_, ?_⟩
  · intro i kl m fz mu s Q o hi kf hS hmI hP hQ
    have hd : ds[i]? = some (ds.getD i .none) := by rw [List.getD_eq_getElem?_getD, List.getElem?_eq_getElem hi]; rfl
    obtain ⟨v, e1, e2⟩ := hr.get hd
    refine wpAny_pyNext_tuple_item (i := i) ⟨o, hS.atM hmI, hP.1, hP.2⟩ (hS.isTup (kf hm)) (x := v) (by simpa using e1) fun h' hit hs => ?_
    obtain ⟨o', a, b, c⟩ := hit
    exact hQ v o' h' s.toks ⟨b, c⟩ hs a (e2.mono kf)
  · intro kl m fz mu s Q o kf hS hmI hP hQ
    refine wpAny_pyNext_tuple_end O.hh (i := ds.length) ⟨o, hS.atM hmI, hP.1, hP.2⟩ (hS.isTup (kf hm)) (by rw [List.getElem?_toArray, List.getElem?_eq_none_iff, hr.length]; exact Nat.le_refl _) fun h' hx => hQ h' s.toks hx
noncomputable def StrPr (x : Str) (t : Tok) (i : Nat) (o : Obj) : Prop := o.cls = .type "str_ascii_iterator" ∧ o.data = .fields #[.str x t, .int i 0]
theorem itr_str (O : CxOk C k) {I : Addr} {x : Str} {t : Tok} : Itr C [] I x.cps.size (fun i => .str ⟨#[x.cps.getD i 0]⟩) (StrPr x t) := by
  refine ⟨fun i o h => And.intro (fun vs n e => by rw [e] at h; exact absurd h.2 (by intro q; cases q)) (fun w e => by rw [h.2] at e; cases e), ?_, ?_⟩
  · intro i kl m fz mu s Q o hi kf hS hmI hP hQ
    refine wpAny_pyNext_ascii_item (t := t) (i := i) ⟨o, hS.atM hmI, hP.1, hP.2⟩ (c := x.cps.getD i 0) (by simp [hi]) fun h' hit hs => ?_
    obtain ⟨o', a, b, c⟩ := hit
    exact hQ _ o' h' (s.toks + 1) ⟨b, c⟩ hs a (.str _ _)
  · intro kl m fz mu s Q o kf hS hmI hP hQ
    exact wpAny_pyNext_ascii_end O.hh (t := t) (i := x.cps.size) ⟨o, hS.atM hmI, hP.1, hP.2⟩ (by simp) fun h' hx => hQ h' s.toks hx

/-- what an iterable gives -/
noncomputable def IT (C : Cx P) (Γ : GEnv) (iter : Expr) (n : Nat) (dat : Nat → D) : Prop :=
  ∀ ⦃kl : Led⦄ ⦃m : Str → Option Value⦄ ⦃fz mu : Led⦄ ⦃s : Shared⦄ ⦃Q : Value → Shared → Prop⦄,
    EnvRep C kl m fz mu Γ → St C kl m fz mu s →
    (∀ fz' s' I o Pr, fz ⊆ fz' → St C kl m fz' ((I, o) :: mu) s' → (∀ p ∈ mu, p.1 ≠ I) → Itr C fz' I n dat Pr → SelfIt C I Pr → Pr 0 o → Q (.ref I) s') →
    wpAny (model P.prog P.w) C.A (eval iter C.env) (fun v s1 => wpAny (model P.prog P.w) C.A (pyIter v) Q noE s1) noE s
theorem IT.lst (O : CxOk C k) {iter : Expr} {ds : List D} (hi : EV C Γ iter (.lst ds)) : IT C Γ iter ds.length (fun i => ds.getD i .none) := by
  intro kl m fz mu s Q hE hS hQ
  refine hi hE hS fun fz1 s1 v1 k1 S1 r1 => ?_
  obtain ⟨l, vs, n, rfl, hm, hr⟩ := r1.lst_inv
  refine wpAny_pyIter_list (S1.isList hm) ?_
  refine hQ _ _ _ _ (ListPr l) k1 (S1.pushM { cls := .type "list_iterator", data := .fields #[.ref l, .int 0 0] }) S1.freshM (itr_list O hm hr) ?_ ⟨rfl, rfl⟩
  intro kl m fz mu s Q E o hS hI hP hq
  exact wpAny_pyIter_listiter (i := 0) ⟨_, hS.atM hI, hP.1, hP.2⟩ hq
theorem IT.tup (O : CxOk C k) {iter : Expr} {ds : List D} (hi : EV C Γ iter (.tup ds)) : IT C Γ iter ds.length (fun i => ds.getD i .none) := by
  intro kl m fz mu s Q hE hS hQ
  refine hi hE hS fun fz1 s1 v1 k1 S1 r1 => ?_
  obtain ⟨l, vs, n, rfl, hm, hr⟩ := r1.tup_inv
  refine wpAny_pyIter_tuple (S1.isTup hm) ?_
  refine hQ _ _ _ _ (TupPr l) k1 (S1.pushM { cls := .type "tuple_iterator", data := .fields #[.ref l, .int 0 0] }) S1.freshM (itr_tup O hm hr) ?_ ⟨rfl, rfl⟩
  intro kl m fz mu s Q E o hS hI hP hq
  exact wpAny_pyIter_tupleiter (i := 0) ⟨_, hS.atM hI, hP.1, hP.2⟩ hq
theorem IT.rng (O : CxOk C k) {iter : Expr} {a b : Int} (hsm : Builtin.Range.small a b 1 = true) (hi : EV C Γ iter (.rng a b)) : IT C Γ iter (b - a).toNat (fun i => .int (a + i)) := by
  intro kl m fz mu s Q hE hS hQ
  refine hi hE hS fun fz1 s1 v1 k1 S1 r1 => ?_
  cases r1 with | rng hm =>
  refine wpAny_pyIter_range (S1.at_ hm) hsm ?_
  have en : (max a b - a).toNat = (b - a).toNat := by lia
  have W := itr_range O (I := s1.heap.objs.size) (a := a) (b := max a b) (fz0 := fz1) (by omega)
  rw [en] at W
  refine hQ _ _ _ _ (RngPr a (max a b)) k1 (S1.pushM { cls := .type "range_iterator", data := .fields #[rawInt a, rawInt (Builtin.Range.rangeSize a b 1), rawInt 1] }) S1.freshM W ?_ ?_
  · intro kl m fz mu s Q E o hS hI hP hq
    rw [hP] at hI
    exact wpAny_pyIter_rangeiter (hS.atM hI) hq
  · unfold RngPr
    rw [rangeSize_one]
    have e : (if a < b then b - a else 0) = max a b - a - ((0 : Nat) : Int) := by split <;> (clear en; lia)
    rw [e]
    have e2 : a + ((0 : Nat) : Int) = a := by simp
    rw [e2]
theorem IT.str (O : CxOk C k) {iter : Expr} {x : Str} (ha : x.cps.all (· < 128) = true) (hi : EV C Γ iter (.str x)) : IT C Γ iter x.cps.size (fun i => .str ⟨#[x.cps.getD i 0]⟩) := by
  intro kl m fz mu s Q hE hS hQ
  refine hi hE hS fun fz1 s1 v1 k1 S1 r1 => ?_
  obtain ⟨t, rfl⟩ := r1.str_inv
  refine wpAny_pyIter_ascii ha ?_
  refine hQ _ _ _ _ (StrPr x t) k1 (S1.pushM { cls := .type "str_ascii_iterator", data := .fields #[.str x t, .int 0 0] }) S1.freshM ?_ ?_ ⟨rfl, rfl⟩
  · have := itr_str O (I := s1.heap.objs.size) (x := x) (t := t)
    exact ⟨this.no, fun i kl m fz mu s Q o h1 h2 => this.item i h1 (List.nil_subset _), fun kl m fz mu s Q o h2 => this.done (List.nil_subset _)⟩
  · intro kl m fz mu s Q E o hS hI hP hq
    exact wpAny_pyIter_striter_ascii (t := t) (i := 0) ⟨_, hS.atM hI, hP.1, hP.2⟩ hq

theorem S1.forI (O : CxOk C k) {x : Str} {px pos : Pos} (hc : CanSt C x) {iter : Expr} {body : List Stmt} {n : Nat} {dat : Nat → D} (hi : IT C Γ iter n dat) (Inv : Nat → GEnv → Prop) (h0 : Inv 0 Γ)
    (hbody : ∀ i Γi, i < n → Inv i Γi → SS C (Γi.set x (dat i)) body (Inv (i + 1)) R N) (hend : ∀ Γ', Inv n Γ' → N Γ')
    (hs : ∀ env x, foldedSetIterable iter env x = pure x := by intro _ _; rfl) : S1 C Γ (.For (.Name x px) iter body [] pos) N R B := by
  intro kl m fz mu s Q hE hS q1 q2 q3
  refine wpAny_For (hi hE hS fun fz1 s1 I o Pr k1 S1 hfr W hself hP => ?_) (hs _)
  refine loop_gen (R := R) (N := N) O hc W Inv hbody hend (Γ := Γ) ((hE.mono k1).more (List.subset_cons_self _ _)) h0 S1 (List.Subset.refl _) (.head _) hP (fun p hp => hfr p (hS.kept hp)) (fun m' fz' mu' s' Γ' k' => q1 _ _ _ _ _ (fun _ h => k' (k1 h))) (fun m' fz' mu' s' v d k' => q2 _ _ _ _ _ _ (fun _ h => k' (k1 h)))

-- COMPREHENSIONS
/-- the shape of a comprehension -/
structure CompOk (C : Cx P) (scope : Scope) (cl : List (Str × Addr)) (x : Str) : Prop where
  clos : closureFor scope C.env = pure cl
  kind : scope.kind = .function
  cell : ∀ y ∈ scope.names, y.2 ≠ .cell
  nm : ∀ y ∈ scope.names, y.2 = .local → scope.names.lookup y.1 = some .local
  xl : scope.names.lookup x = some .local
  xn : cl.lookup x = none
  sub : ∀ y c, cl.lookup y = some c → C.env.cells.lookup y = some c
  nd : (cl.map (·.2)).Nodup

theorem EV.comp (O : CxOk C k) (hcm : C.cm = none) {scope : Scope} {cl : List (Str × Addr)} {x : Str} {px pos : Pos} {elt iter : Expr} {ifs : List Expr} (H : CompOk C scope cl x) {α : Type} (xs : List α) (f : α → D) (p : α → Bool) (g : α → D)
    {dat : Nat → D} (hi : IT C Γ iter xs.length dat) (hdat : ∀ i a, xs[i]? = some a → dat i = f a) (hsz : xs.length ≤ 1000000)
    (htest : ∀ C', Bk C C' k scope cl → ∀ a ∈ xs, IfsOk C' ((Γcl Γ cl).set x (f a)) ifs (p a))
    (helt : ∀ C', Bk C C' k scope cl → ∀ a ∈ xs, p a = true → EV C' ((Γcl Γ cl).set x (f a)) elt (g a))
    (hs : ∀ env x, foldedSetIterable iter env x = pure x := by intro _ _; rfl) :
    EV C Γ (.ListComp elt [⟨.Name x px, iter, ifs, 0⟩] scope pos) (.lst ((xs.filter p).map g)) := by
  intro kl m fz mu s Q hE hS hQ
  rw [eval_ListComp]
  refine wpAny_comprehension_free (use := none) rfl (hs _) H.clos H.kind H.nm (hi hE hS fun fz1 s1 I o Pr k1 S1 hfr W hself hP => ?_)
  refine comp_block (RR := fun acc Cb => compPost (model P.prog P.w) C.A noE none Q acc Cb) O hcm xs f p g H.kind H.cell H.xl H.xn H.sub H.nd W hself hdat hsz htest helt (hE.mono k1) S1 (.head _) (List.subset_cons_self _ _) hfr hS.kept hP (List.Subset.refl _) ?_
  intro Dl Cb fz' mu' s' ob vs n k2 S2 hm hD hr hC hn fD fC hDC
  obtain ⟨mm, hn⟩ := hn
  refine ⟨mm, hn.ns (S2.atM hC), fun h' hs' => ?_⟩
  have S3 := S2.del hC (fun p hp => fC p (hS.kept hp)) hcm hs'.extBut s'.toks
  have S4 := S3.frz (a := Dl) (mem_mdel.mpr ⟨hD, hDC⟩) (fun p hp => mem_mdel.mpr ⟨hm hp, fC p hp⟩) hS.nodup fD hS.kept hcm
  exact hQ _ _ _ (fun _ h => .tail _ (k2 (k1 h))) S4 (.lst (.head _) (hr.mono (List.subset_cons_self _ _)))

theorem S1.assignComp (O : CxOk C k) {y : Str} {py spos : Pos} (hc : CanSt C y) {scope : Scope} {cl : List (Str × Addr)} {x : Str} {px pos : Pos} {elt iter : Expr} {ifs : List Expr} (H : CompOk C scope cl x) {α : Type} (xs : List α) (f : α → D) (p : α → Bool) (g : α → D)
    {dat : Nat → D} (hi : IT C Γ iter xs.length dat) (hdat : ∀ i a, xs[i]? = some a → dat i = f a) (hsz : xs.length ≤ 1000000)
    (htest : ∀ C', Bk C C' k scope cl → ∀ a ∈ xs, IfsOk C' ((Γcl Γ cl).set x (f a)) ifs (p a))
    (helt : ∀ C', Bk C C' k scope cl → ∀ a ∈ xs, p a = true → EV C' ((Γcl Γ cl).set x (f a)) elt (g a))
    (hsw : swapsWith (.ListComp elt [⟨.Name x px, iter, ifs, 0⟩] scope pos) (some (.Name y py)) spos.line C.env = pure true)
    (hs : ∀ env x, foldedSetIterable iter env x = pure x := by intro _ _; rfl) :
    S1 C Γ (.Assign [.Name y py] (.ListComp elt [⟨.Name x px, iter, ifs, 0⟩] scope pos) spos) (fun G => G = Γ.set y (.lst ((xs.filter p).map g))) R B := by
  intro kl m fz mu s Q hE hS q1 q2 q3
  have hcm := hc.1
  rw [exec_Assign_Name_used _ _ _ _ hsw]
  refine wpAny_bind (wpAny_standAt (wpAny_bind ?_))
  show wpAny _ C.A (do let _ ← comprehension (.ListComp elt [⟨.Name x px, iter, ifs, 0⟩] scope pos) scope C.env _ (newList []) false (eval iter C.env) (some (PySem.assign (.Name y py) C.env))) _ _ s
  refine wpAny_bind (wpAny_mono (wpAny_comprehension_free (use := some (PySem.assign (.Name y py) C.env)) (Q := fun _ s' => Q .next s') rfl (hs _) H.clos H.kind H.nm (hi hE hS fun fz1 s1 I o Pr k1 S1 hfr W hself hP => ?_)) (fun _ s' hq => wpAny_pure (wpAny_pure hq)) fun _ _ e => e)
  refine comp_block (RR := fun acc Cb => compPost (model P.prog P.w) C.A noE (some (PySem.assign (.Name y py) C.env)) (fun _ s' => Q .next s') acc Cb) O hcm xs f p g H.kind H.cell H.xl H.xn H.sub H.nd W hself hdat hsz htest helt (hE.mono k1) S1 (.head _) (List.subset_cons_self _ _) hfr hS.kept hP (List.Subset.refl _) ?_
  intro Dl Cb fz' mu' s' ob vs n k2 S2 hm hD hr hC hn fD fC hDC
  obtain ⟨mm, hn⟩ := hn
  have nl := ns_noml hn
  have S3 := S2.frz (a := Dl) hD (mu' := (Cb, ob) :: mu) (kl' := (Cb, ob) :: kl) (fun p hp => by rcases List.mem_cons.mp hp with rfl | hp; exact hC; exact hm hp)
    (by rw [List.map_cons, List.nodup_cons]; exact ⟨fun h => by obtain ⟨p, hp, e⟩ := List.mem_map.mp h; exact fC p hp e, hS.nodup⟩)
    (fun p hp => by rcases List.mem_cons.mp hp with rfl | hp; exact Ne.symm hDC; exact fD p hp) (fun p hp => by rcases List.mem_cons.mp hp with rfl | hp; exact .head _; exact .tail _ (hS.kept hp)) hcm
  have E3 : EnvRep C ((Cb, ob) :: kl) m ((Dl, lstObj vs n) :: fz') ((Cb, ob) :: mu) Γ := (((hE.mono k1).mono k2).mono (List.subset_cons_self _ _)).more (List.subset_cons_self _ _) |>.addkl (S3.sub (List.Subset.refl _) S3.nodup (List.subset_cons_of_subset _ hS.kept) hcm) (.head _) nl
  show wpAny _ C.A (PySem.assign (.Name y py) C.env (.ref Dl)) _ _ _
  refine PyProof.Rows.assign_Name (store_d O hc E3 S3 (.lst (.head _) (hr.mono (List.subset_cons_self _ _))) fun m4 mu4 s4 E4 S4 => ?_)
  have hC4 : (Cb, ob) ∈ mu4 := S4.kept (.head _)
  refine ⟨mm, hn.ns (S4.atM hC4), fun h' hs' => ?_⟩
  have E5 := E4.unkl
  have S5 := S4.unkl
  exact q1 _ _ _ _ _ (fun _ h => .tail _ (k2 (k1 h))) rfl (E5.del S5 hC4 nl) (S5.del hC4 (fun p hp => fC p (hS.kept hp)) hcm hs'.extBut s4.toks)
end
end Mine
end

section
open PySem PySem.W PyProof.Rows PySem.Calls
set_option maxRecDepth 100000
namespace Mine

-- CELLS
theorem bindL_eq {kindOf : Str → Option NameKind} {y : Str} (hy : kindOf y = some .local) : ∀ (binds : List (Str × Value)) (m : Str → Option Value), bindL kindOf binds m y = ((binds.reverse.lookup y).or (m y))
  | [], m => rfl
  | (n, v) :: r, m => by
    rw [bindL, bindL_eq hy r, List.reverse_cons, List.lookup_append]
    cases q : r.reverse.lookup y with
    | some u => rfl
    | none =>
      simp only [Option.none_or, List.lookup_cons, List.lookup_nil]
      by_cases h : y = n
      · subst h; rw [if_pos hy]; simp
      · have : (y == n) = false := by simpa using h
        rw [this]
        split <;> simp [h]
theorem bindC_eq {kindOf : Str → Option NameKind} {y : Str} (hy : kindOf y ≠ some .local) : ∀ (binds : List (Str × Value)) (m : Str → Option Value), bindC kindOf binds m y = ((binds.reverse.lookup y).or (m y))
  | [], m => rfl
  | (n, v) :: r, m => by
    rw [bindC, bindC_eq hy r, List.reverse_cons, List.lookup_append]
    cases q : r.reverse.lookup y with
    | some u => rfl
    | none =>
      simp only [Option.none_or, List.lookup_cons, List.lookup_nil]
      by_cases h : y = n
      · subst h; rw [if_neg hy]; simp
      · have : (y == n) = false := by simpa using h
        rw [this]
        split <;> simp [h]
theorem cellsFrom_nd : ∀ (names : List (Str × NameKind)) (n : Nat) (acc : List (Str × Addr)), (acc.map (·.2)).Nodup → (∀ p ∈ acc, p.2 < n) → ((cellsFrom n names acc).map (·.2)).Nodup
  | [], n, acc, h, _ => h
  | (y, kd) :: r, n, acc, h, hl => by
    unfold cellsFrom
    split
    · refine cellsFrom_nd r (n + 1) _ ?_ ?_
      · rw [List.map_cons, List.nodup_cons]
        refine ⟨fun hm => ?_, h⟩
        obtain ⟨p, hp, e⟩ := List.mem_map.mp hm
        have := hl p hp
        simp only at e
        rw [e] at this; exact Nat.lt_irrefl _ this
      · intro p hp
        rcases List.mem_cons.mp hp with rfl | hp
        · exact Nat.lt_succ_self n
        · exact Nat.lt_succ_of_lt (hl p hp)
    · exact cellsFrom_nd r n acc h hl
theorem cellsFrom_ge : ∀ (names : List (Str × NameKind)) (n : Nat) (acc : List (Str × Addr)) (p : Str × Addr), p ∈ cellsFrom n names acc → p ∈ acc ∨ (n ≤ p.2 ∧ (p.1, NameKind.cell) ∈ names)
  | [], n, acc, p, h => .inl h
  | (y, kd) :: r, n, acc, p, h => by
    unfold cellsFrom at h
    split at h
    · rename_i e
      rcases cellsFrom_ge r (n + 1) _ p h with h | h
      · rcases List.mem_cons.mp h with rfl | h
        · rw [eq_of_beq e]
          exact .inr ⟨Nat.le_refl _, .head _⟩
        · exact .inl h
      · exact .inr ⟨Nat.le_of_succ_le h.1, .tail _ h.2⟩
    · rcases cellsFrom_ge r n acc p h with h | h
      · exact .inl h
      · exact .inr ⟨h.1, .tail _ h.2⟩
theorem CellsAre.mem {cm : Str → Option Value} : ∀ {cs : List (Str × Addr)} {cells : List (Addr × Obj)}, CellsAre cm cs cells → ∀ {p : Str × Addr}, p ∈ cs → ∃ o, (p.2, o) ∈ cells ∧ o.data = .cell (cm p.1)
  | _, _, .nil, _, h => nomatch h
  | _, _, .cons e r, p, h => by
    rcases List.mem_cons.mp h with rfl | h
    · exact ⟨_, .head _, e⟩
    · obtain ⟨o, a, b⟩ := CellsAre.mem r h
      exact ⟨o, .tail _ a, b⟩
theorem CellsAre.fst {cm : Str → Option Value} : ∀ {cs : List (Str × Addr)} {cells : List (Addr × Obj)}, CellsAre cm cs cells → cells.map (·.1) = cs.map (·.2)
  | _, _, .nil => rfl
  | _, _, .cons e r => by rw [List.map_cons, List.map_cons, CellsAre.fst r]
theorem CellsAre.data {cm : Str → Option Value} : ∀ {cs : List (Str × Addr)} {cells : List (Addr × Obj)}, CellsAre cm cs cells → ∀ p ∈ cells, ∃ w, p.2.data = .cell w
  | _, _, .nil, _, h => nomatch h
  | _, _, .cons e r, p, h => by
    rcases List.mem_cons.mp h with rfl | h
    · exact ⟨_, e⟩
    · exact CellsAre.data r p h

-- CALLS OF DEFS
inductive GReps (fz mu kl : Led) : List Value → List G → Prop
  | nil : GReps fz mu kl [] []
  | cons {v : Value} {vs : List Value} {g : G} {gs : List G} : GRep fz mu kl v g → GReps fz mu kl vs gs → GReps fz mu kl (v :: vs) (g :: gs)
theorem GReps.length {fz mu kl : Led} : ∀ {vs : List Value} {gs : List G}, GReps fz mu kl vs gs → vs.length = gs.length
  | _, _, .nil => rfl
  | _, _, .cons _ r => by rw [List.length_cons, List.length_cons, r.length]
theorem GReps.ofD {fz mu kl : Led} : ∀ {vs : List Value} {ds : List D}, Reps fz vs ds → GReps fz mu kl vs (ds.map .d)
  | _, _, .nil => .nil
  | _, _, .cons h r => .cons h (GReps.ofD r)
noncomputable def Γg (bs : List (Str × G)) : GEnv := fun y => bs.reverse.lookup y
theorem zip_lookG {fz mu kl : Led} : ∀ {names : List Str} {vs : List Value} {gs : List G}, GReps fz mu kl vs gs → ∀ {y : Str} {g : G}, (names.zip gs).reverse.lookup y = some g → ∃ v, (names.zip vs).reverse.lookup y = some v ∧ GRep fz mu kl v g
  | [], _, _, _, _, _, e => by simp at e
  | x :: names, _, _, .nil, _, _, e => by simp at e
  | x :: names, v :: vs, d0 :: ds, .cons h r, y, d, e => by
    rw [List.zip_cons_cons, List.reverse_cons, List.lookup_append] at e ⊢
    cases q : (names.zip ds).reverse.lookup y with
    | some d1 =>
      rw [q] at e
      obtain ⟨w, a, b⟩ := zip_lookG r q
      rw [a]
      cases e; exact ⟨w, rfl, b⟩
    | none =>
      rw [q] at e
      have hn : ∀ {vs : List Value} {ds : List G}, vs.length = ds.length → (names.zip ds).reverse.lookup y = none → (names.zip vs).reverse.lookup y = none := by
        intro vs ds hl
        rw [List.lookup_eq_none_iff, List.lookup_eq_none_iff]
        intro h p hp
        obtain ⟨z, v⟩ := p
        rw [List.mem_reverse] at hp
        obtain ⟨i, hi, e2⟩ := List.mem_iff_getElem.mp hp
        rw [List.getElem_zip] at e2
        have hi' : i < (names.zip ds).length := by rw [List.length_zip] at hi ⊢; lia
        have := h (names.zip ds)[i] (List.mem_reverse.mpr (List.getElem_mem hi'))
        rw [List.getElem_zip] at this
        rw [← (Prod.mk.inj e2).1]; exact this
      rw [hn r.length q]
      simp only [Option.none_or, List.lookup_cons, List.lookup_nil] at e ⊢
      cases hy : y == x with
      | true => rw [hy] at e; cases e; exact ⟨v, rfl, h⟩
      | false => rw [hy] at e; cases e

section
variable {P : Wd} {C : Cx P} {Γ Γ' : GEnv} {k : Nat} {kl : Led} {m : Str → Option Value} {fz mu : Led} {s : Shared}

/-- a frame of a def -/
structure Fd (C : Cx P) (k : Nat) (qual : Str) (S0 : Scope) (f : Addr) (cdv : Value) : Prop where
  ok : CxOk C k
  cm : C.cm = none
  en : C.env = envX qual S0 C.L f cdv (cellsFrom (C.L + 1) S0.names [])

theorem call_raw (O : CxOk C k) (hroom : k < 900) {f : Addr} {name qual : Str} {params : Arguments} {body : List Stmt} {scope : Scope} {dV kV doc pm cdv ct oc : Value} {an od : Option Addr} {osl : Array (Option Value)}
    (ho : P.K.lookup f = some ⟨oc, od, .func (fnOf name qual params body scope dV kV doc pm an cdv ct), osl⟩) (hcd : codeIn P.K cdv qual = true) {names : List Str} {bs : List Value} {gs : List G} {vs : List Value} {kw : List (Str × Value)} {klc : Led}
    (hb : BindsTo s (fnOf name qual params body scope dV kV doc pm an cdv ct) ⟨vs, kw⟩ (names.zip bs)) (hlen : names.length = gs.length)
    (hS : St C kl m fz mu s) (hkl : klc ⊆ mu) (hfm : ∀ mf, Fm C m mu mf → Fm C m klc mf) (hg : GReps fz mu klc bs gs)
    (hinj : ∀ x y a ds es, Γg (names.zip gs) x = some (.ml a ds) → Γg (names.zip gs) y = some (.ml a es) → x = y)
    (hkind : (names.all fun y => scope.names.lookup y == some .local || scope.names.lookup y == some .cell) = true) (hnd : ((cellsFrom 0 scope.names []).map (·.1)).Nodup) (hck : ∀ y ∈ scope.names, y.2 = .cell → scope.names.lookup y.1 = some .cell)
    {R : Result → Shared → Prop}
    (hbody : ∀ (C' : Cx P) m' mu' s', Fd C' (k + 1) qual scope f cdv → (∀ b o, C.g.get? b = some o → C'.g.get? b = some o) → mu ⊆ mu' → EnvRep C' klc m' fz mu' (Γg (names.zip gs)) → St C' klc m' fz mu' s' →
      wpAny (model P.prog P.w) C'.A (execs body C'.env) (fun fl s2 => ∃ m2 fz2 mu2, St C' klc m2 fz2 mu2 s2 ∧ (St C klc m fz2 mu2 s2 → R (.ok (.ret (match fl with | .ret v => v | _ => .none))) s2)) noE s')
    (hco : scope.isCoroutine = false) (hgen : scope.isGenerator = false) (hk : scope.kind = .function) : codeAny (model P.prog P.w) C.A (.call (.ref f) ⟨vs, kw⟩) R s := by
  obtain ⟨A₀, base, outer, B, hA⟩ := O.below
  obtain ⟨⟨mf, f1, F⟩, ⟨tb, T, N0, Ap⟩, kp, wd⟩ := id hS
  have hbl : ∀ y ∈ names.zip bs, y.1 ∈ names := fun y hy => (List.of_mem_zip hy).1
  refine code_defC (R := R) (binds := names.zip bs) B F O.X N0 O.T hA O.fr O.fkind ho hcd ?_ hb ?_ hnd (fun g L' h₁ tk cells FG F' N' Y B' X' T' hlt => ?_) hco hgen hk
  · have := O.dep; show C.A.depth < 1000; lia
  · rw [List.all_eq_true] at hkind ⊢
    exact fun y hy => hkind y.1 (hbl y hy)
  · have hcnd : ((cellsFrom (L' + 1) scope.names []).map (·.2)).Nodup := cellsFrom_nd _ _ _ List.nodup_nil (by intro p hp; cases hp)
    have O' := O.callee (qual := qual) (f := f) (cdv := cdv) (L' := L') (cl := cellsFrom (L' + 1) scope.names []) hA B' FG hk hcnd
    have hcge : ∀ p ∈ cells, L' < p.1 := by
      intro p hp
      have h1 : p.1 ∈ cells.map (·.1) := List.mem_map_of_mem hp
      rw [CellsAre.fst Y] at h1
      obtain ⟨q, hq, e⟩ := List.mem_map.mp h1
      rcases cellsFrom_ge _ _ _ _ hq with h | h
      · cases h
      · rw [← e]; exact h.1
    have hklL : ∀ p ∈ klc, p.1 < L' := fun p hp => hlt p (List.mem_append_right _ (List.mem_append_left _ (hkl hp)))
    have Sc : St (P := P) { A := C.A.deeper (envX qual scope L' f cdv (cellsFrom (L' + 1) scope.names [])), env := envX qual scope L' f cdv (cellsFrom (L' + 1) scope.names []), fenv := envX qual scope L' f cdv (cellsFrom (L' + 1) scope.names []), L := L', g := g, cm := none } klc
        (bindL (envOfC qual scope L' f cdv).kindOf (names.zip bs) fun _ => none) fz (cells ++ mu) { s with heap := h₁, toks := tk } := by
      refine ⟨⟨_, rfl, F'⟩, ⟨tb, T, fun p hp => N' p ?_, ?_, fun p hp q hq => ?_⟩, fun p hp => List.mem_append_right _ (hkl hp), wd⟩
      · simp only [List.mem_append] at hp ⊢
        rcases hp with h | (h | h) | h
        · exact .inr (.inl h)
        · exact .inl h
        · exact .inr (.inr (.inl h))
        · exact .inr (.inr (.inr h))
      · rw [List.append_assoc, List.map_append, List.nodup_append]
        refine ⟨by rw [CellsAre.fst Y]; exact hcnd, Ap.1, fun a ha b hb => ?_⟩
        obtain ⟨p, hp, rfl⟩ := List.mem_map.mp ha
        obtain ⟨q, hq, rfl⟩ := List.mem_map.mp hb
        exact Nat.ne_of_gt (Nat.lt_trans (hlt q (List.mem_append_right _ hq)) (hcge p hp))
      · rw [List.append_assoc] at hq
        rcases List.mem_append.mp hq with h | h
        · exact Nat.ne_of_lt (Nat.lt_trans (hlt p (List.mem_append_left _ hp)) (hcge q h))
        · exact Ap.2 p hp q h
    have cmem : ∀ y c, (cellsFrom (L' + 1) scope.names []).lookup y = some c → (∃ o, (c, o) ∈ cells ∧ o.data = .cell (bindC (envOfC qual scope L' f cdv).kindOf (names.zip bs) (fun _ => none) y)) ∧ scope.names.lookup y = some .cell := by
      intro y c e
      have hm := PySem.mem_of_lookup e
      obtain ⟨o, a, b⟩ := CellsAre.mem Y hm
      refine ⟨⟨o, a, b⟩, ?_⟩
      rcases cellsFrom_ge _ _ _ _ hm with h | h
      · cases h
      · exact hck _ h.2 rfl
    have Ec : EnvRep (P := P) { A := C.A.deeper (envX qual scope L' f cdv (cellsFrom (L' + 1) scope.names [])), env := envX qual scope L' f cdv (cellsFrom (L' + 1) scope.names []), fenv := envX qual scope L' f cdv (cellsFrom (L' + 1) scope.names []), L := L', g := g, cm := none } klc
        (bindL (envOfC qual scope L' f cdv).kindOf (names.zip bs) fun _ => none) fz (cells ++ mu) (Γg (names.zip gs)) := by
      refine ⟨fun y gg e => ?_, fun y z a ds es' e1 e2 => hinj y z a ds es' e1 e2, fun x c e => ?_⟩
      · obtain ⟨v, a, b⟩ := zip_lookG hg e
        refine ⟨v, ?_, ?_⟩
        · unfold Holds
          split
          · rename_i hcl
            have hcl : (cellsFrom (L' + 1) scope.names []).lookup y = none := hcl
            have hy : y ∈ names := (List.of_mem_zip (List.mem_reverse.mp (PySem.mem_of_lookup a))).1
            have hky := List.all_eq_true.mp hkind y hy
            rcases Bool.or_eq_true_iff.mp hky with h | h
            · have h' : scope.names.lookup y = some .local := by simpa using h
              show bindL _ _ _ y = _
              rw [bindL_eq (show (envOfC qual scope L' f cdv).kindOf y = some .local from h'), a]; rfl
            · have h' : scope.names.lookup y = some .cell := by simpa using h
              have := cellsFrom_some (x := y) scope.names (L' + 1) [] (.inl h')
              rw [hcl] at this; cases this
          · rename_i c hcl
            obtain ⟨⟨o, h1, h2⟩, h3⟩ := cmem y c hcl
            refine ⟨o, List.mem_append_left _ h1, ?_⟩
            have hne : (envOfC qual scope L' f cdv).kindOf y ≠ some .local := by
              show scope.names.lookup y ≠ _
              rw [h3]; intro q; cases q
            rw [h2, bindC_eq hne, a]; rfl
        · cases gg with
          | d _ => exact b
          | ml a ds =>
            obtain ⟨b1, b2, us, n, b3, b4⟩ := b
            exact ⟨b1, b2, us, n, List.mem_append_right _ b3, b4⟩
      · obtain ⟨⟨o, h1, h2⟩, h3⟩ := cmem x c e
        exact ⟨o, _, List.mem_append_left _ h1, h2, fun _ p hp => Nat.ne_of_lt (Nat.lt_trans (hklL p hp) (hcge (c, o) h1))⟩
    refine wpAny_mono (hbody _ _ _ _ ⟨O', rfl, rfl⟩ (fun b o e => FG.keep b o e) (fun p hp => List.mem_append_right _ hp) Ec Sc) (fun fl s2 h2 => ?_) (fun _ _ x => x.elim)
    obtain ⟨m2, fz2, mu2, S2, h2⟩ := h2
    obtain ⟨⟨mf2, g1, F2⟩, ⟨tb2, T2, N2, Ap2⟩, kp2, wd2⟩ := id S2
    exact leaveK_ (R := R) F2 N2 fun F3 N3 => h2 ⟨⟨mf, (hfm _ f1).mono kp2, F3⟩, ⟨tb2, T2, N3, Ap2⟩, kp2, wd2⟩

theorem call_core (O : CxOk C k) (hroom : k < 900) {f : Addr} {name qual : Str} {params : Arguments} {body : List Stmt} {scope : Scope} {dV kV doc pm cdv ct oc : Value} {an od : Option Addr} {osl : Array (Option Value)}
    (ho : P.K.lookup f = some ⟨oc, od, .func (fnOf name qual params body scope dV kV doc pm an cdv ct), osl⟩) (hcd : codeIn P.K cdv qual = true) {names : List Str} {bs : List Value} {gs : List G} {vs : List Value} {kw : List (Str × Value)} {klc : Led}
    (hb : BindsTo s (fnOf name qual params body scope dV kV doc pm an cdv ct) ⟨vs, kw⟩ (names.zip bs)) (hlen : names.length = gs.length)
    (hS : St C kl m fz mu s) (hkl : klc ⊆ mu) (hfm : ∀ mf, Fm C m mu mf → Fm C m klc mf) (hg : GReps fz mu klc bs gs)
    (hinj : ∀ x y a ds es, Γg (names.zip gs) x = some (.ml a ds) → Γg (names.zip gs) y = some (.ml a es) → x = y)
    (hkind : (names.all fun y => scope.names.lookup y == some .local || scope.names.lookup y == some .cell) = true) (hnd : ((cellsFrom 0 scope.names []).map (·.1)).Nodup) (hck : ∀ y ∈ scope.names, y.2 = .cell → scope.names.lookup y.1 = some .cell)
    {N : GEnv → Prop} {R : D → Prop} {Q : Value → Shared → Prop}
    (hbody : ∀ C' : Cx P, Fd C' (k + 1) qual scope f cdv → (∀ b o, C.g.get? b = some o → C'.g.get? b = some o) → SS C' (Γg (names.zip gs)) body N R (fun _ => False))
    (q1 : ∀ (C' : Cx P) m' fz' mu' s' Γ', fz ⊆ fz' → N Γ' → EnvRep C' klc m' fz' mu' Γ' → St C klc m fz' mu' s' → Q .none s')
    (q2 : ∀ fz' mu' s' v d, fz ⊆ fz' → R d → Rep fz' v d → St C klc m fz' mu' s' → Q v s')
    (hco : scope.isCoroutine = false) (hgen : scope.isGenerator = false) (hk : scope.kind = .function) : wpAny (model P.prog P.w) C.A (call (.ref f) vs kw) Q noE s := by
  refine wpAny_call (call_raw (R := fun r s' => match r with | .ok (.ret v) => Q v s' | .ok _ => False | .error e => noE e s') O hroom ho hcd hb hlen hS hkl hfm hg hinj hkind hnd hck (fun C' m' mu' s' Fd' hbase hmu E' S' => ?_) hco hgen hk)
  exact hbody C' Fd' hbase E' S' (fun m2 fz2 mu2 s2 Γ2 k2 n2 E2 S2 => ⟨m2, fz2, mu2, S2, fun S3 => q1 _ _ _ _ _ _ k2 n2 E2 S3⟩) (fun m2 fz2 mu2 s2 v d2 k2 hr2 r2 S2 => ⟨m2, fz2, mu2, S2, fun S3 => q2 _ _ _ _ _ k2 hr2 r2 S3⟩) (fun m2 fz2 mu2 s2 Γ2 k2 h2 => h2.elim)
end
end Mine
end

section
open PySem PySem.W PyProof.Rows PySem.Calls
set_option maxRecDepth 100000
namespace Mine
section
variable {P : Wd} {C : Cx P} {Γ Γ' : GEnv} {k : Nat} {kl : Led} {m : Str → Option Value} {fz mu : Led} {s : Shared} {N : GEnv → Prop} {R : D → Prop} {B : GEnv → Prop}

-- FREEZING
theorem EnvRep.freeze (hE : EnvRep C kl m fz mu Γ) (hS : St C kl m fz mu s) (hcm : C.cm = none) {x : Str} {a : Addr} {ds : List D} (hx : Γ x = some (.ml a ds)) : ∃ vs n, (a, lstObj vs n) ∈ mu ∧ Reps fz vs ds ∧ (∀ p ∈ kl, p.1 ≠ a) ∧
    EnvRep C kl m ((a, lstObj vs n) :: fz) (mdel mu a) (Γ.set x (.lst ds)) ∧ St C kl m ((a, lstObj vs n) :: fz) (mdel mu a) s := by
  obtain ⟨v0, h0, e0, hkl, vs, n, hm, hr⟩ := hE.at_ x _ hx
  have nc : ∀ {c ob w}, (c, ob) ∈ mu → ob.data = .cell w → c ≠ a := fun h e q => by subst q; rw [← hS.one hm h] at e; cases e
  have hold : ∀ y v, Holds C m mu y v → Holds C m (mdel mu a) y v := by
    intro y v h
    unfold Holds at h ⊢
    split at h
    · exact h
    · obtain ⟨ob, c1, c2⟩ := h
      exact ⟨ob, mem_mdel.mpr ⟨c1, nc c1 c2⟩, c2⟩
  refine ⟨vs, n, hm, hr, hkl, ⟨fun y g e => ?_, fun y z b d1 d2 e1 e2 => ?_, fun y c e => ?_⟩, ?_⟩
  · simp only [GEnv.set] at e
    by_cases hy : y = x
    · rw [if_pos hy] at e; cases e
      subst hy
      exact ⟨v0, hold _ _ h0, by subst e0; exact .lst (.head _) (hr.mono (List.subset_cons_self _ _))⟩
    · rw [if_neg hy] at e
      obtain ⟨v, b1, b2⟩ := hE.at_ y g e
      refine ⟨v, hold _ _ b1, ?_⟩
      cases g with
      | d _ => exact Rep.mono (List.subset_cons_self _ _) b2
      | ml c es =>
        obtain ⟨c1, c2, ws, j, c3, c4⟩ := b2
        exact ⟨c1, c2, ws, j, mem_mdel.mpr ⟨c3, fun q => hy (hE.inj y x c es ds e (by rw [show c = a from q]; exact hx))⟩, c4.mono (List.subset_cons_self _ _)⟩
  · simp only [GEnv.set] at e1 e2
    by_cases h1 : y = x
    · rw [if_pos h1] at e1; cases e1
    · rw [if_neg h1] at e1
      by_cases h2 : z = x
      · rw [if_pos h2] at e2; cases e2
      · rw [if_neg h2] at e2
        exact hE.inj y z b d1 d2 e1 e2
  · obtain ⟨ob, w, b1, b2, b3⟩ := hE.cel y c e
    exact ⟨ob, w, mem_mdel.mpr ⟨b1, nc b1 b2⟩, b2, b3⟩
  · refine hS.frz hm (fun p hp => (mem_mdel.mp hp).1) ?_ (fun p hp => (mem_mdel.mp hp).2) (fun p hp => mem_mdel.mpr ⟨hS.kept hp, hkl p hp⟩) hcm
    exact hS.nodup.sublist ((List.filter_sublist).map _)

theorem SG.freeze {t : Sem Flow} {x : Str} {a : Addr} {ds : List D} (hcm : C.cm = none) (hx : Γ x = some (.ml a ds)) (h : SG C (Γ.set x (.lst ds)) t N R B) : SG C Γ t N R B := by
  intro kl m fz mu s Q hE hS q1 q2 q3
  obtain ⟨vs, n, hm, hr, hkl, E1, S1⟩ := hE.freeze hS hcm hx
  exact h E1 S1 (fun m' fz' mu' s' Γ' k' => q1 _ _ _ _ _ (fun _ h => k' (.tail _ h))) (fun m' fz' mu' s' v d k' => q2 _ _ _ _ _ _ (fun _ h => k' (.tail _ h))) (fun m' fz' mu' s' Γ' k' => q3 _ _ _ _ _ (fun _ h => k' (.tail _ h)))

theorem St.thaw {a : Addr} {vs : List Value} {n : Nat} (h : St C kl m fz mu s) (ha : (a, lstObj vs n) ∈ fz) : St C kl m (mdel fz a) ((a, lstObj vs n) :: mu) s := by
  obtain ⟨⟨mf, f1, F⟩, ⟨tb, T, N, A⟩, kp, wd⟩ := h
  refine ⟨⟨mf, f1.mono (List.subset_cons_self _ _), F⟩, ⟨tb, ?_, fun p hp => N p ?_, ?_, ?_⟩, fun p hp => .tail _ (kp hp), wd⟩
  · have tabs : ∀ {l : List (Addr × Addr × Str)} {tb : Led}, Tabs fz l tb → Tabs (mdel fz a) l tb := by
      intro l tb h
      induction h with
      | nil => exact .nil
      | cons hk _ ih =>
        refine .cons ⟨hk.1, fun pos cv e => ?_⟩ ih
        obtain ⟨c, o, ws, t, e1, e2, e3, e4⟩ := hk.2 pos cv e
        refine ⟨c, o, ws, t, e1, mem_mdel.mpr ⟨e2, fun q => ?_⟩, e3, e4⟩
        have z1 := (N _ (List.mem_append_left _ e2)).1
        have z2 := (N _ (List.mem_append_left _ ha)).1
        simp only at q
        subst q
        rw [z1] at z2
        have z3 : o = lstObj vs n := Option.some.inj z2
        rw [z3] at e3
        cases e3
    exact tabs T
  · simp only [List.mem_append, List.mem_cons] at hp ⊢
    rcases hp with h | (rfl | h) | h
    · exact .inl (mem_mdel.mp h).1
    · exact .inl ha
    · exact .inr (.inl h)
    · exact .inr (.inr h)
  · rw [List.cons_append, List.map_cons, List.nodup_cons]
    refine ⟨fun hm => ?_, A.1⟩
    obtain ⟨q, hq, e⟩ := List.mem_map.mp hm
    exact A.2 _ ha q hq e.symm
  · intro p hp q hq
    rw [List.cons_append] at hq
    rcases List.mem_cons.mp hq with rfl | hq
    · exact (mem_mdel.mp hp).2
    · exact A.2 p (mem_mdel.mp hp).1 q hq

/-- data without places -/
noncomputable def D.atom : D → Bool
  | .none | .bool _ | .int _ | .flt _ | .str _ => true
  | _ => false
theorem Rep.atom {fz' : Led} {v : Value} {d : D} (h : Rep fz v d) (hd : d.atom = true) : Rep fz' v d := by
  cases h <;> first | exact .none | exact .bool _ | exact .int _ _ | exact .flt _ _ | exact .str _ _ | cases hd

theorem unpeek {fz' : Led} {s' : Shared} {a : Addr} {vs : List Value} {n : Nat} (hcm : C.cm = none) (hS : St C kl m fz mu s) (hm : (a, lstObj vs n) ∈ mu) (hk : (a, lstObj vs n) :: fz ⊆ fz') (S' : St C kl m fz' (mdel mu a) s') :
    fz ⊆ mdel fz' a ∧ St C kl m (mdel fz' a) mu s' := by
  refine ⟨fun p hp => mem_mdel.mpr ⟨hk (.tail _ hp), fun q => ?_⟩, ?_⟩
  · obtain ⟨_, ⟨tb, T, N, A⟩, _, _⟩ := hS
    exact A.2 p hp (a, lstObj vs n) (List.mem_append_left _ hm) q
  · refine (S'.thaw (hk (.head _))).sub (fun p hp => ?_) hS.nodup hS.kept hcm
    by_cases q : p.1 = a
    · obtain ⟨b, o⟩ := p
      simp only at q
      subst q
      rw [hS.one hp hm]
      exact .head _
    · exact .tail _ (mem_mdel.mpr ⟨hp, q⟩)

theorem EV.peek (hcm : C.cm = none) {x : Str} {a : Addr} {ds : List D} {e : Expr} {d : D} (hx : Γ x = some (.ml a ds)) (hd : d.atom = true) (h : EV C (Γ.set x (.lst ds)) e d) : EV C Γ e d := by
  intro kl m fz mu s Q hE hS hQ
  obtain ⟨vs, n, hm, hr, hkl, E1, S1⟩ := hE.freeze hS hcm hx
  refine h E1 S1 fun fz' s' v k' S' r' => ?_
  obtain ⟨a1, a2⟩ := unpeek hcm hS hm k' S'
  exact hQ _ _ _ a1 a2 (r'.atom hd)
theorem TV.peek (hcm : C.cm = none) {x : Str} {a : Addr} {ds : List D} {e : Expr} {b : Bool} (hx : Γ x = some (.ml a ds)) (h : TV C (Γ.set x (.lst ds)) e b) : TV C Γ e b := by
  intro kl m fz mu s Q hE hS hQ
  obtain ⟨vs, n, hm, hr, hkl, E1, S1⟩ := hE.freeze hS hcm hx
  refine h E1 S1 fun fz' s' k' S' => ?_
  obtain ⟨a1, a2⟩ := unpeek hcm hS hm k' S'
  exact hQ _ _ a1 a2

-- LISTS THAT TURN
theorem St.opnM (hS : St C kl m fz mu s) {a : Addr} {vs : List Value} {n : Nat} (hm : (a, lstObj vs n) ∈ mu) : s.heap.IsList a vs.toArray := ⟨_, hS.atM hm, rfl, _, rfl⟩
theorem mapSeq_set (items : List Value) (n j : Nat) (v : Value) : ∃ n', Obj.mapSeq (·.setIfInBounds j v) (lstObj items n) = lstObj (items.set j v) n' := by
  refine ⟨if (items.set j v).toArray.size = items.toArray.size then n else n + 1, ?_⟩
  simp [Obj.mapSeq, lstObj, PySem.W.listOf]
theorem Reps.set : ∀ {vs : List Value} {ds : List D}, Reps fz vs ds → ∀ (i : Nat) {v : Value} {d : D}, Rep fz v d → Reps fz (vs.set i v) (ds.set i d)
  | _, _, .nil, i, _, _, _ => by simp; exact .nil
  | _, _, .cons h r, 0, _, _, h2 => .cons h2 r
  | _, _, .cons h r, i + 1, _, _, h2 => .cons h (r.set i h2)

theorem S1.setItem (O : CxOk C k) {x : Str} {xp sp pos : Pos} {sl value : Expr} {a : Addr} {ds : List D} {d : D} {i : Int} (hx : Γ x = some (.ml a ds)) (hk : C.env.kindOf x = some .local) (hl : C.env.cells.lookup x = none) (hcm : C.cm = none)
    (hv : EV C Γ value d) (hi : EV C Γ sl (.int i)) (h0 : 0 ≤ i) (hn : i < ds.length) (hz : ds.length ≤ 1000000)
    (hs : ∀ env, swapsWith value (some (.Subscript (.Name x xp) sl sp)) pos.line env = pure false := by intro _; rfl) (hd : (x == ("__debug__" : Str)) = false := by decide) :
    S1 C Γ (.Assign [.Subscript (.Name x xp) sl sp] value pos) (fun g => g = Γ.setM x a (ds.set i.toNat d)) R B := by
  intro kl m fz mu s Q hE hS q1 q2 q3
  refine wpAny_Assign_Subscript (hv hE hS fun fz1 s1 v1 k1 S1 r1 => EV.nameM O hx hk hl hd (hE.mono k1) S1 fun fz2 s2 v2 k2 S2 r2 => hi ((hE.mono k1).mono k2) S2 fun fz3 s3 v3 k3 S3 r3 => ?_) (hs _)
  obtain rfl := r2.val_inv
  obtain ⟨t, rfl⟩ := r3.int_inv
  obtain ⟨v0, h0', _, hkl, vs, n, hm, hr⟩ := hE.at_ x _ hx
  obtain ⟨n', e⟩ := mapSeq_set vs n i.toNat v1
  refine PySem.W.ki_setAt (S3.atM hm) h0 (by lia) (by rw [List.size_toArray, hr.length]; exact hn) ?_
  have S4 := S3.upd (o' := lstObj (vs.set i.toNat v1) n') hm hkl (fun q => absurd hcm q) (Heap.SameBut.update _ a (Obj.mapSeq (·.setIfInBounds i.toNat v1))) (by rw [Heap.get?_update_self _ (S3.atM hm) (by rw [e]; rfl), e]) s3.toks
  exact q1 _ _ _ _ _ (fun _ h => k3 (k2 (k1 h))) rfl ((((hE.mono k1).mono k2).mono k3).turn S3 hx ((((hr.mono k1).mono k2).mono k3).set _ ((r1.mono k2).mono k3))) S4

/-- x[sl] += value on ints -/
theorem S1.augItem (O : CxOk C k) {x : Str} {xp sp pos : Pos} {sl value : Expr} {a : Addr} {ds : List D} {c e : Int} {i : Int} (hx : Γ x = some (.ml a ds)) (hk : C.env.kindOf x = some .local) (hl : C.env.cells.lookup x = none) (hcm : C.cm = none)
    (hi : EV C Γ sl (.int i)) (h0 : 0 ≤ i) (hc : ds[i.toNat]? = some (.int c)) (hv : EV C Γ value (.int e)) (hz : ds.length ≤ 1000000)
    (hs : ∀ ov iv new, augStore sl ov iv new = (do holding [new, ov, iv] (PySem.setItem ov iv new); release [new, ov, iv] []; pure .next) := by intros; rfl) (hd : (x == ("__debug__" : Str)) = false := by decide) :
    S1 C Γ (.AugAssign (.Subscript (.Name x xp) sl sp) .Add value pos) (fun g => g = Γ.setM x a (ds.set i.toNat (.int (c + e)))) R B := by
  intro kl m fz mu s Q hE hS q1 q2 q3
  have hn : i.toNat < ds.length := by
    by_cases h : i.toNat < ds.length
    · exact h
    · rw [List.getElem?_eq_none (Nat.not_lt.mp h)] at hc; cases hc
  refine wpAny_AugAssign_SubscriptAny (EV.nameM O hx hk hl hd hE hS fun fz1 s1 v1 k1 S1 r1 => hi (hE.mono k1) S1 fun fz2 s2 v2 k2 S2 r2 => ?_) hs
  obtain rfl := r1.val_inv
  obtain ⟨t, rfl⟩ := r2.int_inv
  obtain ⟨v0, h0', _, hkl, vs, n, hm, hr⟩ := hE.at_ x _ hx
  obtain ⟨vc, hc1, hc2⟩ := hr.get hc
  obtain ⟨tc, rfl⟩ := hc2.int_inv
  refine wpAny_getItem_list (S2.opnM hm) h0 (by (clear h0; lia)) (by simpa using hc1) ?_
  refine hv ((hE.mono k1).mono k2) S2 fun fz3 s3 v3 k3 S3 r3 => ?_
  obtain ⟨te, rfl⟩ := r3.int_inv
  refine PyProof.Rows.iadd_int ?_
  obtain ⟨n', e'⟩ := mapSeq_set vs n i.toNat (.int (c + e) s3.toks)
  have S3' := S3.tok (s3.toks + 1)
  refine PySem.W.ki_setAt (S3'.atM hm) h0 (by omega) (by rw [List.size_toArray, hr.length]; (clear h0; lia)) ?_
  have S4 := S3'.upd (o' := lstObj (vs.set i.toNat (.int (c + e) s3.toks)) n') hm hkl (fun q => absurd hcm q) (Heap.SameBut.update _ a (Obj.mapSeq (·.setIfInBounds i.toNat (.int (c + e) s3.toks)))) (by rw [Heap.get?_update_self _ (S3.atM hm) (by rw [e']; rfl), e']) (s3.toks + 1)
  exact q1 _ _ _ _ _ (fun _ h => k3 (k2 (k1 h))) rfl ((((hE.mono k1).mono k2).mono k3).turn S3 hx ((((hr.mono k1).mono k2).mono k3).set _ (.int _ _))) S4
end
end Mine
end

section
open PySem PySem.W PyProof.Rows PySem.Calls
set_option maxRecDepth 100000
namespace Mine
section
variable {P : Wd} {C : Cx P} {Γ Γ' : GEnv} {k : Nat} {kl : Led} {m : Str → Option Value} {fz mu : Led} {s : Shared} {N : GEnv → Prop} {R : D → Prop} {B : GEnv → Prop}

-- METHODS OF BUILT-IN TYPES
/-- the method of a value -/
noncomputable def GetM (C : Cx P) (d0 : D) (name : Str) (id : String) : Prop := ∀ ⦃kl : Led⦄ ⦃m : Str → Option Value⦄ ⦃fz mu : Led⦄ ⦃s : Shared⦄ ⦃Q : Value × List Value → Shared → Prop⦄ ⦃v : Value⦄ ⦃pl : Sem Bool⦄,
  St C kl m fz mu s → Rep fz v d0 → Q (.builtin id, [v]) s → wpAny (model P.prog P.w) C.A (getMethod v name pl) Q noE s
theorem GetM.lst {ds : List D} {name : Str} {id : String} (slot : Slot "list" name id) (hty : typeOf (.builtin id) = pure (.type "method_descriptor")) : GetM C (.lst ds) name id := by
  intro kl m fz mu s Q v pl hS hr hQ
  obtain ⟨a, vs, n, rfl, hm, q⟩ := hr.lst_inv
  exact getMethod_builtin (T := "list") ⟨_, hS.at_ hm, rfl⟩ PySem.F.plainAttrs_list slot hty (fun b e => by cases e; exact ⟨_, hS.at_ hm, rfl⟩) hQ
theorem GetM.str {x : Str} {name : Str} {id : String} (slot : Slot "str" name id) (hty : typeOf (.builtin id) = pure (.type "method_descriptor")) : GetM C (.str x) name id := by
  intro kl m fz mu s Q v pl hS hr hQ
  obtain ⟨t, rfl⟩ := hr.str_inv
  exact getMethod_builtin (T := "str") (typeIs_str _ _ _) PySem.F.plainAttrs_str slot hty (fun b e => by cases e) hQ
theorem EV.mcall {o : Expr} {name : Str} {id : String} {apos pos : Pos} {e : Expr} {es : List Expr} {d0 : D} {ds : List D} {d : D} (hg : GetM C d0 name id) (ho : EV C Γ o d0) (hs : EVs C Γ (e :: es) ds) (hc : CallOk C (.builtin id) (d0 :: ds) d)
    (hst : ∀ env, starEach (e :: es) env = (false, eval e env) :: starEach es env := by intro _; rfl) (hp : ∀ env, (starEach es env).any (·.1) = false := by intro _; rfl)
    {pl : Env → Sem Bool}
    (he : ∀ env, eval (.Call (.Attribute o name apos) (e :: es) [] pos) env = (do
      let ov ← eval o env
      standAt apos.atName
      let (f, first) ← holding [ov] (getMethod ov name (pl env))
      callWith pos f first (backTo pos (starEach (e :: es) env)) []) := by intro _; rfl) : EV C Γ (.Call (.Attribute o name apos) (e :: es) [] pos) d := by
  intro kl m fz mu s Q hE hS hQ
  refine MethodCall_ (pl := pl C.env) (ho hE hS fun fz1 s1 v1 k1 S1 r1 => ?_) (he _)
  refine hg S1 r1 (PyProof.Rows.callWith_method1 ?_ (hst _) (hplain pos es _ (hp _)))
  refine hs pos (hE.mono k1) S1 fun fz2 s2 vs k2 S2 rs => ?_
  exact hc S2 (.cons (r1.mono k2) rs) fun fz3 s3 v3 k3 S3 r3 => hQ _ _ _ (fun _ hp => k3 (k2 (k1 hp))) S3 r3

/-- list.index -/
theorem CallOk.index {ns : List Int} {x : Int} (hx : x ∈ ns) (hz : ns.length ≤ 1000000) : CallOk C (.builtin "list.index") [D.ints ns, .int x] (.int (ns.idxOf x : Nat)) := by
  intro kl m fz mu s Q vs hS r hQ
  obtain ⟨v1, v2, rfl, h1, h2⟩ := r.c2
  obtain ⟨a, ws, n, rfl, hm, q⟩ := h1.lst_inv
  obtain ⟨t, rfl⟩ := h2.int_inv
  have hi : IntsAre ws ns := q.ints
  have hlen := hi.length
  have hj : ns.idxOf x < ns.length := List.idxOf_lt_length_iff.mpr hx
  refine call_meets PySem.F.slot_list_index ⟨_, hS.at_ hm, rfl⟩ PySem.F.entry_list_index (PySem.F.args_list_index_2 _ _)
    (PySem.SeqAt.list_indexAt a ws.toArray n none #[] (.int x t) (isInt x) (ns.idxOf x) (by simpa [hlen] using hj) (by lia) ?_ ?_) ⟨hS.at_ hm, fun y hy => (eq_isInt x t hi y (by simpa using hy)).at _ _, hQ _ _ _ (List.Subset.refl _) (hS.tok _) (.int _ _)⟩
  · show isInt x ws[ns.idxOf x] = true
    rw [isInt_at x hi _ (by omega) hj]
    simpa using List.getElem_idxOf hj
  · intro j hjs hlt
    show isInt x ws[j] = false
    rw [isInt_at x hi j (by simpa using hjs) (by lia)]
    exact ne_of_lt_idxOf hlt _

-- TEXTS
theorem Reps.strs : ∀ {vs : List Value} {xs : List Str}, Reps fz vs (xs.map .str) → ∃ l : List (Str × Tok), vs = strValues l ∧ l.map (·.1) = xs
  | _, [], r => by cases r; exact ⟨[], rfl, rfl⟩
  | _, x :: xs, r => by
    cases r with | cons h r =>
    obtain ⟨t, rfl⟩ := h.str_inv
    obtain ⟨l, rfl, e⟩ := r.strs
    exact ⟨(x, t) :: l, rfl, by rw [List.map_cons, e]⟩
theorem CallOk.join {x : Str} {texts : List Str} (h : JoinOk x texts = true) : CallOk C (.builtin "str.join") [.str x, .lst (texts.map .str)] (.str (Txt.join x texts)) := by
  intro kl m fz mu s Q vs hS r hQ
  obtain ⟨v1, v2, rfl, h1, h2⟩ := r.c2
  obtain ⟨t, rfl⟩ := h1.str_inv
  obtain ⟨a, ws, n, rfl, hm, q⟩ := h2.lst_inv
  obtain ⟨l, rfl, e⟩ := q.strs
  exact SC.join (hS.isList hm) e h fun t' kk => hQ _ _ _ (List.Subset.refl _) (hS.tok _) (.str _ _)
theorem BinOk.mulS {x : Str} {n : Int} (h : MulOk x n) : BinOk C (binaryOp .Mult) (.str x) (.int n) (.str (Txt.mul x n)) := by
  intro kl m fz mu s Q v1 v2 hS r1 r2 hQ
  obtain ⟨t, rfl⟩ := r1.str_inv
  obtain ⟨u, rfl⟩ := r2.int_inv
  exact SB.mul h fun t' kk => hQ _ _ _ (List.Subset.refl _) (hS.tok _) (.str _ _)

-- STATEMENTS
theorem S1.assign3 (O : CxOk C k) {x y z : Str} {px py pz pos : Pos} {e : Expr} {d : D} (hx : CanSt C x) (hy : CanSt C y) (hz : CanSt C z) (he : EV C Γ e d)
    (hw : ∀ env, swappedStores [.Name x px, .Name y py, .Name z pz] e env = pure none := by intro _; rfl) :
    S1 C Γ (.Assign [.Name x px, .Name y py, .Name z pz] e pos) (fun g => g = ((Γ.set x d).set y d).set z d) R B := by
  intro kl m fz mu s Q hE hS q1 q2 q3
  refine wpAny_Assign_three (he hE hS fun fz1 s1 v1 k1 S1 r1 => PyProof.Rows.assign_Name (store_d O hx (hE.mono k1) S1 r1 fun m2 mu2 s2 E2 S2 => PyProof.Rows.assign_Name (store_d O hy E2 S2 r1 fun m3 mu3 s3 E3 S3 => PyProof.Rows.assign_Name (store_d O hz E3 S3 r1 fun m4 mu4 s4 E4 S4 => ?_)))) rfl (hw _)
  exact q1 _ _ _ _ _ k1 rfl E4 S4
/-- x op= e -/
theorem S1.augMul (O : CxOk C k) {x : Str} {px pos : Pos} {e : Expr} {a b : Int} {c : Addr} (hc : CanSt C x) (hx : Γ x = some (.d (.int a))) (hk : C.env.kindOf x = some .cell) (hl : C.env.cells.lookup x = some c) (he : EV C Γ e (.int b)) (hm : IntMulOk a b) :
    S1 C Γ (.AugAssign (.Name x px) .Mult e pos) (fun g => g = Γ.set x (.int (a * b))) R B := by
  intro kl m fz mu s Q hE hS q1 q2 q3
  obtain ⟨v, h1, h2⟩ := hE.at_ x _ hx
  unfold Holds at h1
  rw [hl] at h1
  obtain ⟨o, ho, hv⟩ := h1
  obtain ⟨t, rfl⟩ := Rep.int_inv h2
  refine wpAny_AugAssign_Name (wpAny_loadName_cell O.kind hk hl ⟨o, hS.atM ho, hv⟩ (he hE hS fun fz1 s1 v1 k1 S1 r1 => ?_))
  obtain ⟨u, rfl⟩ := r1.int_inv
  exact PyProof.Rows.imul_int (store_d O hc (hE.mono k1) (S1.tok _) (.int _ _) fun m2 mu2 s2 E2 S2 => q1 _ _ _ _ _ k1 rfl E2 S2) hm

/-- an expression statement a.insert(i, e) -/
noncomputable def insD (ds : List D) (i : Int) (d : D) : List D := ds.take (if i < 0 then (i + (ds.length : Int)).toNat else min i.toNat ds.length) ++ d :: ds.drop (if i < 0 then (i + (ds.length : Int)).toNat else min i.toNat ds.length)
theorem upd_f {h : Heap} {a : Addr} {vs : List Value} {n : Nat} (f : Array Value → Array Value) {its' : List Value} (ho : h.get? a = some (lstObj vs n)) (he : f vs.toArray = its'.toArray) : ∃ n', (h.update a (Obj.mapSeq f)).get? a = some (lstObj its' n') := by
  have q := PySem.IsL.update ho f
  rw [he] at q
  exact ⟨_, q⟩
theorem upd_ins {h : Heap} {a : Addr} {vs : List Value} {n : Nat} (i : Int) (y : Value) (ho : h.get? a = some (lstObj vs n)) : ∃ n', (h.update a (Obj.mapSeq fun xs => have k := if i < 0 then (i + (xs.size : Int)).toNat else min i.toNat xs.size; (xs.extract 0 k).push y ++ xs.extract k)).get? a = some (lstObj (kl_ins vs i y) n') := by
  refine upd_f _ ho ?_
  show (vs.toArray.extract 0 (if i < 0 then (i + (vs.toArray.size : Int)).toNat else min i.toNat vs.toArray.size)).push y ++ vs.toArray.extract (if i < 0 then (i + (vs.toArray.size : Int)).toNat else min i.toNat vs.toArray.size) = (kl_ins vs i y).toArray
  rw [kl_ins_eq, List.size_toArray]; rfl
theorem S1.insert (O : CxOk C k) {x : Str} {xp ap cp pos : Pos} {e1 e2 : Expr} {a : Addr} {ds : List D} {d : D} {i : Int} (hx : Γ x = some (.ml a ds)) (hk : C.env.kindOf x = some .local) (hl : C.env.cells.lookup x = none) (hcm : C.cm = none)
    (h1 : EV C Γ e1 (.int i)) (h2 : EV C Γ e2 d) (hf : Builtin.List.listFitsIndex i = true) (hz : ds.length ≤ 1000000)
    (hst : ∀ env, starEach [e1, e2] env = [(false, eval e1 env), (false, eval e2 env)] := by intro _; rfl) (hst2 : ∀ env, starEach [e2] env = [(false, eval e2 env)] := by intro _; rfl)
    {pl : Env → Sem Bool}
    (hv : ∀ env, eval (.Call (.Attribute (.Name x xp) "insert" ap) [e1, e2] [] cp) env = (do
      let ov ← eval (.Name x xp) env
      standAt ap.atName
      let (f, first) ← holding [ov] (getMethod ov "insert" (pl env))
      callWith cp f first (backTo cp (starEach [e1, e2] env)) []) := by intro _; rfl)
    (hs : ∀ env, swapsWith (.Call (.Attribute (.Name x xp) "insert" ap) [e1, e2] [] cp) none pos.line env = pure false := by intro _; rfl) (hd : (x == ("__debug__" : Str)) = false := by decide) :
    S1 C Γ (.Expr (.Call (.Attribute (.Name x xp) "insert" ap) [e1, e2] [] cp) pos) (fun g => g = Γ.setM x a (insD ds i d)) R B := by
  intro kl m fz mu s Q hE hS q1 q2 q3
  refine wpAny_Expr (MethodCall_ (pl := pl C.env) (EV.nameM O hx hk hl hd hE hS fun fz1 s1 v1 k1 S1 r1 => ?_) (hv _)) (notInteractive O) (hs _)
  obtain rfl := r1.val_inv
  obtain ⟨v0, h0, _, hkl, vs, n, hm, hr⟩ := hE.at_ x _ hx
  refine getMethod_builtin (T := "list") ⟨_, S1.atM hm, rfl⟩ PySem.F.plainAttrs_list PySem.F.slot_list_insert PySem.F.type_list_insert (fun b e => by cases e; exact ⟨_, S1.atM hm, rfl⟩) ?_
  have hst' : ∀ env, starEach (e1 :: [e2]) env = (false, eval e1 env) :: [(false, eval e2 env)] := hst
  refine PyProof.Rows.callWith_method1 (e := e1) (rest := [e2]) ?_ (by rw [hst' _, hst2]) (by rw [hst2]; rfl)
  have hs1 : EVs C Γ [e1, e2] [.int i, d] := EVs.cons h1 (EVs.cons h2 EVs.nil (fun env => by rw [hst2]; rfl)) (fun env => by rw [hst' env, hst2])
  refine hs1 cp (hE.mono k1) S1 fun fz2 s2 vs2 k2 S2 r2 => ?_
  obtain ⟨v1, v2, rfl, r3, r4⟩ := r2.c2
  obtain ⟨t, rfl⟩ := r3.int_inv
  obtain ⟨n', e⟩ := upd_ins i v2 (S2.atM hm)
  refine call_meets PySem.F.slot_list_insert ⟨_, S2.atM hm, rfl⟩ PySem.F.entry_list_insert (PySem.F.args_list_insert_3 _ _ _) (PySem.AutoSeq1.list_insert_list_int_val_1 a vs.toArray n i t v2 (by simp [hf]) (by rw [List.size_toArray, hr.length, sizeLine_eq]; lia)) ⟨S2.atM hm, ?_⟩
  have S4 := S2.upd (o' := lstObj (kl_ins vs i v2) n') hm hkl (fun q => absurd hcm q) (Heap.SameBut.update _ a _) e s2.toks
  have hr2 := (hr.mono k1).mono k2
  refine q1 _ _ _ _ _ (fun _ h => k2 (k1 h)) rfl (((hE.mono k1).mono k2).turn S2 hx ?_) S4
  unfold kl_ins insD
  rw [hr.length]
  exact (hr2.take _).append (.cons r4 (hr2.drop _))
end
end Mine
end

section
open PySem PySem.W PyProof.Rows PySem.Calls
set_option maxRecDepth 100000
namespace Mine
section
variable {P : Wd} {C : Cx P} {Γ Γ' : GEnv} {k : Nat} {kl : Led} {m : Str → Option Value} {fz mu : Led} {s : Shared} {N : GEnv → Prop} {R : D → Prop} {B : GEnv → Prop}

-- LAMBDAS
theorem codeAll_mem {h : Heap} : ∀ {l : List (Addr × Addr)} {c T : Addr}, CodeAll l h → (c, T) ∈ l → CodeHd h c T
  | [], _, _, _, hm => nomatch hm
  | q :: r, c, T, hc, hm => by
    rcases List.mem_cons.mp hm with rfl | hm
    · exact hc.1
    · exact codeAll_mem hc.2 hm
theorem Tabs.split : ∀ {l : List (Addr × Addr × Str)} {tb : Led}, Tabs fz l tb → ∀ {c T : Addr} {q : Str}, (c, T, q) ∈ l → ∃ ps tb1 tb2, tb = tb1 ++ (T, tabObj ps) :: tb2 ∧ TabOk fz q ps ∧
    ∀ fz' ps', fz ⊆ fz' → TabOk fz' q ps' → Tabs fz' l (tb1 ++ (T, tabObj ps') :: tb2)
  | _, _, .nil, _, _, _, hm => nomatch hm
  | _, _, .cons (c := c0) (T := T0) (q := q0) (ps := ps0) (tb := tb0) hk hr, c, T, q, hm => by
    rcases List.mem_cons.mp hm with e | hm
    · cases e
      exact ⟨ps0, [], tb0, rfl, hk, fun fz' ps' k h => .cons h (hr.mono k)⟩
    · obtain ⟨ps, tb1, tb2, rfl, h1, h2⟩ := hr.split hm
      exact ⟨ps, _ :: tb1, tb2, rfl, h1, fun fz' ps' k h => .cons (hk.mono k) (h2 fz' ps' k h)⟩
/-- a look through a longer table: the front part speaks first -/
theorem among_app {pos : Pos} (l r : List Value) (h : TriplesOk l) : codeAmong pos (l ++ r) = (codeAmong pos l).or (codeAmong pos r) := by
  fun_induction TriplesOk l with
  | case1 => rfl
  | case2 _ _ _ _ _ _ ih =>
    rw [List.cons_append, List.cons_append, List.cons_append, codeAmong, codeAmong]
    split
    · rfl
    · exact ih h
  | case3 => exact h.elim
theorem among_one {pos pos' : Pos} {c cv : Value} (h : codeAmong pos' [rawInt pos.line, rawInt pos.col, c] = some cv) : cv = c := by
  simp only [rawInt, codeAmong, Option.ite_none_right_eq_some] at h
  exact (Option.some.inj h.2).symm
theorem TabOk.snoc {q : Str} {ps : Array Value} (h : TabOk fz q ps) {pos : Pos} {c : Addr} {oc : Obj} {vs : Array Value} {t : Tok} (hc : (c, oc) ∈ fz) (hd : oc.data = .fields vs) (hv : vs[1]? = some (.str q t)) : TabOk fz q (ps ++ #[rawInt pos.line, rawInt pos.col, .ref c]) := by
  have e : (ps ++ #[rawInt pos.line, rawInt pos.col, .ref c]).toList = ps.toList ++ [rawInt pos.line, rawInt pos.col, .ref c] := by simp
  refine ⟨by rw [e]; exact TriplesOk_snoc _ _ _ _ h.1, fun pos' cv he => ?_⟩
  rw [e] at he
  rw [among_app _ _ h.1] at he
  cases q : codeAmong pos' ps.toList with
  | none => rw [q] at he; exact ⟨c, oc, vs, t, among_one he, hc, hd, hv⟩
  | some x => rw [q] at he; exact h.2 pos' cv (q.trans he)

theorem EV.lam (O : CxOk C k) (hcm : C.cm = none) {qual : Str} {S0 : Scope} {f c T : Addr} {cl : List (Str × Addr)} {q : Str} (en : C.env = envX qual S0 C.L f (.ref c) cl) (ht : (c, T, q) ∈ P.tabs) (hq : C.env.qual ++ "<lambda>" = q)
    {params : Arguments} {body : Expr} {scope : Scope} {pos : Pos} {clos : List (Str × Addr)} (hcl : closureFor scope C.env = pure clos) (hdef : defaultsOf params C.env = ([], [])) : EV C Γ (.Lambda params body scope pos) (.fn ⟨q, params, body, scope, clos⟩) := by
  intro kl m fz mu s Q hE hS hQ
  obtain ⟨⟨mf, f1, F⟩, ⟨tb, Tb, N, A⟩, kp, wd⟩ := hS
  obtain ⟨ps, tb1, tb2, rfl, tok, tback⟩ := Tb.split ht
  have hd : CodeHd C.g c T := codeAll_mem O.ca (List.mem_map.mpr ⟨_, ht, rfl⟩)
  refine kla_eval hdef ?_
  rw [hq]
  rw [en] at hcl ⊢
  cases hca : codeAmong pos ps.toList with
  | none =>
    have perm : ∀ p, p ∈ (T, tabObj ps) :: (fz ++ (mu ++ (tb1 ++ tb2))) → p ∈ fz ++ (mu ++ (tb1 ++ (T, tabObj ps) :: tb2)) := by
      intro p hp
      simp only [List.mem_cons, List.mem_append] at hp ⊢
      rcases hp with h | h | h | h | h
      · exact .inr (.inr (.inr (.inl h)))
      · exact .inl h
      · exact .inr (.inl h)
      · exact .inr (.inr (.inl h))
      · exact .inr (.inr (.inr (.inr h)))
    have N2 : News C.g C.L s.heap ((T, tabObj ps) :: (fz ++ (mu ++ (tb1 ++ tb2)))) := fun p hp => N p (perm p hp)
    have hne : ∀ p ∈ fz ++ (mu ++ (tb1 ++ tb2)), p.1 ≠ T := by
      intro p hp
      rcases List.mem_append.mp hp with h | h
      · exact A.2 p h (T, tabObj ps) (by simp)
      · have nd := A.1
        have pm : ((mu ++ (tb1 ++ (T, tabObj ps) :: tb2)).map (·.1)).Perm (T :: (mu ++ (tb1 ++ tb2)).map (·.1)) := by
          have e1 : (mu ++ (tb1 ++ (T, tabObj ps) :: tb2)).map (·.1) = (mu ++ tb1).map (·.1) ++ T :: tb2.map (·.1) := by simp
          have e2 : (mu ++ (tb1 ++ tb2)).map (·.1) = (mu ++ tb1).map (·.1) ++ tb2.map (·.1) := by simp
          rw [e1, e2]
          exact List.perm_middle
        rw [pm.nodup_iff, List.nodup_cons] at nd
        exact fun q => nd.1 (q ▸ List.mem_map_of_mem h)
    refine kla_nest F N2 O.T hd rfl (UpdF.head hne) tok.1 hca hcl fun f' c' oc vs t ctv h' tk F' N' d1 d2 l1 l2 => ?_
    have lt1 : ∀ p ∈ fz ++ (mu ++ (tb1 ++ (T, tabObj ps) :: tb2)), p.1 < c' := by
      intro p hp
      refine l1 p ?_
      simp only [List.mem_cons, List.mem_append] at hp ⊢
      rcases hp with h | h | h | h | h
      · exact .inr (.inl h)
      · exact .inr (.inr (.inl h))
      · exact .inr (.inr (.inr (.inl h)))
      · exact .inl h
      · exact .inr (.inr (.inr (.inr h)))
    refine hQ ((f', kla_obj "<lambda>" q params body scope clos ((P.mg "__name__").getD .none) c' ctv) :: (c', oc) :: fz) _ _ (fun _ h => .tail _ (.tail _ h)) ⟨⟨mf, f1, F'⟩, ⟨tb1 ++ (T, tabObj (ps ++ #[rawInt pos.line, rawInt pos.col, .ref c'])) :: tb2, ?_, ?_, ?_⟩, kp, wd⟩ (.fn (.head _) (.tail _ (.head _)) d1 d2)
    · exact tback _ _ (fun _ h => .tail _ (.tail _ h)) ((tok.mono fun _ h => .tail _ (.tail _ h)).snoc (.tail _ (.head _)) d1 d2)
    · intro p hp
      refine N' p ?_
      simp only [List.mem_cons, List.mem_append] at hp ⊢
      rcases hp with (h | h | h) | h | h | h | h
      · exact .inl h
      · exact .inr (.inl h)
      · exact .inr (.inr (.inr (.inl h)))
      · exact .inr (.inr (.inr (.inr (.inl h))))
      · exact .inr (.inr (.inr (.inr (.inr (.inl h)))))
      · exact .inr (.inr (.inl h))
      · exact .inr (.inr (.inr (.inr (.inr (.inr h)))))
    · have efst : (mu ++ (tb1 ++ (T, tabObj (ps ++ #[rawInt pos.line, rawInt pos.col, .ref c'])) :: tb2)).map (·.1) = (mu ++ (tb1 ++ (T, tabObj ps) :: tb2)).map (·.1) := by simp
      have ltm : ∀ p ∈ mu ++ (tb1 ++ (T, tabObj (ps ++ #[rawInt pos.line, rawInt pos.col, .ref c'])) :: tb2), ∃ p' ∈ mu ++ (tb1 ++ (T, tabObj ps) :: tb2), p'.1 = p.1 := by
        intro p hp
        have h1 : p.1 ∈ (mu ++ (tb1 ++ (T, tabObj (ps ++ #[rawInt pos.line, rawInt pos.col, .ref c'])) :: tb2)).map (·.1) := List.mem_map_of_mem hp
        rw [efst] at h1
        exact List.mem_map.mp h1
      refine ⟨by rw [efst]; exact A.1, fun p hp q hq => ?_⟩
      obtain ⟨q', hq', e⟩ := ltm q hq
      rw [← e]
      have hlt := lt1 q' (List.mem_append_right _ hq')
      rcases List.mem_cons.mp hp with rfl | hp
      · exact Nat.ne_of_gt (Nat.lt_trans hlt l2)
      · rcases List.mem_cons.mp hp with rfl | hp
        · exact Nat.ne_of_gt hlt
        · exact A.2 p hp q' hq'
  | some cv =>
    obtain ⟨c', oc, vs, t, rfl, hcm', d1, d2⟩ := tok.2 pos cv hca
    refine kla_hit F N O.T hd rfl (by simp) tok.1 hca hcl fun f' ctv h' tk F' N' l1 => ?_
    refine hQ ((f', kla_obj "<lambda>" q params body scope clos ((P.mg "__name__").getD .none) c' ctv) :: fz) _ _ (fun _ h => .tail _ h) ⟨⟨mf, f1, F'⟩, ⟨tb1 ++ (T, tabObj ps) :: tb2, ?_, N', ?_⟩, kp, wd⟩ (.fn (.head _) (.tail _ hcm') d1 d2)
    · exact tback _ _ (fun _ h => .tail _ h) (tok.mono fun _ h => .tail _ h)
    · exact A.cons fun q hq => Nat.ne_of_gt (l1 q (List.mem_append_right _ hq))

/-- calling a lambda -/
noncomputable def CallFn (C : Cx P) (Γ : GEnv) (F : FnD) (ds : List D) (d : D) : Prop :=
  ∀ ⦃kl : Led⦄ ⦃m : Str → Option Value⦄ ⦃fz mu : Led⦄ ⦃s : Shared⦄ ⦃Q : Value → Shared → Prop⦄ ⦃f : Value⦄ ⦃vs : List Value⦄, EnvRep C kl m fz mu Γ → St C kl m fz mu s → Rep fz f (.fn F) → Reps fz vs ds →
    (∀ fz' s' v, fz ⊆ fz' → St C kl m fz' mu s' → Rep fz' v d → Q v s') → wpAny (model P.prog P.w) C.A (call f vs []) Q noE s
theorem EV.callFn {f : Expr} {F : FnD} {e : Expr} {es : List Expr} {pos : Pos} {ds : List D} {d : D} (hf : EV C Γ f (.fn F)) (hs : EVs C Γ (e :: es) ds) (hc : CallFn C Γ F ds d)
    (he : ∀ env, starEach (e :: es) env = (false, eval e env) :: starEach es env := by intro _; rfl) (hp : ∀ env, (starEach es env).any (·.1) = false := by intro _; rfl)
    (hv : ∀ env, eval (.Call f (e :: es) [] pos) env = (do callWith pos (← eval f env) [] (backTo pos (starEach (e :: es) env)) (backToKw pos (keywordEach [] env))) := by intro _; rfl) : EV C Γ (.Call f (e :: es) [] pos) d := by
  intro kl m fz mu s Q hE hS hQ
  refine Call_ (hf hE hS fun fz1 s1 v1 k1 S1 r1 => ?_) (hv _)
  cases id r1 with | fn m1 m2 d1 d2 =>
  rename_i a c co cvs t pm ctv
  have h1 := hs pos (hE.mono k1) S1 (Q := fun vs s' => (s'.heap.get? a = some (kla_obj "<lambda>" F.qual F.params F.body F.scope F.clos pm c ctv) ∧ (kla_obj "<lambda>" F.qual F.params F.body F.scope F.clos pm c ctv).data = .func (kla_fn "<lambda>" F.qual F.params F.body F.scope F.clos pm (.ref c) ctv)) ∧ wpAny (model P.prog P.w) C.A (call (.ref a) ([] ++ vs) []) Q noE s')
    fun fz2 s2 vs k2 S2 r2 => ⟨⟨S2.at_ (k2 m1), rfl⟩, hc ((hE.mono k1).mono k2) S2 (r1.mono k2) r2 fun fz3 s3 v3 k3 S3 r3 => hQ _ _ _ (fun _ hp => k3 (k2 (k1 hp))) S3 r3⟩
  rw [he] at h1 ⊢
  exact callWith_function (evalArgs_plain h1)

theorem CallFn.of (O : CxOk C k) (hroom : k < 900) {F : FnD} {names : List Str} {ds : List D} {d : D}
    (hb : ∀ (vs : List Value) (pm c ctv : Value), vs.length = ds.length → bindArgs (kla_fn "<lambda>" F.qual F.params F.body F.scope F.clos pm c ctv) ⟨vs, []⟩ = pure (names.zip vs))
    (hl : names.length = ds.length) (hloc : ∀ y ∈ names, F.scope.names.lookup y = some .local) (hcell : ∀ x ∈ F.scope.names, x.2 ≠ .cell) (hfree : ∀ y c, F.clos.lookup y = some c → F.scope.names.lookup y = some .free ∧ C.env.cells.lookup y = some c) (hnd : (F.clos.map (·.2)).Nodup)
    (hbody : ∀ C' : Cx P, CxOk C' (k + 1) → C'.cm = none → (∃ f c, C'.env = envX F.qual F.scope C'.L f (.ref c) F.clos) → EV C' (fun y => match Γof (names.zip ds) y with | some g => some g | none => Γcl Γ F.clos y) F.body d)
    (hco : F.scope.isCoroutine = false := by rfl) (hgen : F.scope.isGenerator = false := by rfl) (hk : F.scope.kind = .function := by rfl) : CallFn C Γ F ds d := by
  intro kl m fz mu s Q v vs hE hS hf hr hQ
  cases hf with | fn m1 m2 d1 d2 =>
  rename_i a c co cvs t pm ctv
  obtain ⟨A₀, base, outer, B, hA⟩ := O.below
  obtain ⟨⟨mf, f1, F0⟩, ⟨tb, T, N, Ap⟩, kp, wd⟩ := id hS
  refine wpAny_call (kla_code (R := fun r s' => match r with | .ok (.ret v) => Q v s' | .ok _ => False | .error e => noE e s') (binds := names.zip vs) B F0 O.X N O.T hA O.fr O.fkind (List.mem_append_left _ m1) ⟨c, co, cvs, t, rfl, hS.at_ m2, d1, d2⟩ ?_ (hb vs pm (.ref c) ctv hr.length) ?_ (fun g L' h₁ FG F' N' B' X' T' => ?_) hco hgen hk hcell)
  · have := O.dep; show C.A.depth < 1000; lia
  · intro y hy
    exact hloc y.1 (List.of_mem_zip hy).1
  · have O' := O.callee (qual := F.qual) (f := a) (cdv := .ref c) (L' := L') (cl := F.clos) hA B' FG hk hnd
    have lkn : ∀ y g, Γof (names.zip ds) y = some g → F.clos.lookup y = none ∧ ∃ v, (names.zip vs).reverse.lookup y = some v ∧ ∃ d, g = .d d ∧ Rep fz v d := by
      intro y g e
      unfold Γof at e
      cases q : (names.zip ds).reverse.lookup y with
      | none => rw [q] at e; cases e
      | some d1 =>
        rw [q] at e; cases e
        obtain ⟨v, a, b⟩ := zip_look hr q
        refine ⟨?_, v, a, d1, rfl, b⟩
        cases qc : F.clos.lookup y with
        | none => rfl
        | some c =>
          have hy : y ∈ names := (List.of_mem_zip (List.mem_reverse.mp (PySem.mem_of_lookup a))).1
          have h9 := (hfree y c qc).1
          rw [hloc y hy] at h9
          cases h9
    have cls : ∀ y g, Γcl Γ F.clos y = some g → ∃ d c, g = .d d ∧ Γ y = some (.d d) ∧ F.clos.lookup y = some c := by
      intro y g e
      unfold Γcl at e
      split at e
      · cases e
      · rename_i c hc
        split at e
        · rename_i d2 hd; cases e; exact ⟨d2, c, rfl, hd, hc⟩
        · cases e
    refine wpAny_mono (hbody _ O' rfl ⟨a, c, rfl⟩ (kl := []) (m := fun y => (names.zip vs).reverse.lookup y) (fz := fz) (mu := mu) (s := { s with heap := h₁, toks := s.toks + (names.zip vs).length })
      (Q := fun v s' => LeaveK C.g C.L mf g (fun r s' => match r with | .ok (.ret v) => Q v s' | .ok _ => False | .error e => noE e s') v s')
      ⟨fun y gg e => ?_, fun y z a ds9 es' e _ => ?_, fun x c' e => ?_⟩ ⟨⟨_, rfl, F'⟩, ⟨tb, T, N', Ap⟩, List.nil_subset _, wd⟩ ?_) (fun _ _ q => q) (fun _ _ x => x.elim)
    · cases q : Γof (names.zip ds) y with
      | some g =>
        simp only [q] at e
        cases e
        obtain ⟨hc, v, a1, d1, rfl, b⟩ := lkn y _ q
        refine ⟨v, ?_, b⟩
        unfold Holds
        show (match F.clos.lookup y with | none => _ | some c => _)
        rw [hc]; exact a1
      | none =>
        simp only [q] at e
        obtain ⟨d2, c', rfl, g2, hc⟩ := cls y gg e
        obtain ⟨u, h1, h2⟩ := hE.at_ y _ g2
        refine ⟨u, ?_, h2⟩
        unfold Holds at h1 ⊢
        rw [(hfree y c' hc).2] at h1
        show (match F.clos.lookup y with | none => _ | some c => _)
        rw [hc]; exact h1
    · cases q : Γof (names.zip ds) y with
      | some g =>
        obtain ⟨hc, v, a1, d1, h, b⟩ := lkn y _ q
        try dsimp only at e
        rw [q, h] at e; cases e
      | none =>
        try dsimp only at e
        rw [q] at e
        obtain ⟨d2, c', h, _⟩ := cls y _ e
        cases h
    · obtain ⟨o, w, a1, b1, _⟩ := hE.cel x c' (hfree x c' e).2
      exact ⟨o, w, a1, b1, fun _ p hp => by cases hp⟩
    · rintro fz2 s2 v k2 S2 r2
      obtain ⟨⟨mf2, g1, F2⟩, ⟨tb2, T2, N2, Ap2⟩, kp2, wd2⟩ := S2
      exact leaveK_ (R := fun r s' => match r with | .ok (.ret v) => Q v s' | .ok _ => False | .error e => noE e s') F2 N2 fun F3 N3 => hQ fz2 s2 v k2 ⟨⟨mf, f1, F3⟩, ⟨tb2, T2, N3, Ap2⟩, kp, wd2⟩ r2
end
end Mine
end

section
open PySem PySem.W PyProof.Rows PySem.Calls
set_option maxRecDepth 100000
namespace Mine
noncomputable def tops : List Stmt := PySem.Challenge.pw_pg0266_01.main.body
noncomputable def stm (i : Nat) : Stmt := tops.getD i (.Pass ⟨0, 0, 0, 0⟩)
noncomputable def clsB : List Stmt := match stm 1 with | .ClassDef _ _ _ b _ _ _ _ _ _ _ => b | _ => []
noncomputable def mth (i : Nat) : Stmt := clsB.getD i (.Pass ⟨0, 0, 0, 0⟩)
noncomputable def parD : Stmt → Arguments | .FunctionDef _ a _ _ _ _ _ _ _ _ => a | _ => ⟨[], [], none, [], [], none, []⟩
noncomputable def bodyD : Stmt → List Stmt | .FunctionDef _ _ b _ _ _ _ _ _ _ => b | _ => []
noncomputable def scD : Stmt → Scope | .FunctionDef _ _ _ _ _ _ sc _ _ _ => sc | _ => default

structure IsDef (K : Frag) (f : Addr) (name qual : Str) (st : Stmt) (dV kV cd : Value) : Prop where
  o : ∃ oc od doc pm an ct osl, K.lookup f = some ⟨oc, od, .func (fnOf name qual (parD st) (bodyD st) (scD st) dV kV doc pm an cd ct), osl⟩
  c : codeIn K cd qual = true
  k : keepIn K (.ref f) = true

theorem Γg_of {names : List Str} {ds : List D} : Γg (names.zip (ds.map .d)) = Γof (names.zip ds) := by
  funext y
  unfold Γg Γof
  have : ∀ l : List (Str × D), (l.map fun p => (p.1, G.d p.2)).lookup y = (l.lookup y).map .d := by
    intro l
    induction l with
    | nil => rfl
    | cons p l ih =>
      rw [List.map_cons, List.lookup_cons, List.lookup_cons, ih]
      cases y == p.1 <;> rfl
  rw [← this, List.zip_map_right, ← List.map_reverse]
  rfl

section
variable {P : Wd} {C : Cx P} {Γ Γ' : GEnv} {k : Nat} {kl : Led} {m : Str → Option Value} {fz mu : Led} {s : Shared} {N : GEnv → Prop} {R : D → Prop} {B : GEnv → Prop}

/-- a call with keywords -/
noncomputable def CallKw (C : Cx P) (f : Value) (ds : List D) (kn : List Str) (kds : List D) (d : D) : Prop :=
  ∀ ⦃kl : Led⦄ ⦃m : Str → Option Value⦄ ⦃fz mu : Led⦄ ⦃s : Shared⦄ ⦃Q : Value → Shared → Prop⦄ ⦃vs kvs : List Value⦄, St C kl m fz mu s → Reps fz vs ds → Reps fz kvs kds →
    (∀ fz' s' v, fz ⊆ fz' → St C kl m fz' mu s' → Rep fz' v d → Q v s') → wpAny (model P.prog P.w) C.A (call f vs (kn.zip kvs)) Q noE s
theorem CallKw.plain {f : Value} {ds : List D} {d : D} (h : CallKw C f ds [] [] d) : CallOk C f ds d := fun kl m fz mu s Q vs hS hr hQ => h (kvs := []) hS hr .nil hQ

theorem CallKw.dfn (O : CxOk C k) (hroom : k < 900) {f : Addr} {name qual : Str} {st : Stmt} {dV kV cd : Value} (I : IsDef P.K f name qual st dV kV cd) {names : List Str} {ds kds dbs : List D} {kn : List Str} {d : D}
    (hbody : ∀ C' : Cx P, Fd C' (k + 1) qual (scD st) f cd → (∀ b o, C.g.get? b = some o → C'.g.get? b = some o) → SS C' (Γof (names.zip dbs)) (bodyD st) (fun _ => d = .none) (fun r => r = d) (fun _ => False))
    (hb : ∀ (s : Shared) (vs kvs : List Value) (doc pm : Value) (an : Option Addr) (ct : Value), P.K.In s.heap → vs.length = ds.length → kvs.length = kds.length →
      ∃ bs, BindsTo s (fnOf name qual (parD st) (bodyD st) (scD st) dV kV doc pm an cd ct) ⟨vs, kn.zip kvs⟩ (names.zip bs) ∧ ∀ fz, Reps fz vs ds → Reps fz kvs kds → Reps fz bs dbs)
    (hl : names.length = dbs.length) (hkind : (names.all fun y => (scD st).names.lookup y == some .local || (scD st).names.lookup y == some .cell) = true) (hnd : ((cellsFrom 0 (scD st).names []).map (·.1)).Nodup) (hck : ∀ y ∈ (scD st).names, y.2 = .cell → (scD st).names.lookup y.1 = some .cell)
    (hco : (scD st).isCoroutine = false := by rfl) (hgen : (scD st).isGenerator = false := by rfl) (hk : (scD st).kind = .function := by rfl) : CallKw C (.ref f) ds kn kds d := by
  intro kl m fz mu s Q vs kvs hS hr hrk hQ
  obtain ⟨oc, od, doc, pm, an, ct, osl, ho⟩ := I.o
  obtain ⟨mf, F⟩ := hS.fr
  obtain ⟨bs, hbs, hrb⟩ := hb s vs kvs doc pm an ct (O.X.keeps F.keep) hr.length hrk.length
  have hrb := hrb fz hr hrk
  have hno : ∀ x a ds, Γg (names.zip (dbs.map .d)) x ≠ some (.ml a ds) := by
    intro x a ds e
    rw [Γg_of] at e
    unfold Γof at e
    cases q : (names.zip dbs).reverse.lookup x <;> rw [q] at e <;> cases e
  refine call_core (gs := dbs.map .d) (klc := mu) O hroom ho I.c hbs (by rw [List.length_map]; exact hl) hS (List.Subset.refl _) (fun _ h => h) (GReps.ofD hrb) (fun x y a ds es e _ => absurd e (hno x a ds)) hkind hnd hck
    (N := fun _ => d = .none) (R := fun r => r = d) (fun C' F' base => by rw [Γg_of]; exact hbody C' F' base) ?_ ?_ hco hgen hk
  · intro C' m' fz' mu' s' Γ' k' hd E' S'
    subst hd
    refine hQ _ _ _ k' ⟨?_, ?_, hS.kept, S'.wd⟩ .none
    · obtain ⟨mf1, g1, _⟩ := hS.F
      obtain ⟨mf2, g2, F2⟩ := S'.F
      refine ⟨mf2, ?_, F2⟩
      unfold Fm at g1 g2 ⊢
      split
      · rename_i e; rw [e] at g2; exact g2
      · rename_i m0 e
        rw [e] at g1 g2
        exact ⟨g2.1, g1.2⟩
    · obtain ⟨tb, T, N1, Ap⟩ := hS.N
      obtain ⟨tb2, T2, N2, Ap2⟩ := S'.N
      refine ⟨tb2, T2, fun p hp => N2 p ?_, Ap.keep Ap2 S'.kept⟩
      simp only [List.mem_append] at hp ⊢
      rcases hp with h | h | h
      · exact .inl h
      · exact .inr (.inl (S'.kept h))
      · exact .inr (.inr h)
  · intro fz' mu' s' v d' k' hd r' S'
    subst hd
    refine hQ _ _ _ k' ⟨?_, ?_, hS.kept, S'.wd⟩ r'
    · obtain ⟨mf1, g1, _⟩ := hS.F
      obtain ⟨mf2, g2, F2⟩ := S'.F
      refine ⟨mf2, ?_, F2⟩
      unfold Fm at g1 g2 ⊢
      split
      · rename_i e; rw [e] at g2; exact g2
      · rename_i m0 e
        rw [e] at g1 g2
        exact ⟨g2.1, g1.2⟩
    · obtain ⟨tb, T, N1, Ap⟩ := hS.N
      obtain ⟨tb2, T2, N2, Ap2⟩ := S'.N
      refine ⟨tb2, T2, fun p hp => N2 p ?_, Ap.keep Ap2 S'.kept⟩
      simp only [List.mem_append] at hp ⊢
      rcases hp with h | h | h
      · exact .inl h
      · exact .inr (.inl (S'.kept h))
      · exact .inr (.inr h)

/-- a def without defaults -/
theorem CallOk.dfn (O : CxOk C k) (hroom : k < 900) {f : Addr} {name qual : Str} {st : Stmt} {dV kV cd : Value} (I : IsDef P.K f name qual st dV kV cd) {names : List Str} {ds : List D} {d : D}
    (hbody : ∀ C' : Cx P, Fd C' (k + 1) qual (scD st) f cd → (∀ b o, C.g.get? b = some o → C'.g.get? b = some o) → SS C' (Γof (names.zip ds)) (bodyD st) (fun _ => d = .none) (fun r => r = d) (fun _ => False))
    (hb : ∀ (vs : List Value) (doc pm : Value) (an : Option Addr) (ct : Value), vs.length = ds.length → bindArgs (fnOf name qual (parD st) (bodyD st) (scD st) dV kV doc pm an cd ct) ⟨vs, []⟩ = pure (names.zip vs))
    (hl : names.length = ds.length) (hkind : (names.all fun y => (scD st).names.lookup y == some .local || (scD st).names.lookup y == some .cell) = true) (hnd : ((cellsFrom 0 (scD st).names []).map (·.1)).Nodup) (hck : ∀ y ∈ (scD st).names, y.2 = .cell → (scD st).names.lookup y.1 = some .cell)
    (hco : (scD st).isCoroutine = false := by rfl) (hgen : (scD st).isGenerator = false := by rfl) (hk : (scD st).kind = .function := by rfl) : CallOk C (.ref f) ds d :=
  (CallKw.dfn (kn := []) (kds := []) (dbs := ds) O hroom I hbody (fun s vs kvs doc pm an ct _ h1 h2 => ⟨vs, BindsTo.of_eq (hb vs doc pm an ct h1), fun _ h _ => h⟩) hl hkind hnd hck hco hgen hk).plain

/-- a call with one keyword -/
theorem EV.callKw (O : CxOk C k) {f : Expr} {fv : Value} {e ke : Expr} {es : List Expr} {pos kp : Pos} {kn : Str} {ds : List D} {kd d : D} (hk : keepIn P.K fv = true) (hf : EV C Γ f (.val fv)) (hs : EVs C Γ (e :: es) ds) (hke : EV C Γ ke kd) (hc : CallKw C fv ds [kn] [kd] d)
    (he : ∀ env, starEach (e :: es) env = (false, eval e env) :: starEach es env := by intro _; rfl) (hp : ∀ env, (starEach es env).any (·.1) = false := by intro _; rfl)
    (hv : ∀ env, eval (.Call f (e :: es) [⟨some kn, ke, kp⟩] pos) env = (do callWith pos (← eval f env) [] (backTo pos (starEach (e :: es) env)) (backToKw pos (keywordEach [⟨some kn, ke, kp⟩] env))) := by intro _; rfl) : EV C Γ (.Call f (e :: es) [⟨some kn, ke, kp⟩] pos) d := by
  intro kl m fz mu s Q hE hS hQ
  rw [hv]
  refine wpAny_bind (hf hE hS fun fz1 s1 v1 k1 S1 r1 => ?_)
  cases r1
  have hpl : ((backTo pos (starEach (e :: es) C.env)).any (·.1) || (backToKw pos (keywordEach [⟨some kn, ke, kp⟩] C.env)).any (·.1.isNone)) = false := by
    rw [he]
    show ((false || (backTo pos (starEach es C.env)).any (·.1)) || false) = false
    rw [hplain pos es _ (hp _)]; rfl
  refine callWith_KW (h₀ := C.g) O.X hk rfl (hs pos (hE.mono k1) S1 fun fz2 s2 vs k2 S2 r2 => kwAll_cons (hke ((hE.mono k1).mono k2) S2 fun fz3 s3 v3 k3 S3 r3 => kwAll_nil ⟨O.X.keeps S3.keep, ?_⟩)) hpl (he _)
  exact hc (kvs := [v3]) S3 (r2.mono k3) (.cons r3 .nil) fun fz4 s4 v4 k4 S4 r4 => hQ _ _ _ (fun _ hp => k4 (k3 (k2 (k1 hp)))) S4 r4

variable {qual : Str} {S0 : Scope} {f : Addr} {cd : Value}
theorem Fd.sco (F : Fd C k qual S0 f cd) : C.env.scope = S0 := by rw [F.en]
theorem Fd.cells (F : Fd C k qual S0 f cd) : C.env.cells = cellsFrom (C.L + 1) S0.names [] := by rw [F.en]
theorem Fd.bi (F : Fd C k qual S0 f cd) : C.env.builtins = builtinsNs := by rw [F.en]
theorem Fd.kindOf (F : Fd C k qual S0 f cd) (x : Str) : C.env.kindOf x = S0.names.lookup x := by unfold Env.kindOf; rw [F.sco]
theorem Fd.st (F : Fd C k qual S0 f cd) {x : Str} (h : S0.names.lookup x = some .local := by rfl) (hc : ∀ n, (cellsFrom n S0.names []).lookup x = none := by intro _; rfl) : CanSt C x := ⟨F.cm, .inl ⟨by rw [F.kindOf]; exact h, by rw [F.cells]; exact hc _⟩⟩
theorem Fd.stC (F : Fd C k qual S0 f cd) {x : Str} (h : S0.names.lookup x = some .cell := by rfl) (hc : ∀ n, ((cellsFrom n S0.names []).lookup x).isSome = true := by intro _; rfl) : CanSt C x := ⟨F.cm, .inr ⟨by rw [F.kindOf]; exact h, by rw [F.cells]; exact Option.isSome_iff_exists.mp (hc _)⟩⟩
theorem Fd.name (F : Fd C k qual S0 f cd) {x : Str} {pos : Pos} {d : D} (hx : Γ x = some (.d d) := by rfl) (h : S0.names.lookup x = some .local := by rfl) (hc : ∀ n, (cellsFrom n S0.names []).lookup x = none := by intro _; rfl) (hd : (x == ("__debug__" : Str)) = false := by decide) : EV C Γ (.Name x pos) d :=
  EV.name F.ok hx (by rw [F.kindOf]; exact h) (by rw [F.cells]; exact hc _) hd
theorem Fd.nameC (F : Fd C k qual S0 f cd) {x : Str} {pos : Pos} {d : D} (hx : Γ x = some (.d d) := by rfl) (h : S0.names.lookup x = some .cell := by rfl) (hc : ∀ n, ((cellsFrom n S0.names []).lookup x).isSome = true := by intro _; rfl) (hd : (x == ("__debug__" : Str)) = false := by decide) : EV C Γ (.Name x pos) d :=
  let ⟨c, e⟩ := Option.isSome_iff_exists.mp (hc (C.L + 1))
  EV.nameC F.ok hx (by rw [F.kindOf]; exact h) (c := c) (by rw [F.cells]; exact e) hd
theorem Fd.glob (F : Fd C k qual S0 f cd) {x : Str} {pos : Pos} {v : Value} (e : nsIn P.K mainGlobals x = some (some v)) (h : S0.names.lookup x = some .globalImplicit := by rfl) (hd : (x == ("__debug__" : Str)) = false := by decide) : EV C Γ (.Name x pos) (.val v) :=
  EV.glob F.ok e (by rw [F.kindOf]; exact h) hd
theorem Fd.boot (F : Fd C k qual S0 f cd) {x : Str} {pos : Pos} {v : Value} (e : nsIn P.K mainGlobals x = some none) (hv : bootBuiltins x = some v) (h : S0.names.lookup x = some .globalImplicit := by rfl) (hn : x ≠ "__name__" := by decide) (hd : (x == ("__debug__" : Str)) = false := by decide) : EV C Γ (.Name x pos) (.val v) :=
  EV.boot F.ok e hv (by rw [F.kindOf]; exact h) F.bi hn hd

theorem Fd.nc (F : Fd C k qual S0 f cd) {x : Str} (hc : ∀ n, (cellsFrom n S0.names []).lookup x = none := by intro _; rfl) : C.env.cells.lookup x = none := by rw [F.cells]; exact hc _
theorem Fd.loc (F : Fd C k qual S0 f cd) {x : Str} (h : S0.names.lookup x = some .local := by rfl) : C.env.kindOf x = some .local := by rw [F.kindOf]; exact h

-- MAX AND MIN OF THREE FLOATS
noncomputable def fgt (a b : UInt64) : Bool := Float64.cmp a b == some .gt
noncomputable def flt' (a b : UInt64) : Bool := Float64.cmp a b == some .lt
noncomputable def fmax3 (a b c : UInt64) : UInt64 := if fgt b a then (if fgt c b then c else b) else (if fgt c a then c else a)
noncomputable def fmin3 (a b c : UInt64) : UInt64 := if flt' b a then (if flt' c b then c else b) else (if flt' c a then c else a)
noncomputable def at3 (a b c : UInt64) (i : Nat) : UInt64 := ([a, b, c] : List UInt64).getD i 0
theorem three_at {a b c : UInt64} {t u x : Tok} {i : Nat} {v : Value} (h : (#[Value.float a t, .float b u, .float c x] : Array Value)[i]? = some v) : ∃ t, v = .float (at3 a b c i) t := by
  match i, h with
  | 0, h => simp at h; exact ⟨_, h.symm⟩
  | 1, h => simp at h; exact ⟨_, h.symm⟩
  | 2, h => simp at h; exact ⟨_, h.symm⟩
  | i + 3, h => simp at h
theorem best3 {a b c : UInt64} (gt : UInt64 → UInt64 → Bool) : at3 a b c (argBest (fun i j => gt (at3 a b c i) (at3 a b c j)) 2) = if gt b a then (if gt c b then c else b) else (if gt c a then c else a) := by
  simp only [argBest, at3]
  cases h1 : gt b a <;> cases h2 : gt c a <;> cases h3 : gt c b <;> simp [h1, h2, h3]
theorem tup_new (h : Heap) (vs : Array Value) : (h.push { cls := .type "tuple", data := .seq vs }).IsTuple h.objs.size vs := ⟨_, Heap.get?_push_size _ rfl, rfl, 0, rfl⟩
theorem tupIt_new (h : Heap) (t : Addr) : (h.push { cls := .type "tuple_iterator", data := .fields #[.ref t, .int 0 0] }).IsTupleIter h.objs.size t 0 := ⟨_, Heap.get?_push_size _ rfl, rfl, rfl⟩
theorem two_new {h : Heap} {o1 o2 : Obj} : ∀ b ∈ [(h.push o1).objs.size, h.objs.size], b < ((h.push o1).push o2).objs.size := by
  simp only [List.mem_cons, List.not_mem_nil, or_false, Heap.size_push]
  omega
/-- two objects were laid, the second has turned: the state stands -/
theorem St.past (hS : St C kl m fz mu s) {o1 o2 : Obj} {h' : Heap} (hk : ∀ b o, b ∉ [(s.heap.push o1).objs.size] → ((s.heap.push o1).push o2).get? b = some o → h'.get? b = some o) (tk : Nat) : St C kl m fz mu { s with heap := h', toks := tk } :=
  hS.grown (fun b o e => hk b o (by rw [List.mem_singleton, Heap.size_push]; exact Nat.ne_of_lt (Nat.lt_succ_of_lt (Heap.lt_size e))) (Heap.get?_push_of_some _ (Heap.get?_push_of_some _ e))) tk
theorem CallOk.max3 (O : CxOk C k) {a b c : UInt64} : CallOk C (.builtin "max") [.flt a, .flt b, .flt c] (.flt (fmax3 a b c)) := by
  intro kl m fz mu s Q vs hS r hQ
  obtain ⟨v1, v2, v3, rfl, h1, h2, h3⟩ := r.c3
  obtain ⟨t1, rfl⟩ := h1.flt_inv
  obtain ⟨t2, rfl⟩ := h2.flt_inv
  obtain ⟨t3, rfl⟩ := h3.flt_inv
  have ne : s.heap.objs.size ≠ (s.heap.push { cls := .type "tuple", data := .seq #[.float a t1, .float b t2, .float c t3] }).objs.size := by rw [Heap.size_push]; omega
  refine call_max_three (wpAny_pyIter_tuple (tup_new s.heap _) ⟨_, _, _, _, _, _, fun i j => fgt (at3 a b c i) (at3 a b c j), rfl, Walks.tuple (A := C.A.in1) O.hh _ _ ne _, And.intro (tupIt_new _ _) ((tup_new s.heap _).push _), two_new, Nat.succ_pos _, fun i j vi vj s Q E hi hj q => ?_, fun v h' tk hv hk => ?_⟩)
  · obtain ⟨ti, rfl⟩ := three_at hi
    obtain ⟨tj, rfl⟩ := three_at hj
    exact PySem.AutoFloatOps.gt_0 q
  · obtain ⟨t, rfl⟩ := three_at hv
    refine hQ _ _ _ (List.Subset.refl _) (hS.past hk tk) ?_
    rw [show fmax3 a b c = _ from (best3 fgt).symm]
    exact .flt _ _
theorem CallOk.min3 (O : CxOk C k) {a b c : UInt64} : CallOk C (.builtin "min") [.flt a, .flt b, .flt c] (.flt (fmin3 a b c)) := by
  intro kl m fz mu s Q vs hS r hQ
  obtain ⟨v1, v2, v3, rfl, h1, h2, h3⟩ := r.c3
  obtain ⟨t1, rfl⟩ := h1.flt_inv
  obtain ⟨t2, rfl⟩ := h2.flt_inv
  obtain ⟨t3, rfl⟩ := h3.flt_inv
  have ne : s.heap.objs.size ≠ (s.heap.push { cls := .type "tuple", data := .seq #[.float a t1, .float b t2, .float c t3] }).objs.size := by rw [Heap.size_push]; omega
  refine call_min_three (wpAny_pyIter_tuple (tup_new s.heap _) ⟨_, _, _, _, _, _, fun i j => flt' (at3 a b c i) (at3 a b c j), rfl, Walks.tuple (A := C.A.in1) O.hh _ _ ne _, And.intro (tupIt_new _ _) ((tup_new s.heap _).push _), two_new, Nat.succ_pos _, fun i j vi vj s Q E hi hj q => ?_, fun v h' tk hv hk => ?_⟩)
  · obtain ⟨ti, rfl⟩ := three_at hi
    obtain ⟨tj, rfl⟩ := three_at hj
    exact PySem.AutoFloatOps.lt_0 q
  · obtain ⟨t, rfl⟩ := three_at hv
    refine hQ _ _ _ (List.Subset.refl _) (hS.past hk tk) ?_
    rw [show fmin3 a b c = _ from (best3 flt').symm]
    exact .flt _ _

/-- x = x + e, a list that turns -/
theorem S1.assignAddM (O : CxOk C k) {x : Str} {p xp bp pos : Pos} {e : Expr} {a : Addr} {ds es : List D} {N : GEnv → Prop} (hc : CanSt C x) (hk : C.env.kindOf x = some .local) (hl : C.env.cells.lookup x = none) (hx : Γ x = some (.ml a ds)) (he : EV C Γ e (.lst es)) (hz : ds.length + es.length ≤ 1000000)
    (hN : ∀ l, N (Γ.setM x l (ds ++ es))) (hs : ∀ env, swapsWith (.BinOp (.Name x xp) .Add e bp) (some (.Name x p)) pos.line env = pure false := by intro _; rfl) (hd : (x == ("__debug__" : Str)) = false := by decide) :
    S1 C Γ (.Assign [.Name x p] (.BinOp (.Name x xp) .Add e bp) pos) N R B := by
  intro kl m fz mu s Q hE hS q1 q2 q3
  refine wpAny_Assign_Name (wpAny_BinOp (EV.nameM O hx hk hl hd hE hS fun fz1 s1 v1 k1 S1 r1 => he (hE.mono k1) S1 fun fz2 s2 v2 k2 S2 r2 => ?_)) (hs _)
  obtain rfl := r1.val_inv
  obtain ⟨v0, h0', _, hkl, vs, n, hm, hr⟩ := hE.at_ x _ hx
  obtain ⟨b, ws, j, rfl, hb, hw⟩ := r2.lst_inv
  obtain ⟨mf, news, F, N0, n1, n2, c1, c2, c3⟩ := S2.opn
  refine add_arrays F N0 (S2.opnM hm) (S2.isList hb) (fun h' F' N' => ?_) (by rw [List.size_toArray, List.size_toArray, hr.length, hw.length, sizeLine_eq]; lia)
  have S3 := c3 h' s2.toks _ _ F' N' (fun p hp => News.lt N0 p hp)
  have er : Reps fz2 (vs ++ ws) (ds ++ es) := ((hr.mono k1).mono k2).append hw
  have hfr : ∀ p ∈ mu, p.1 ≠ s2.heap.objs.size := S2.freshM
  exact store_m O hc hl (n := 0) (vs := vs ++ ws) ((hE.mono k1).mono k2) (by simpa using S3) er hfr S2.kept fun m' mu' s' E' S' => q1 _ _ _ _ _ (fun _ h => k2 (k1 h)) (hN _) E' S'
end
end Mine
end

section
open PySem PySem.W PyProof.Rows
set_option maxRecDepth 100000
set_option maxHeartbeats 8000000
namespace Mine
noncomputable abbrev sO := Str.ofString
noncomputable abbrev aE {α : Type} : Array α := List.toArray []
noncomputable abbrev aL {α : Type} (l : List α) : Array α := List.toArray l
noncomputable abbrev kH := PyData.keyHash
noncomputable abbrev dE := DictEntry.mk
noncomputable abbrev vI := Value.int
noncomputable abbrev vS := Value.str
noncomputable abbrev vR := Value.ref
/-- the objects of the top that are held on to -/
noncomputable def KK : Params → Frag := fun q =>
  (nat_lit 2, (Obj.mk Value.none none (Data.dict aE 0) aE)) ::
  (nat_lit 3, (Obj.mk (Value.type "dict") none (Data.dict (aL [(dE (kH q (sO "__name__")) (vS (sO "__name__") 165) (vS (sO "law_pg0266_01") 372)), (dE (kH q (sO "__doc__")) (vS (sO "__doc__") 166) Value.none), (dE (kH q (sO "__package__")) (vS (sO "__package__") 167) Value.none), (dE (kH q (sO "__loader__")) (vS (sO "__loader__") 168) (Value.builtin "__main__.__loader__#opaque")), (dE (kH q (sO "__spec__")) (vS (sO "__spec__") 169) Value.none), (dE (kH q (sO "__annotations__")) (vS (sO "__annotations__") 170) (vR 6)), (dE (kH q (sO "__builtins__")) (vS (sO "__builtins__") 171) (vR 4)), (dE (kH q (sO "__file__")) (vS (sO "__file__") 173) (vS (sO "/claim/cut.py") 172)), (dE (kH q (sO "__cached__")) (vS (sO "__cached__") 174) Value.none), (dE (kH q (sO "Whitespace")) (vS (sO "Whitespace") 294) (vR 76)), (dE (kH q (sO "insort_right")) (vS (sO "insort_right") 309) (vR 89)), (dE (kH q (sO "bisect_right")) (vS (sO "bisect_right") 323) (vR 98)), (dE (kH q (sO "bisect_left")) (vS (sO "bisect_left") 337) (vR 107)), (dE (kH q (sO "rgb_to_hsv")) (vS (sO "rgb_to_hsv") 357) (vR 114)), (dE (kH q (sO "hsv_to_rgb")) (vS (sO "hsv_to_rgb") 371) (vR 121)), (dE (kH q (sO "_law_draws")) (vS (sO "_law_draws") 382) (vR 128)), (dE (kH q (sO "_law_lead")) (vS (sO "_law_lead") 388) (vR 133)), (dE (kH q (sO "_law_text")) (vS (sO "_law_text") 394) (vR 138)), (dE (kH q (sO "_law_column")) (vS (sO "_law_column") 404) (vR 145)), (dE (kH q (sO "_law_spread")) (vS (sO "_law_spread") 411) (vR 152)), (dE (kH q (sO "_law_place")) (vS (sO "_law_place") 423) (vR 159)), (dE (kH q (sO "_law_order")) (vS (sO "_law_order") 432) (vR 166)), (dE (kH q (sO "_law_wheel")) (vS (sO "_law_wheel") 438) (vR 171)), (dE (kH q (sO "_law_cut")) (vS (sO "_law_cut") 455) (vR 178)), (dE (kH q (sO "_law_rows")) (vS (sO "_law_rows") 461) (vR 183)), (dE (kH q (sO "_law_pair")) (vS (sO "_law_pair") 478) (vR 190)), (dE (kH q (sO "_law_agrees")) (vS (sO "_law_agrees") 484) (vR 195)), (dE (kH q (sO "law")) (vS (sO "law") 495) (vR 202))]) 28) aE)) ::
  (nat_lit 25, (Obj.mk (Value.type "tuple") none (Data.seq aE 0) aE)) ::
  (nat_lit 27, (Obj.mk (Value.type "tuple") none (Data.seq (aL [(vS (sO "self") 209), (vS (sO "ws") 210), (vS (sO "S") 211), (vS (sO "T") 212), (vS (sO "count") 213), (vS (sO "b") 214), (vS (sO "n") 215), (vS (sO "nt") 216), (vS (sO "ch") 217)]) 0) aE)) ::
  (nat_lit 28, (Obj.mk (Value.type "tuple") none (Data.seq aE 0) aE)) ::
  (nat_lit 30, (Obj.mk (Value.type "code") none (Data.fields (aL [(vS (sO "__init__") 206), (vS (sO "Whitespace.__init__") 207), (vS (sO "/claim/cut.py") 208), (vI 5 0), (vI 2 0), (vI 0 0), (vI 0 0), (vI 3 0), (vR 25), (Value.bool true), (vI 181 0), (vR 26), Value.none, (vR 27), (vR 28), (vR 29), (vI 218 0), (vI 5 0), (vS (sO "/claim/cut.py") 219)])) aE)) ::
  (nat_lit 31, (Obj.mk (Value.type "function") none (Data.func (FuncData.mk (sO "__init__") (sO "Whitespace.__init__") (parD (mth 1)) (FuncBody.stmts (bodyD (mth 1))) (scD (mth 1)) 3 [] Value.none Value.none Value.none (vS (sO "cpy313.tabnanny") 187) none (vR 30) Value.none 0)) aE)) ::
  (nat_lit 32, (Obj.mk (Value.type "tuple") none (Data.seq aE 0) aE)) ::
  (nat_lit 34, (Obj.mk (Value.type "tuple") none (Data.seq (aL [(vS (sO "self") 224), (vS (sO "count") 225), (vS (sO "trailing") 226)]) 0) aE)) ::
  (nat_lit 35, (Obj.mk (Value.type "tuple") none (Data.seq aE 0) aE)) ::
  (nat_lit 37, (Obj.mk (Value.type "code") none (Data.fields (aL [(vS (sO "longest_run_of_spaces") 221), (vS (sO "Whitespace.longest_run_of_spaces") 222), (vS (sO "/claim/cut.py") 223), (vI 28 0), (vI 1 0), (vI 0 0), (vI 0 0), (vI 3 0), (vR 32), (Value.bool true), (vI 181 0), (vR 33), Value.none, (vR 34), (vR 35), (vR 36), (vI 227 0), (vI 28 0), (vS (sO "/claim/cut.py") 228)])) aE)) ::
  (nat_lit 38, (Obj.mk (Value.type "function") none (Data.func (FuncData.mk (sO "longest_run_of_spaces") (sO "Whitespace.longest_run_of_spaces") (parD (mth 2)) (FuncBody.stmts (bodyD (mth 2))) (scD (mth 2)) 3 [] Value.none Value.none Value.none (vS (sO "cpy313.tabnanny") 187) none (vR 37) Value.none 0)) aE)) ::
  (nat_lit 39, (Obj.mk (Value.type "tuple") none (Data.seq aE 0) aE)) ::
  (nat_lit 41, (Obj.mk (Value.type "tuple") none (Data.seq (aL [(vS (sO "self") 233), (vS (sO "tabsize") 234), (vS (sO "count") 235), (vS (sO "trailing") 236), (vS (sO "il") 237), (vS (sO "i") 238)]) 0) aE)) ::
  (nat_lit 42, (Obj.mk (Value.type "tuple") none (Data.seq aE 0) aE)) ::
  (nat_lit 44, (Obj.mk (Value.type "code") none (Data.fields (aL [(vS (sO "indent_level") 230), (vS (sO "Whitespace.indent_level") 231), (vS (sO "/claim/cut.py") 232), (vI 32 0), (vI 2 0), (vI 0 0), (vI 0 0), (vI 3 0), (vR 39), (Value.bool true), (vI 181 0), (vR 40), Value.none, (vR 41), (vR 42), (vR 43), (vI 239 0), (vI 32 0), (vS (sO "/claim/cut.py") 240)])) aE)) ::
  (nat_lit 45, (Obj.mk (Value.type "function") none (Data.func (FuncData.mk (sO "indent_level") (sO "Whitespace.indent_level") (parD (mth 3)) (FuncBody.stmts (bodyD (mth 3))) (scD (mth 3)) 3 [] Value.none Value.none Value.none (vS (sO "cpy313.tabnanny") 187) none (vR 44) Value.none 0)) aE)) ::
  (nat_lit 46, (Obj.mk (Value.type "tuple") none (Data.seq aE 0) aE)) ::
  (nat_lit 48, (Obj.mk (Value.type "tuple") none (Data.seq (aL [(vS (sO "self") 245), (vS (sO "other") 246)]) 0) aE)) ::
  (nat_lit 49, (Obj.mk (Value.type "tuple") none (Data.seq aE 0) aE)) ::
  (nat_lit 51, (Obj.mk (Value.type "code") none (Data.fields (aL [(vS (sO "equal") 242), (vS (sO "Whitespace.equal") 243), (vS (sO "/claim/cut.py") 244), (vI 39 0), (vI 2 0), (vI 0 0), (vI 0 0), (vI 3 0), (vR 46), (Value.bool true), (vI 181 0), (vR 47), Value.none, (vR 48), (vR 49), (vR 50), (vI 247 0), (vI 39 0), (vS (sO "/claim/cut.py") 248)])) aE)) ::
  (nat_lit 52, (Obj.mk (Value.type "function") none (Data.func (FuncData.mk (sO "equal") (sO "Whitespace.equal") (parD (mth 4)) (FuncBody.stmts (bodyD (mth 4))) (scD (mth 4)) 3 [] Value.none Value.none Value.none (vS (sO "cpy313.tabnanny") 187) none (vR 51) Value.none 0)) aE)) ::
  (nat_lit 53, (Obj.mk (Value.type "tuple") none (Data.seq aE 0) aE)) ::
  (nat_lit 55, (Obj.mk (Value.type "tuple") none (Data.seq (aL [(vS (sO "self") 253), (vS (sO "other") 254), (vS (sO "n") 255), (vS (sO "a") 256), (vS (sO "ts") 257)]) 0) aE)) ::
  (nat_lit 56, (Obj.mk (Value.type "tuple") none (Data.seq aE 0) aE)) ::
  (nat_lit 58, (Obj.mk (Value.type "code") none (Data.fields (aL [(vS (sO "not_equal_witness") 250), (vS (sO "Whitespace.not_equal_witness") 251), (vS (sO "/claim/cut.py") 252), (vI 42 0), (vI 2 0), (vI 0 0), (vI 0 0), (vI 3 0), (vR 53), (Value.bool true), (vI 181 0), (vR 54), Value.none, (vR 55), (vR 56), (vR 57), (vI 258 0), (vI 42 0), (vS (sO "/claim/cut.py") 259)])) aE)) ::
  (nat_lit 59, (Obj.mk (Value.type "function") none (Data.func (FuncData.mk (sO "not_equal_witness") (sO "Whitespace.not_equal_witness") (parD (mth 5)) (FuncBody.stmts (bodyD (mth 5))) (scD (mth 5)) 3 [] Value.none Value.none Value.none (vS (sO "cpy313.tabnanny") 187) none (vR 58) Value.none 0)) aE)) ::
  (nat_lit 60, (Obj.mk (Value.type "tuple") none (Data.seq aE 0) aE)) ::
  (nat_lit 62, (Obj.mk (Value.type "tuple") none (Data.seq (aL [(vS (sO "self") 264), (vS (sO "other") 265), (vS (sO "n") 266), (vS (sO "ts") 267)]) 0) aE)) ::
  (nat_lit 63, (Obj.mk (Value.type "tuple") none (Data.seq aE 0) aE)) ::
  (nat_lit 65, (Obj.mk (Value.type "code") none (Data.fields (aL [(vS (sO "less") 261), (vS (sO "Whitespace.less") 262), (vS (sO "/claim/cut.py") 263), (vI 50 0), (vI 2 0), (vI 0 0), (vI 0 0), (vI 3 0), (vR 60), (Value.bool true), (vI 181 0), (vR 61), Value.none, (vR 62), (vR 63), (vR 64), (vI 268 0), (vI 50 0), (vS (sO "/claim/cut.py") 269)])) aE)) ::
  (nat_lit 66, (Obj.mk (Value.type "function") none (Data.func (FuncData.mk (sO "less") (sO "Whitespace.less") (parD (mth 6)) (FuncBody.stmts (bodyD (mth 6))) (scD (mth 6)) 3 [] Value.none Value.none Value.none (vS (sO "cpy313.tabnanny") 187) none (vR 65) Value.none 0)) aE)) ::
  (nat_lit 67, (Obj.mk (Value.type "tuple") none (Data.seq aE 0) aE)) ::
  (nat_lit 69, (Obj.mk (Value.type "tuple") none (Data.seq (aL [(vS (sO "self") 274), (vS (sO "other") 275), (vS (sO "n") 276), (vS (sO "a") 277), (vS (sO "ts") 278)]) 0) aE)) ::
  (nat_lit 70, (Obj.mk (Value.type "tuple") none (Data.seq aE 0) aE)) ::
  (nat_lit 72, (Obj.mk (Value.type "code") none (Data.fields (aL [(vS (sO "not_less_witness") 271), (vS (sO "Whitespace.not_less_witness") 272), (vS (sO "/claim/cut.py") 273), (vI 61 0), (vI 2 0), (vI 0 0), (vI 0 0), (vI 3 0), (vR 67), (Value.bool true), (vI 181 0), (vR 68), Value.none, (vR 69), (vR 70), (vR 71), (vI 279 0), (vI 61 0), (vS (sO "/claim/cut.py") 280)])) aE)) ::
  (nat_lit 73, (Obj.mk (Value.type "function") none (Data.func (FuncData.mk (sO "not_less_witness") (sO "Whitespace.not_less_witness") (parD (mth 7)) (FuncBody.stmts (bodyD (mth 7))) (scD (mth 5)) 3 [] Value.none Value.none Value.none (vS (sO "cpy313.tabnanny") 187) none (vR 72) Value.none 0)) aE)) ::
  (nat_lit 74, (Obj.mk (Value.type "tuple") none (Data.seq (aL [(vS (sO "is_simple") 282), (vS (sO "n") 283), (vS (sO "norm") 284), (vS (sO "nt") 285), (vS (sO "raw") 286)]) 0) aE)) ::
  (nat_lit 75, (Obj.mk (Value.type "dict") none (Data.dict (aL [(dE (kH q (sO "__module__")) (vS (sO "__module__") 196) (vS (sO "cpy313.tabnanny") 187)), (dE (kH q (sO "__firstlineno__")) (vS (sO "__firstlineno__") 200) (vI 2 199)), (dE (kH q (sO "S")) (vS (sO "S") 204) (vS (sO " ") 202)), (dE (kH q (sO "T")) (vS (sO "T") 205) (vS (sO "\t") 203)), (dE (kH q (sO "__init__")) (vS (sO "__init__") 220) (vR 31)), (dE (kH q (sO "longest_run_of_spaces")) (vS (sO "longest_run_of_spaces") 229) (vR 38)), (dE (kH q (sO "indent_level")) (vS (sO "indent_level") 241) (vR 45)), (dE (kH q (sO "equal")) (vS (sO "equal") 249) (vR 52)), (dE (kH q (sO "not_equal_witness")) (vS (sO "not_equal_witness") 260) (vR 59)), (dE (kH q (sO "less")) (vS (sO "less") 270) (vR 66)), (dE (kH q (sO "not_less_witness")) (vS (sO "not_less_witness") 281) (vR 73)), (dE (kH q (sO "__static_attributes__")) (vS (sO "__static_attributes__") 287) (vR 74)), (dE (kH q (sO "__dict__")) (vS (sO "__dict__") 289) (vR 77)), (dE (kH q (sO "__weakref__")) (vS (sO "__weakref__") 291) (vR 78)), (dE (kH q (sO "__doc__")) (vS (sO "__doc__") 292) Value.none)]) 4) aE)) ::
  (nat_lit 76, (Obj.mk (Value.type "type") none (Data.cls (ClassData.mk (sO "Whitespace") [(Value.type "object")] [(vR 76), (Value.type "object")] 75 (sO "Whitespace") true [] [] false none false)) (aL [none, none, (Option.some (vS (sO "Whitespace") 189)), (Option.some (vS (sO "Whitespace") 197)), (Option.some (Value.builtin "object.__new__")), (Option.some (Value.bool true))]))) ::
  (nat_lit 77, (Obj.mk (Value.type "getset_descriptor") none (Data.fields (aL [(vS (sO "__dict__") 288), (vR 76), (Value.builtin "function.__dict__"), (Value.builtin "function.__dict__#set")])) aE)) ::
  (nat_lit 78, (Obj.mk (Value.type "getset_descriptor") none (Data.fields (aL [(vS (sO "__weakref__") 290), (vR 76), (Value.builtin "ExceptionGroup.__weakref__"), Value.none])) aE)) ::
  (nat_lit 81, (Obj.mk (Value.type "tuple") none (Data.seq (aL [(vI 0 297), Value.none]) 0) aE)) ::
  (nat_lit 82, (Obj.mk (Value.type "dict") none (Data.dict (aL [(dE (kH q (sO "key")) (vS (sO "key") 298) Value.none)]) 1) aE)) ::
  (nat_lit 83, (Obj.mk (Value.type "tuple") none (Data.seq aE 0) aE)) ::
  (nat_lit 85, (Obj.mk (Value.type "tuple") none (Data.seq (aL [(vS (sO "a") 302), (vS (sO "x") 303), (vS (sO "lo") 304), (vS (sO "hi") 305), (vS (sO "key") 306)]) 0) aE)) ::
  (nat_lit 86, (Obj.mk (Value.type "tuple") none (Data.seq aE 0) aE)) ::
  (nat_lit 88, (Obj.mk (Value.type "code") none (Data.fields (aL [(vS (sO "insort_right") 299), (vS (sO "insort_right") 300), (vS (sO "/claim/cut.py") 301), (vI 69 0), (vI 4 0), (vI 0 0), (vI 1 0), (vI 3 0), (vR 83), (Value.bool true), (vI 181 0), (vR 84), Value.none, (vR 85), (vR 86), (vR 87), (vI 307 0), (vI 69 0), (vS (sO "/claim/cut.py") 308)])) aE)) ::
  (nat_lit 89, (Obj.mk (Value.type "function") none (Data.func (FuncData.mk (sO "insort_right") (sO "insort_right") (parD (stm 3)) (FuncBody.stmts (bodyD (stm 3))) (scD (stm 3)) 3 [] (vR 81) (vR 82) Value.none (vS (sO "cpy313.bisect") 295) none (vR 88) Value.none 0)) aE)) ::
  (nat_lit 90, (Obj.mk (Value.type "tuple") none (Data.seq (aL [(vI 0 310), Value.none]) 0) aE)) ::
  (nat_lit 91, (Obj.mk (Value.type "dict") none (Data.dict (aL [(dE (kH q (sO "key")) (vS (sO "key") 311) Value.none)]) 1) aE)) ::
  (nat_lit 92, (Obj.mk (Value.type "tuple") none (Data.seq aE 0) aE)) ::
  (nat_lit 94, (Obj.mk (Value.type "tuple") none (Data.seq (aL [(vS (sO "a") 315), (vS (sO "x") 316), (vS (sO "lo") 317), (vS (sO "hi") 318), (vS (sO "key") 319), (vS (sO "mid") 320)]) 0) aE)) ::
  (nat_lit 95, (Obj.mk (Value.type "tuple") none (Data.seq aE 0) aE)) ::
  (nat_lit 97, (Obj.mk (Value.type "code") none (Data.fields (aL [(vS (sO "bisect_right") 312), (vS (sO "bisect_right") 313), (vS (sO "/claim/cut.py") 314), (vI 75 0), (vI 4 0), (vI 0 0), (vI 1 0), (vI 3 0), (vR 92), (Value.bool true), (vI 181 0), (vR 93), Value.none, (vR 94), (vR 95), (vR 96), (vI 321 0), (vI 75 0), (vS (sO "/claim/cut.py") 322)])) aE)) ::
  (nat_lit 98, (Obj.mk (Value.type "function") none (Data.func (FuncData.mk (sO "bisect_right") (sO "bisect_right") (parD (stm 4)) (FuncBody.stmts (bodyD (stm 4))) (scD (stm 4)) 3 [] (vR 90) (vR 91) Value.none (vS (sO "cpy313.bisect") 295) none (vR 97) Value.none 0)) aE)) ::
  (nat_lit 99, (Obj.mk (Value.type "tuple") none (Data.seq (aL [(vI 0 324), Value.none]) 0) aE)) ::
  (nat_lit 100, (Obj.mk (Value.type "dict") none (Data.dict (aL [(dE (kH q (sO "key")) (vS (sO "key") 325) Value.none)]) 1) aE)) ::
  (nat_lit 101, (Obj.mk (Value.type "tuple") none (Data.seq aE 0) aE)) ::
  (nat_lit 103, (Obj.mk (Value.type "tuple") none (Data.seq (aL [(vS (sO "a") 329), (vS (sO "x") 330), (vS (sO "lo") 331), (vS (sO "hi") 332), (vS (sO "key") 333), (vS (sO "mid") 334)]) 0) aE)) ::
  (nat_lit 104, (Obj.mk (Value.type "tuple") none (Data.seq aE 0) aE)) ::
  (nat_lit 106, (Obj.mk (Value.type "code") none (Data.fields (aL [(vS (sO "bisect_left") 326), (vS (sO "bisect_left") 327), (vS (sO "/claim/cut.py") 328), (vI 95 0), (vI 4 0), (vI 0 0), (vI 1 0), (vI 3 0), (vR 101), (Value.bool true), (vI 181 0), (vR 102), Value.none, (vR 103), (vR 104), (vR 105), (vI 335 0), (vI 95 0), (vS (sO "/claim/cut.py") 336)])) aE)) ::
  (nat_lit 107, (Obj.mk (Value.type "function") none (Data.func (FuncData.mk (sO "bisect_left") (sO "bisect_left") (parD (stm 5)) (FuncBody.stmts (bodyD (stm 5))) (scD (stm 4)) 3 [] (vR 99) (vR 100) Value.none (vS (sO "cpy313.bisect") 295) none (vR 106) Value.none 0)) aE)) ::
  (nat_lit 108, (Obj.mk (Value.type "tuple") none (Data.seq aE 0) aE)) ::
  (nat_lit 110, (Obj.mk (Value.type "tuple") none (Data.seq (aL [(vS (sO "r") 343), (vS (sO "g") 344), (vS (sO "b") 345), (vS (sO "maxc") 346), (vS (sO "minc") 347), (vS (sO "rangec") 348), (vS (sO "v") 349), (vS (sO "s") 350), (vS (sO "rc") 351), (vS (sO "gc") 352), (vS (sO "bc") 353), (vS (sO "h") 354)]) 0) aE)) ::
  (nat_lit 111, (Obj.mk (Value.type "tuple") none (Data.seq aE 0) aE)) ::
  (nat_lit 113, (Obj.mk (Value.type "code") none (Data.fields (aL [(vS (sO "rgb_to_hsv") 340), (vS (sO "rgb_to_hsv") 341), (vS (sO "/claim/cut.py") 342), (vI 116 0), (vI 3 0), (vI 0 0), (vI 0 0), (vI 3 0), (vR 108), (Value.bool true), (vI 181 0), (vR 109), Value.none, (vR 110), (vR 111), (vR 112), (vI 355 0), (vI 116 0), (vS (sO "/claim/cut.py") 356)])) aE)) ::
  (nat_lit 114, (Obj.mk (Value.type "function") none (Data.func (FuncData.mk (sO "rgb_to_hsv") (sO "rgb_to_hsv") (parD (stm 7)) (FuncBody.stmts (bodyD (stm 7))) (scD (stm 7)) 3 [] Value.none Value.none Value.none (vS (sO "cpy313.colorsys") 338) none (vR 113) Value.none 0)) aE)) ::
  (nat_lit 115, (Obj.mk (Value.type "tuple") none (Data.seq aE 0) aE)) ::
  (nat_lit 117, (Obj.mk (Value.type "tuple") none (Data.seq (aL [(vS (sO "h") 361), (vS (sO "s") 362), (vS (sO "v") 363), (vS (sO "i") 364), (vS (sO "f") 365), (vS (sO "p") 366), (vS (sO "q") 367), (vS (sO "t") 368)]) 0) aE)) ::
  (nat_lit 118, (Obj.mk (Value.type "tuple") none (Data.seq aE 0) aE)) ::
  (nat_lit 120, (Obj.mk (Value.type "code") none (Data.fields (aL [(vS (sO "hsv_to_rgb") 358), (vS (sO "hsv_to_rgb") 359), (vS (sO "/claim/cut.py") 360), (vI 135 0), (vI 3 0), (vI 0 0), (vI 0 0), (vI 3 0), (vR 115), (Value.bool true), (vI 181 0), (vR 116), Value.none, (vR 117), (vR 118), (vR 119), (vI 369 0), (vI 135 0), (vS (sO "/claim/cut.py") 370)])) aE)) ::
  (nat_lit 121, (Obj.mk (Value.type "function") none (Data.func (FuncData.mk (sO "hsv_to_rgb") (sO "hsv_to_rgb") (parD (stm 8)) (FuncBody.stmts (bodyD (stm 8))) (scD (stm 8)) 3 [] Value.none Value.none Value.none (vS (sO "cpy313.colorsys") 338) none (vR 120) Value.none 0)) aE)) ::
  (nat_lit 122, (Obj.mk (Value.type "tuple") none (Data.seq aE 0) aE)) ::
  (nat_lit 124, (Obj.mk (Value.type "tuple") none (Data.seq (aL [(vS (sO "script") 377), (vS (sO "draws") 378), (vS (sO "i") 379)]) 0) aE)) ::
  (nat_lit 125, (Obj.mk (Value.type "tuple") none (Data.seq aE 0) aE)) ::
  (nat_lit 127, (Obj.mk (Value.type "code") none (Data.fields (aL [(vS (sO "_law_draws") 374), (vS (sO "_law_draws") 375), (vS (sO "/claim/cut.py") 376), (vI 157 0), (vI 1 0), (vI 0 0), (vI 0 0), (vI 3 0), (vR 122), (Value.bool true), (vI 181 0), (vR 123), Value.none, (vR 124), (vR 125), (vR 126), (vI 380 0), (vI 157 0), (vS (sO "/claim/cut.py") 381)])) aE)) ::
  (nat_lit 128, (Obj.mk (Value.type "function") none (Data.func (FuncData.mk (sO "_law_draws") (sO "_law_draws") (parD (stm 10)) (FuncBody.stmts (bodyD (stm 10))) (scD (stm 10)) 3 [] Value.none Value.none Value.none (vS (sO "law_pg0266_01") 372) none (vR 127) Value.none 0)) aE)) ::
  (nat_lit 129, (Obj.mk (Value.type "tuple") none (Data.seq aE 0) aE)) ::
  (nat_lit 132, (Obj.mk (Value.type "code") none (Data.fields (aL [(vS (sO "_law_lead") 383), (vS (sO "_law_lead") 384), (vS (sO "/claim/cut.py") 385), (vI 162 0), (vI 3 0), (vI 0 0), (vI 0 0), (vI 3 0), (vR 129), (Value.bool true), (vI 181 0), (vR 130), Value.none, Value.none, Value.none, (vR 131), (vI 386 0), (vI 162 0), (vS (sO "/claim/cut.py") 387)])) aE)) ::
  (nat_lit 133, (Obj.mk (Value.type "function") none (Data.func (FuncData.mk (sO "_law_lead") (sO "_law_lead") (parD (stm 11)) (FuncBody.stmts (bodyD (stm 11))) (scD (stm 11)) 3 [] Value.none Value.none Value.none (vS (sO "law_pg0266_01") 372) none (vR 132) Value.none 0)) aE)) ::
  (nat_lit 134, (Obj.mk (Value.type "tuple") none (Data.seq aE 0) aE)) ::
  (nat_lit 137, (Obj.mk (Value.type "code") none (Data.fields (aL [(vS (sO "_law_text") 389), (vS (sO "_law_text") 390), (vS (sO "/claim/cut.py") 391), (vI 170 0), (vI 1 0), (vI 0 0), (vI 0 0), (vI 3 0), (vR 134), (Value.bool true), (vI 181 0), (vR 135), Value.none, Value.none, Value.none, (vR 136), (vI 392 0), (vI 170 0), (vS (sO "/claim/cut.py") 393)])) aE)) ::
  (nat_lit 138, (Obj.mk (Value.type "function") none (Data.func (FuncData.mk (sO "_law_text") (sO "_law_text") (parD (stm 12)) (FuncBody.stmts (bodyD (stm 12))) (scD (stm 12)) 3 [] Value.none Value.none Value.none (vS (sO "law_pg0266_01") 372) none (vR 137) Value.none 0)) aE)) ::
  (nat_lit 139, (Obj.mk (Value.type "tuple") none (Data.seq aE 0) aE)) ::
  (nat_lit 141, (Obj.mk (Value.type "tuple") none (Data.seq (aL [(vS (sO "lead") 398), (vS (sO "size") 399), (vS (sO "column") 400), (vS (sO "run") 401)]) 0) aE)) ::
  (nat_lit 142, (Obj.mk (Value.type "tuple") none (Data.seq aE 0) aE)) ::
  (nat_lit 144, (Obj.mk (Value.type "code") none (Data.fields (aL [(vS (sO "_law_column") 395), (vS (sO "_law_column") 396), (vS (sO "/claim/cut.py") 397), (vI 172 0), (vI 2 0), (vI 0 0), (vI 0 0), (vI 3 0), (vR 139), (Value.bool true), (vI 181 0), (vR 140), Value.none, (vR 141), (vR 142), (vR 143), (vI 402 0), (vI 172 0), (vS (sO "/claim/cut.py") 403)])) aE)) ::
  (nat_lit 145, (Obj.mk (Value.type "function") none (Data.func (FuncData.mk (sO "_law_column") (sO "_law_column") (parD (stm 13)) (FuncBody.stmts (bodyD (stm 13))) (scD (stm 13)) 3 [] Value.none Value.none Value.none (vS (sO "law_pg0266_01") 372) none (vR 144) Value.none 0)) aE)) ::
  (nat_lit 146, (Obj.mk (Value.type "tuple") none (Data.seq aE 0) aE)) ::
  (nat_lit 148, (Obj.mk (Value.type "tuple") none (Data.seq (aL [(vS (sO "row") 408)]) 0) aE)) ::
  (nat_lit 149, (Obj.mk (Value.type "tuple") none (Data.seq aE 0) aE)) ::
  (nat_lit 151, (Obj.mk (Value.type "code") none (Data.fields (aL [(vS (sO "_law_spread") 405), (vS (sO "_law_spread") 406), (vS (sO "/claim/cut.py") 407), (vI 177 0), (vI 1 0), (vI 0 0), (vI 0 0), (vI 3 0), (vR 146), (Value.bool true), (vI 181 0), (vR 147), Value.none, (vR 148), (vR 149), (vR 150), (vI 409 0), (vI 177 0), (vS (sO "/claim/cut.py") 410)])) aE)) ::
  (nat_lit 152, (Obj.mk (Value.type "function") none (Data.func (FuncData.mk (sO "_law_spread") (sO "_law_spread") (parD (stm 14)) (FuncBody.stmts (bodyD (stm 14))) (scD (stm 14)) 3 [] Value.none Value.none Value.none (vS (sO "law_pg0266_01") 372) none (vR 151) Value.none 0)) aE)) ::
  (nat_lit 153, (Obj.mk (Value.type "tuple") none (Data.seq aE 0) aE)) ::
  (nat_lit 155, (Obj.mk (Value.type "tuple") none (Data.seq (aL [(vS (sO "row") 415), (vS (sO "whole") 416), (vS (sO "parts") 417), (vS (sO "spread") 418), (vS (sO "top") 419), (vS (sO "way") 420)]) 0) aE)) ::
  (nat_lit 156, (Obj.mk (Value.type "tuple") none (Data.seq aE 0) aE)) ::
  (nat_lit 158, (Obj.mk (Value.type "code") none (Data.fields (aL [(vS (sO "_law_place") 412), (vS (sO "_law_place") 413), (vS (sO "/claim/cut.py") 414), (vI 179 0), (vI 2 0), (vI 0 0), (vI 0 0), (vI 3 0), (vR 153), (Value.bool true), (vI 181 0), (vR 154), Value.none, (vR 155), (vR 156), (vR 157), (vI 421 0), (vI 179 0), (vS (sO "/claim/cut.py") 422)])) aE)) ::
  (nat_lit 159, (Obj.mk (Value.type "function") none (Data.func (FuncData.mk (sO "_law_place") (sO "_law_place") (parD (stm 15)) (FuncBody.stmts (bodyD (stm 15))) (scD (stm 15)) 3 [] Value.none Value.none Value.none (vS (sO "law_pg0266_01") 372) none (vR 158) Value.none 0)) aE)) ::
  (nat_lit 160, (Obj.mk (Value.type "tuple") none (Data.seq aE 0) aE)) ::
  (nat_lit 162, (Obj.mk (Value.type "tuple") none (Data.seq (aL [(vS (sO "rows") 427), (vS (sO "row") 428)]) 0) aE)) ::
  (nat_lit 163, (Obj.mk (Value.type "tuple") none (Data.seq (aL [(vS (sO "whole") 429)]) 0) aE)) ::
  (nat_lit 165, (Obj.mk (Value.type "code") none (Data.fields (aL [(vS (sO "_law_order") 424), (vS (sO "_law_order") 425), (vS (sO "/claim/cut.py") 426), (vI 185 0), (vI 1 0), (vI 0 0), (vI 0 0), (vI 3 0), (vR 160), (Value.bool true), (vI 181 0), (vR 161), Value.none, (vR 162), (vR 163), (vR 164), (vI 430 0), (vI 185 0), (vS (sO "/claim/cut.py") 431)])) aE)) ::
  (nat_lit 166, (Obj.mk (Value.type "function") none (Data.func (FuncData.mk (sO "_law_order") (sO "_law_order") (parD (stm 16)) (FuncBody.stmts (bodyD (stm 16))) (scD (stm 16)) 3 [] Value.none Value.none Value.none (vS (sO "law_pg0266_01") 372) none (vR 165) Value.none 0)) aE)) ::
  (nat_lit 167, (Obj.mk (Value.type "tuple") none (Data.seq aE 0) aE)) ::
  (nat_lit 170, (Obj.mk (Value.type "code") none (Data.fields (aL [(vS (sO "_law_wheel") 433), (vS (sO "_law_wheel") 434), (vS (sO "/claim/cut.py") 435), (vI 190 0), (vI 2 0), (vI 0 0), (vI 0 0), (vI 3 0), (vR 167), (Value.bool true), (vI 181 0), (vR 168), Value.none, Value.none, Value.none, (vR 169), (vI 436 0), (vI 190 0), (vS (sO "/claim/cut.py") 437)])) aE)) ::
  (nat_lit 171, (Obj.mk (Value.type "function") none (Data.func (FuncData.mk (sO "_law_wheel") (sO "_law_wheel") (parD (stm 17)) (FuncBody.stmts (bodyD (stm 17))) (scD (stm 17)) 3 [] Value.none Value.none Value.none (vS (sO "law_pg0266_01") 372) none (vR 170) Value.none 0)) aE)) ::
  (nat_lit 172, (Obj.mk (Value.type "tuple") none (Data.seq aE 0) aE)) ::
  (nat_lit 174, (Obj.mk (Value.type "tuple") none (Data.seq (aL [(vS (sO "wheel") 442), (vS (sO "corner") 443), (vS (sO "low") 444), (vS (sO "high") 445), (vS (sO "a") 446), (vS (sO "b") 447), (vS (sO "c") 448), (vS (sO "d") 449), (vS (sO "inner") 450), (vS (sO "outer") 451), (vS (sO "alike") 452)]) 0) aE)) ::
  (nat_lit 175, (Obj.mk (Value.type "tuple") none (Data.seq aE 0) aE)) ::
  (nat_lit 177, (Obj.mk (Value.type "code") none (Data.fields (aL [(vS (sO "_law_cut") 439), (vS (sO "_law_cut") 440), (vS (sO "/claim/cut.py") 441), (vI 202 0), (vI 2 0), (vI 0 0), (vI 0 0), (vI 3 0), (vR 172), (Value.bool true), (vI 181 0), (vR 173), Value.none, (vR 174), (vR 175), (vR 176), (vI 453 0), (vI 202 0), (vS (sO "/claim/cut.py") 454)])) aE)) ::
  (nat_lit 178, (Obj.mk (Value.type "function") none (Data.func (FuncData.mk (sO "_law_cut") (sO "_law_cut") (parD (stm 18)) (FuncBody.stmts (bodyD (stm 18))) (scD (stm 18)) 3 [] Value.none Value.none Value.none (vS (sO "law_pg0266_01") 372) none (vR 177) Value.none 0)) aE)) ::
  (nat_lit 179, (Obj.mk (Value.type "tuple") none (Data.seq aE 0) aE)) ::
  (nat_lit 182, (Obj.mk (Value.type "code") none (Data.fields (aL [(vS (sO "_law_rows") 456), (vS (sO "_law_rows") 457), (vS (sO "/claim/cut.py") 458), (vI 215 0), (vI 4 0), (vI 0 0), (vI 0 0), (vI 3 0), (vR 179), (Value.bool true), (vI 181 0), (vR 180), Value.none, Value.none, Value.none, (vR 181), (vI 459 0), (vI 215 0), (vS (sO "/claim/cut.py") 460)])) aE)) ::
  (nat_lit 183, (Obj.mk (Value.type "function") none (Data.func (FuncData.mk (sO "_law_rows") (sO "_law_rows") (parD (stm 19)) (FuncBody.stmts (bodyD (stm 19))) (scD (stm 19)) 3 [] Value.none Value.none Value.none (vS (sO "law_pg0266_01") 372) none (vR 182) Value.none 0)) aE)) ::
  (nat_lit 184, (Obj.mk (Value.type "tuple") none (Data.seq aE 0) aE)) ::
  (nat_lit 186, (Obj.mk (Value.type "tuple") none (Data.seq (aL [(vS (sO "spaces") 465), (vS (sO "k") 466), (vS (sO "j") 467), (vS (sO "most") 468), (vS (sO "cut") 469), (vS (sO "less") 470), (vS (sO "more") 471), (vS (sO "alike") 472), (vS (sO "one") 473), (vS (sO "other") 474), (vS (sO "due") 475)]) 0) aE)) ::
  (nat_lit 187, (Obj.mk (Value.type "tuple") none (Data.seq aE 0) aE)) ::
  (nat_lit 189, (Obj.mk (Value.type "code") none (Data.fields (aL [(vS (sO "_law_pair") 462), (vS (sO "_law_pair") 463), (vS (sO "/claim/cut.py") 464), (vI 217 0), (vI 5 0), (vI 0 0), (vI 0 0), (vI 3 0), (vR 184), (Value.bool true), (vI 181 0), (vR 185), Value.none, (vR 186), (vR 187), (vR 188), (vI 476 0), (vI 217 0), (vS (sO "/claim/cut.py") 477)])) aE)) ::
  (nat_lit 190, (Obj.mk (Value.type "function") none (Data.func (FuncData.mk (sO "_law_pair") (sO "_law_pair") (parD (stm 20)) (FuncBody.stmts (bodyD (stm 20))) (scD (stm 20)) 3 [] Value.none Value.none Value.none (vS (sO "law_pg0266_01") 372) none (vR 189) Value.none 0)) aE)) ::
  (nat_lit 191, (Obj.mk (Value.type "tuple") none (Data.seq aE 0) aE)) ::
  (nat_lit 194, (Obj.mk (Value.type "code") none (Data.fields (aL [(vS (sO "_law_agrees") 479), (vS (sO "_law_agrees") 480), (vS (sO "/claim/cut.py") 481), (vI 229 0), (vI 1 0), (vI 0 0), (vI 0 0), (vI 3 0), (vR 191), (Value.bool true), (vI 181 0), (vR 192), Value.none, Value.none, Value.none, (vR 193), (vI 482 0), (vI 229 0), (vS (sO "/claim/cut.py") 483)])) aE)) ::
  (nat_lit 195, (Obj.mk (Value.type "function") none (Data.func (FuncData.mk (sO "_law_agrees") (sO "_law_agrees") (parD (stm 21)) (FuncBody.stmts (bodyD (stm 21))) (scD (stm 21)) 3 [] Value.none Value.none Value.none (vS (sO "law_pg0266_01") 372) none (vR 194) Value.none 0)) aE)) ::
  (nat_lit 196, (Obj.mk (Value.type "tuple") none (Data.seq aE 0) aE)) ::
  (nat_lit 198, (Obj.mk (Value.type "tuple") none (Data.seq (aL [(vS (sO "script") 488), (vS (sO "draws") 489), (vS (sO "first") 490), (vS (sO "second") 491), (vS (sO "third") 492)]) 0) aE)) ::
  (nat_lit 199, (Obj.mk (Value.type "tuple") none (Data.seq aE 0) aE)) ::
  (nat_lit 201, (Obj.mk (Value.type "code") none (Data.fields (aL [(vS (sO "law") 485), (vS (sO "law") 486), (vS (sO "/claim/cut.py") 487), (vI 247 0), (vI 1 0), (vI 0 0), (vI 0 0), (vI 3 0), (vR 196), (Value.bool true), (vI 181 0), (vR 197), Value.none, (vR 198), (vR 199), (vR 200), (vI 493 0), (vI 247 0), (vS (sO "/claim/cut.py") 494)])) aE)) ::
  (nat_lit 202, (Obj.mk (Value.type "function") none (Data.func (FuncData.mk (sO "law") (sO "law") (parD (stm 22)) (FuncBody.stmts (bodyD (stm 22))) (scD (stm 22)) 3 [] Value.none Value.none Value.none (vS (sO "law_pg0266_01") 372) none (vR 201) Value.none 0)) aE)) :: []
noncomputable def asK : List Addr := nat_lit 2 :: nat_lit 3 :: nat_lit 25 :: nat_lit 27 :: nat_lit 28 :: nat_lit 30 :: nat_lit 31 :: nat_lit 32 :: nat_lit 34 :: nat_lit 35 :: nat_lit 37 :: nat_lit 38 :: nat_lit 39 :: nat_lit 41 :: nat_lit 42 :: nat_lit 44 :: nat_lit 45 :: nat_lit 46 :: nat_lit 48 :: nat_lit 49 :: nat_lit 51 :: nat_lit 52 :: nat_lit 53 :: nat_lit 55 :: nat_lit 56 :: nat_lit 58 :: nat_lit 59 :: nat_lit 60 :: nat_lit 62 :: nat_lit 63 :: nat_lit 65 :: nat_lit 66 :: nat_lit 67 :: nat_lit 69 :: nat_lit 70 :: nat_lit 72 :: nat_lit 73 :: nat_lit 74 :: nat_lit 75 :: nat_lit 76 :: nat_lit 77 :: nat_lit 78 :: nat_lit 81 :: nat_lit 82 :: nat_lit 83 :: nat_lit 85 :: nat_lit 86 :: nat_lit 88 :: nat_lit 89 :: nat_lit 90 :: nat_lit 91 :: nat_lit 92 :: nat_lit 94 :: nat_lit 95 :: nat_lit 97 :: nat_lit 98 :: nat_lit 99 :: nat_lit 100 :: nat_lit 101 :: nat_lit 103 :: nat_lit 104 :: nat_lit 106 :: nat_lit 107 :: nat_lit 108 :: nat_lit 110 :: nat_lit 111 :: nat_lit 113 :: nat_lit 114 :: nat_lit 115 :: nat_lit 117 :: nat_lit 118 :: nat_lit 120 :: nat_lit 121 :: nat_lit 122 :: nat_lit 124 :: nat_lit 125 :: nat_lit 127 :: nat_lit 128 :: nat_lit 129 :: nat_lit 132 :: nat_lit 133 :: nat_lit 134 :: nat_lit 137 :: nat_lit 138 :: nat_lit 139 :: nat_lit 141 :: nat_lit 142 :: nat_lit 144 :: nat_lit 145 :: nat_lit 146 :: nat_lit 148 :: nat_lit 149 :: nat_lit 151 :: nat_lit 152 :: nat_lit 153 :: nat_lit 155 :: nat_lit 156 :: nat_lit 158 :: nat_lit 159 :: nat_lit 160 :: nat_lit 162 :: nat_lit 163 :: nat_lit 165 :: nat_lit 166 :: nat_lit 167 :: nat_lit 170 :: nat_lit 171 :: nat_lit 172 :: nat_lit 174 :: nat_lit 175 :: nat_lit 177 :: nat_lit 178 :: nat_lit 179 :: nat_lit 182 :: nat_lit 183 :: nat_lit 184 :: nat_lit 186 :: nat_lit 187 :: nat_lit 189 :: nat_lit 190 :: nat_lit 191 :: nat_lit 194 :: nat_lit 195 :: nat_lit 196 :: nat_lit 198 :: nat_lit 199 :: nat_lit 201 :: nat_lit 202 :: []
/-- the text less the lines that are not looked at -/
noncomputable def vw : Program := { PySem.Challenge.pw_pg0266_01 with main := { PySem.Challenge.pw_pg0266_01.main with body := [stm 1, stm 7, stm 8, stm 10, stm 11, stm 12, stm 13, stm 14, stm 15, stm 16, stm 17, stm 18, stm 19, stm 20, stm 21, stm 22] } }
noncomputable def loo : List Str := ["Whitespace", "insort_right", "bisect_right", "bisect_left"]
theorem as_eq : ∀ q, asK = (KK q).map (·.1) := fun _ => by kernel_rfl
end Mine
end

section
open PySem PySem.W PyProof.Rows
set_option maxRecDepth 100000
set_option maxHeartbeats 8000000
namespace Mine
noncomputable abbrev rr : RowW := OpenRow.toRowW (OpenLaw.row PySem.Challenge.rw_pg0266_01)
noncomputable abbrev pgm : Program := RowW.prog rr
noncomputable def mo0 : Params → Obj := fun q => (Obj.mk (Value.type "tuple") none (Data.seq aE 0) aE)
noncomputable def mo1 : Params → Obj := fun q => (Obj.mk Value.none none (Data.fields aE) aE)
noncomputable def mo2 : Params → Obj := fun q => (Obj.mk (Value.type "code") none (Data.fields (aL [(vS (sO "<module>") 182), (vS (sO "<module>") 183), (vS (sO "/claim/cut.py") 184), (vI 1 0), (vI 0 0), (vI 0 0), (vI 0 0), (vI 0 0), (vR 11), (Value.bool false), (vI 181 0), (vR 12), Value.none, Value.none, Value.none, Value.none, (vI 185 0), (vI 1 0), (vS (sO "/claim/cut.py") 186)])) aE)
noncomputable def mo3 : Params → Obj := fun q => (Obj.mk (Value.type "frame") none Data.plain (aL [(some (vR 13)), (some (vR 3)), (some (vR 3)), none, (some (vS (sO "__main__") 164)), none, (some (vR 0))]))
noncomputable def mo4 : Params → Obj := fun q => (Obj.mk (Value.type "dict") none (Data.dict (aL [(dE (kH q (sO "__name__")) (vS (sO "__name__") 165) (vS (sO "cpy313.tabnanny") 187)), (dE (kH q (sO "__doc__")) (vS (sO "__doc__") 166) Value.none), (dE (kH q (sO "__package__")) (vS (sO "__package__") 167) Value.none), (dE (kH q (sO "__loader__")) (vS (sO "__loader__") 168) (Value.builtin "__main__.__loader__#opaque")), (dE (kH q (sO "__spec__")) (vS (sO "__spec__") 169) Value.none), (dE (kH q (sO "__annotations__")) (vS (sO "__annotations__") 170) (vR 6)), (dE (kH q (sO "__builtins__")) (vS (sO "__builtins__") 171) (vR 4)), (dE (kH q (sO "__file__")) (vS (sO "__file__") 173) (vS (sO "/claim/cut.py") 172)), (dE (kH q (sO "__cached__")) (vS (sO "__cached__") 174) Value.none), (dE (kH q (sO "Whitespace")) (vS (sO "Whitespace") 294) (vR 76))]) 10) aE)
noncomputable def mo5 : Params → Obj := fun q => (Obj.mk Value.none none (Data.fields (aL [(vI 2 0), (vI 0 0), (vR 20)])) aE)
noncomputable def mo6 : Params → Obj := fun q => (Obj.mk (Value.type "builtin_function_or_method") none (Data.fields (aL [(Value.builtin "type.__prepare__"), (Value.type "type")])) aE)
noncomputable def mo7 : Params → Obj := fun q => (Obj.mk (Value.type "dict") none (Data.dict (aL [(dE (kH q (sO "__module__")) (vS (sO "__module__") 196) (vS (sO "cpy313.tabnanny") 187)), (dE (kH q (sO "__qualname__")) (vS (sO "__qualname__") 198) (vS (sO "Whitespace") 197)), (dE (kH q (sO "__firstlineno__")) (vS (sO "__firstlineno__") 200) (vI 2 199)), (dE (kH q (sO "S")) (vS (sO "S") 204) (vS (sO " ") 202)), (dE (kH q (sO "T")) (vS (sO "T") 205) (vS (sO "\t") 203)), (dE (kH q (sO "__init__")) (vS (sO "__init__") 220) (vR 31)), (dE (kH q (sO "longest_run_of_spaces")) (vS (sO "longest_run_of_spaces") 229) (vR 38)), (dE (kH q (sO "indent_level")) (vS (sO "indent_level") 241) (vR 45)), (dE (kH q (sO "equal")) (vS (sO "equal") 249) (vR 52)), (dE (kH q (sO "not_equal_witness")) (vS (sO "not_equal_witness") 260) (vR 59)), (dE (kH q (sO "less")) (vS (sO "less") 270) (vR 66)), (dE (kH q (sO "not_less_witness")) (vS (sO "not_less_witness") 281) (vR 73)), (dE (kH q (sO "__static_attributes__")) (vS (sO "__static_attributes__") 287) (vR 74))]) 13) aE)
noncomputable def mo8 : Params → Obj := fun q => (Obj.mk Value.none none (Data.fields (aL [(vI 5 0), (vI 4 0), (vR 30), (vI 28 0), (vI 4 0), (vR 37), (vI 32 0), (vI 4 0), (vR 44), (vI 39 0), (vI 4 0), (vR 51), (vI 42 0), (vI 4 0), (vR 58), (vI 50 0), (vI 4 0), (vR 65), (vI 61 0), (vI 4 0), (vR 72)])) aE)
noncomputable def mo9 : Params → Obj := fun q => (Obj.mk (Value.type "code") none (Data.fields (aL [(vS (sO "Whitespace") 191), (vS (sO "Whitespace") 192), (vS (sO "/claim/cut.py") 193), (vI 2 0), (vI 0 0), (vI 0 0), (vI 0 0), (vI 0 0), (vR 18), (Value.bool false), (vI 181 0), (vR 19), Value.none, Value.none, Value.none, Value.none, (vI 194 0), (vI 2 0), (vS (sO "/claim/cut.py") 195)])) aE)
noncomputable def mo10 : Params → Obj := fun q => (Obj.mk (Value.type "frame") none Data.plain (aL [(some (vR 20)), (some (vR 3)), (some (vR 17)), none, (some (vS (sO "cpy313.tabnanny") 187)), none, (some (vR 0))]))
noncomputable def mo11 : Params → Obj := fun q => (Obj.mk (Value.type "str_ascii_iterator") none (Data.fields (aL [Value.none, (vI 2 0)])) aE)
noncomputable def mo12 : Params → Obj := fun q => (Obj.mk (Value.type "StopIteration") none (Data.fields (aL [(vR 23), Value.none, Value.none, Value.none, (Value.bool false), Value.none])) aE)
noncomputable def mo13 : Params → Obj := fun q => (Obj.mk (Value.type "tuple") none (Data.seq (aL [(vS (sO "self") 209), (vS (sO "ws") 210), (vS (sO "S") 211), (vS (sO "T") 212), (vS (sO "count") 213), (vS (sO "b") 214), (vS (sO "n") 215), (vS (sO "nt") 216), (vS (sO "ch") 217)]) 0) aE)
noncomputable def mo14 : Params → Obj := fun q => (Obj.mk Value.none none (Data.func (FuncData.mk (sO "__init__") (sO "Whitespace.__init__") (parD (mth 1)) (FuncBody.stmts (bodyD (mth 1))) (scD (mth 1)) 0 [] Value.none Value.none Value.none Value.none none Value.none Value.none 0)) aE)
noncomputable def mo15 : Params → Obj := fun q => (Obj.mk (Value.type "code") none (Data.fields (aL [(vS (sO "__init__") 206), (vS (sO "Whitespace.__init__") 207), (vS (sO "/claim/cut.py") 208), (vI 5 0), (vI 2 0), (vI 0 0), (vI 0 0), (vI 3 0), (vR 25), (Value.bool true), (vI 181 0), (vR 26), Value.none, (vR 27), (vR 28), (vR 29), (vI 218 0), (vI 5 0), (vS (sO "/claim/cut.py") 219)])) aE)
noncomputable def mo16 : Params → Obj := fun q => (Obj.mk (Value.type "function") none (Data.func (FuncData.mk (sO "__init__") (sO "Whitespace.__init__") (parD (mth 1)) (FuncBody.stmts (bodyD (mth 1))) (scD (mth 1)) 3 [] Value.none Value.none Value.none (vS (sO "cpy313.tabnanny") 187) none (vR 30) Value.none 0)) aE)
noncomputable def mo17 : Params → Obj := fun q => (Obj.mk (Value.type "tuple") none (Data.seq (aL [(vS (sO "self") 224), (vS (sO "count") 225), (vS (sO "trailing") 226)]) 0) aE)
noncomputable def mo18 : Params → Obj := fun q => (Obj.mk Value.none none (Data.func (FuncData.mk (sO "longest_run_of_spaces") (sO "Whitespace.longest_run_of_spaces") (parD (mth 2)) (FuncBody.stmts (bodyD (mth 2))) (scD (mth 2)) 0 [] Value.none Value.none Value.none Value.none none Value.none Value.none 0)) aE)
noncomputable def mo19 : Params → Obj := fun q => (Obj.mk (Value.type "code") none (Data.fields (aL [(vS (sO "longest_run_of_spaces") 221), (vS (sO "Whitespace.longest_run_of_spaces") 222), (vS (sO "/claim/cut.py") 223), (vI 28 0), (vI 1 0), (vI 0 0), (vI 0 0), (vI 3 0), (vR 32), (Value.bool true), (vI 181 0), (vR 33), Value.none, (vR 34), (vR 35), (vR 36), (vI 227 0), (vI 28 0), (vS (sO "/claim/cut.py") 228)])) aE)
noncomputable def mo20 : Params → Obj := fun q => (Obj.mk (Value.type "function") none (Data.func (FuncData.mk (sO "longest_run_of_spaces") (sO "Whitespace.longest_run_of_spaces") (parD (mth 2)) (FuncBody.stmts (bodyD (mth 2))) (scD (mth 2)) 3 [] Value.none Value.none Value.none (vS (sO "cpy313.tabnanny") 187) none (vR 37) Value.none 0)) aE)
noncomputable def mo21 : Params → Obj := fun q => (Obj.mk (Value.type "tuple") none (Data.seq (aL [(vS (sO "self") 233), (vS (sO "tabsize") 234), (vS (sO "count") 235), (vS (sO "trailing") 236), (vS (sO "il") 237), (vS (sO "i") 238)]) 0) aE)
noncomputable def mo22 : Params → Obj := fun q => (Obj.mk Value.none none (Data.func (FuncData.mk (sO "indent_level") (sO "Whitespace.indent_level") (parD (mth 3)) (FuncBody.stmts (bodyD (mth 3))) (scD (mth 3)) 0 [] Value.none Value.none Value.none Value.none none Value.none Value.none 0)) aE)
noncomputable def mo23 : Params → Obj := fun q => (Obj.mk (Value.type "code") none (Data.fields (aL [(vS (sO "indent_level") 230), (vS (sO "Whitespace.indent_level") 231), (vS (sO "/claim/cut.py") 232), (vI 32 0), (vI 2 0), (vI 0 0), (vI 0 0), (vI 3 0), (vR 39), (Value.bool true), (vI 181 0), (vR 40), Value.none, (vR 41), (vR 42), (vR 43), (vI 239 0), (vI 32 0), (vS (sO "/claim/cut.py") 240)])) aE)
noncomputable def mo24 : Params → Obj := fun q => (Obj.mk (Value.type "function") none (Data.func (FuncData.mk (sO "indent_level") (sO "Whitespace.indent_level") (parD (mth 3)) (FuncBody.stmts (bodyD (mth 3))) (scD (mth 3)) 3 [] Value.none Value.none Value.none (vS (sO "cpy313.tabnanny") 187) none (vR 44) Value.none 0)) aE)
noncomputable def mo25 : Params → Obj := fun q => (Obj.mk (Value.type "tuple") none (Data.seq (aL [(vS (sO "self") 245), (vS (sO "other") 246)]) 0) aE)
noncomputable def mo26 : Params → Obj := fun q => (Obj.mk Value.none none (Data.func (FuncData.mk (sO "equal") (sO "Whitespace.equal") (parD (mth 4)) (FuncBody.stmts (bodyD (mth 4))) (scD (mth 4)) 0 [] Value.none Value.none Value.none Value.none none Value.none Value.none 0)) aE)
noncomputable def mo27 : Params → Obj := fun q => (Obj.mk (Value.type "code") none (Data.fields (aL [(vS (sO "equal") 242), (vS (sO "Whitespace.equal") 243), (vS (sO "/claim/cut.py") 244), (vI 39 0), (vI 2 0), (vI 0 0), (vI 0 0), (vI 3 0), (vR 46), (Value.bool true), (vI 181 0), (vR 47), Value.none, (vR 48), (vR 49), (vR 50), (vI 247 0), (vI 39 0), (vS (sO "/claim/cut.py") 248)])) aE)
noncomputable def mo28 : Params → Obj := fun q => (Obj.mk (Value.type "function") none (Data.func (FuncData.mk (sO "equal") (sO "Whitespace.equal") (parD (mth 4)) (FuncBody.stmts (bodyD (mth 4))) (scD (mth 4)) 3 [] Value.none Value.none Value.none (vS (sO "cpy313.tabnanny") 187) none (vR 51) Value.none 0)) aE)
noncomputable def mo29 : Params → Obj := fun q => (Obj.mk (Value.type "tuple") none (Data.seq (aL [(vS (sO "self") 253), (vS (sO "other") 254), (vS (sO "n") 255), (vS (sO "a") 256), (vS (sO "ts") 257)]) 0) aE)
noncomputable def mo30 : Params → Obj := fun q => (Obj.mk Value.none none (Data.func (FuncData.mk (sO "not_equal_witness") (sO "Whitespace.not_equal_witness") (parD (mth 5)) (FuncBody.stmts (bodyD (mth 5))) (scD (mth 5)) 0 [] Value.none Value.none Value.none Value.none none Value.none Value.none 0)) aE)
noncomputable def mo31 : Params → Obj := fun q => (Obj.mk (Value.type "code") none (Data.fields (aL [(vS (sO "not_equal_witness") 250), (vS (sO "Whitespace.not_equal_witness") 251), (vS (sO "/claim/cut.py") 252), (vI 42 0), (vI 2 0), (vI 0 0), (vI 0 0), (vI 3 0), (vR 53), (Value.bool true), (vI 181 0), (vR 54), Value.none, (vR 55), (vR 56), (vR 57), (vI 258 0), (vI 42 0), (vS (sO "/claim/cut.py") 259)])) aE)
noncomputable def mo32 : Params → Obj := fun q => (Obj.mk (Value.type "function") none (Data.func (FuncData.mk (sO "not_equal_witness") (sO "Whitespace.not_equal_witness") (parD (mth 5)) (FuncBody.stmts (bodyD (mth 5))) (scD (mth 5)) 3 [] Value.none Value.none Value.none (vS (sO "cpy313.tabnanny") 187) none (vR 58) Value.none 0)) aE)
noncomputable def mo33 : Params → Obj := fun q => (Obj.mk (Value.type "tuple") none (Data.seq (aL [(vS (sO "self") 264), (vS (sO "other") 265), (vS (sO "n") 266), (vS (sO "ts") 267)]) 0) aE)
noncomputable def mo34 : Params → Obj := fun q => (Obj.mk Value.none none (Data.func (FuncData.mk (sO "less") (sO "Whitespace.less") (parD (mth 6)) (FuncBody.stmts (bodyD (mth 6))) (scD (mth 6)) 0 [] Value.none Value.none Value.none Value.none none Value.none Value.none 0)) aE)
noncomputable def mo35 : Params → Obj := fun q => (Obj.mk (Value.type "code") none (Data.fields (aL [(vS (sO "less") 261), (vS (sO "Whitespace.less") 262), (vS (sO "/claim/cut.py") 263), (vI 50 0), (vI 2 0), (vI 0 0), (vI 0 0), (vI 3 0), (vR 60), (Value.bool true), (vI 181 0), (vR 61), Value.none, (vR 62), (vR 63), (vR 64), (vI 268 0), (vI 50 0), (vS (sO "/claim/cut.py") 269)])) aE)
noncomputable def mo36 : Params → Obj := fun q => (Obj.mk (Value.type "function") none (Data.func (FuncData.mk (sO "less") (sO "Whitespace.less") (parD (mth 6)) (FuncBody.stmts (bodyD (mth 6))) (scD (mth 6)) 3 [] Value.none Value.none Value.none (vS (sO "cpy313.tabnanny") 187) none (vR 65) Value.none 0)) aE)
noncomputable def mo37 : Params → Obj := fun q => (Obj.mk (Value.type "tuple") none (Data.seq (aL [(vS (sO "self") 274), (vS (sO "other") 275), (vS (sO "n") 276), (vS (sO "a") 277), (vS (sO "ts") 278)]) 0) aE)
noncomputable def mo38 : Params → Obj := fun q => (Obj.mk Value.none none (Data.func (FuncData.mk (sO "not_less_witness") (sO "Whitespace.not_less_witness") (parD (mth 7)) (FuncBody.stmts (bodyD (mth 7))) (scD (mth 5)) 0 [] Value.none Value.none Value.none Value.none none Value.none Value.none 0)) aE)
noncomputable def mo39 : Params → Obj := fun q => (Obj.mk (Value.type "code") none (Data.fields (aL [(vS (sO "not_less_witness") 271), (vS (sO "Whitespace.not_less_witness") 272), (vS (sO "/claim/cut.py") 273), (vI 61 0), (vI 2 0), (vI 0 0), (vI 0 0), (vI 3 0), (vR 67), (Value.bool true), (vI 181 0), (vR 68), Value.none, (vR 69), (vR 70), (vR 71), (vI 279 0), (vI 61 0), (vS (sO "/claim/cut.py") 280)])) aE)
noncomputable def mo40 : Params → Obj := fun q => (Obj.mk (Value.type "function") none (Data.func (FuncData.mk (sO "not_less_witness") (sO "Whitespace.not_less_witness") (parD (mth 7)) (FuncBody.stmts (bodyD (mth 7))) (scD (mth 5)) 3 [] Value.none Value.none Value.none (vS (sO "cpy313.tabnanny") 187) none (vR 72) Value.none 0)) aE)
noncomputable def mo41 : Params → Obj := fun q => (Obj.mk (Value.type "tuple") none (Data.seq (aL [(vS (sO "is_simple") 282), (vS (sO "n") 283), (vS (sO "norm") 284), (vS (sO "nt") 285), (vS (sO "raw") 286)]) 0) aE)
noncomputable def mo42 : Params → Obj := fun q => (Obj.mk (Value.type "dict") none (Data.dict (aL [(dE (kH q (sO "__module__")) (vS (sO "__module__") 196) (vS (sO "cpy313.tabnanny") 187)), (dE (kH q (sO "__firstlineno__")) (vS (sO "__firstlineno__") 200) (vI 2 199)), (dE (kH q (sO "S")) (vS (sO "S") 204) (vS (sO " ") 202)), (dE (kH q (sO "T")) (vS (sO "T") 205) (vS (sO "\t") 203)), (dE (kH q (sO "__init__")) (vS (sO "__init__") 220) (vR 31)), (dE (kH q (sO "longest_run_of_spaces")) (vS (sO "longest_run_of_spaces") 229) (vR 38)), (dE (kH q (sO "indent_level")) (vS (sO "indent_level") 241) (vR 45)), (dE (kH q (sO "equal")) (vS (sO "equal") 249) (vR 52)), (dE (kH q (sO "not_equal_witness")) (vS (sO "not_equal_witness") 260) (vR 59)), (dE (kH q (sO "less")) (vS (sO "less") 270) (vR 66)), (dE (kH q (sO "not_less_witness")) (vS (sO "not_less_witness") 281) (vR 73)), (dE (kH q (sO "__static_attributes__")) (vS (sO "__static_attributes__") 287) (vR 74)), (dE (kH q (sO "__dict__")) (vS (sO "__dict__") 289) (vR 77)), (dE (kH q (sO "__weakref__")) (vS (sO "__weakref__") 291) (vR 78)), (dE (kH q (sO "__doc__")) (vS (sO "__doc__") 292) Value.none)]) 4) aE)
noncomputable def mo43 : Params → Obj := fun q => (Obj.mk (Value.type "type") none (Data.cls (ClassData.mk (sO "Whitespace") [(Value.type "object")] [(vR 76), (Value.type "object")] 75 (sO "Whitespace") true [] [] false none false)) (aL [none, none, (some (vS (sO "Whitespace") 189)), (some (vS (sO "Whitespace") 197)), (some (Value.builtin "object.__new__")), (some (Value.bool true))]))
noncomputable def mo44 : Params → Obj := fun q => (Obj.mk (Value.type "getset_descriptor") none (Data.fields (aL [(vS (sO "__dict__") 288), (vR 76), (Value.builtin "function.__dict__"), (Value.builtin "function.__dict__#set")])) aE)
noncomputable def mo45 : Params → Obj := fun q => (Obj.mk (Value.type "getset_descriptor") none (Data.fields (aL [(vS (sO "__weakref__") 290), (vR 76), (Value.builtin "ExceptionGroup.__weakref__"), Value.none])) aE)
noncomputable def mo46 : Params → Obj := fun q => (Obj.mk (Value.type "super") none (Data.fields (aL [(vR 76), (vR 76), (vR 76)])) aE)
noncomputable def mo47 : Params → Obj := fun q => (Obj.mk (Value.type "builtin_function_or_method") none (Data.fields (aL [(Value.builtin "object.__init_subclass__"), (vR 76)])) aE)
noncomputable def mo48 : Params → Obj := fun q => (Obj.mk (Value.type "dict") none (Data.dict (aL [(dE (kH q (sO "__name__")) (vS (sO "__name__") 165) (vS (sO "law_pg0266_01") 372)), (dE (kH q (sO "__doc__")) (vS (sO "__doc__") 166) Value.none), (dE (kH q (sO "__package__")) (vS (sO "__package__") 167) Value.none), (dE (kH q (sO "__loader__")) (vS (sO "__loader__") 168) (Value.builtin "__main__.__loader__#opaque")), (dE (kH q (sO "__spec__")) (vS (sO "__spec__") 169) Value.none), (dE (kH q (sO "__annotations__")) (vS (sO "__annotations__") 170) (vR 6)), (dE (kH q (sO "__builtins__")) (vS (sO "__builtins__") 171) (vR 4)), (dE (kH q (sO "__file__")) (vS (sO "__file__") 173) (vS (sO "/claim/cut.py") 172)), (dE (kH q (sO "__cached__")) (vS (sO "__cached__") 174) Value.none), (dE (kH q (sO "Whitespace")) (vS (sO "Whitespace") 294) (vR 76)), (dE (kH q (sO "insort_right")) (vS (sO "insort_right") 309) (vR 89)), (dE (kH q (sO "bisect_right")) (vS (sO "bisect_right") 323) (vR 98)), (dE (kH q (sO "bisect_left")) (vS (sO "bisect_left") 337) (vR 107)), (dE (kH q (sO "rgb_to_hsv")) (vS (sO "rgb_to_hsv") 357) (vR 114)), (dE (kH q (sO "hsv_to_rgb")) (vS (sO "hsv_to_rgb") 371) (vR 121)), (dE (kH q (sO "_law_draws")) (vS (sO "_law_draws") 382) (vR 128)), (dE (kH q (sO "_law_lead")) (vS (sO "_law_lead") 388) (vR 133)), (dE (kH q (sO "_law_text")) (vS (sO "_law_text") 394) (vR 138)), (dE (kH q (sO "_law_column")) (vS (sO "_law_column") 404) (vR 145)), (dE (kH q (sO "_law_spread")) (vS (sO "_law_spread") 411) (vR 152)), (dE (kH q (sO "_law_place")) (vS (sO "_law_place") 423) (vR 159)), (dE (kH q (sO "_law_order")) (vS (sO "_law_order") 432) (vR 166)), (dE (kH q (sO "_law_wheel")) (vS (sO "_law_wheel") 438) (vR 171)), (dE (kH q (sO "_law_cut")) (vS (sO "_law_cut") 455) (vR 178)), (dE (kH q (sO "_law_rows")) (vS (sO "_law_rows") 461) (vR 183)), (dE (kH q (sO "_law_pair")) (vS (sO "_law_pair") 478) (vR 190)), (dE (kH q (sO "_law_agrees")) (vS (sO "_law_agrees") 484) (vR 195)), (dE (kH q (sO "law")) (vS (sO "law") 495) (vR 202))]) 28) aE)
noncomputable def mo49 : Params → Obj := fun q => (Obj.mk Value.none none (Data.fields (aL [(vI 2 0), (vI 0 0), (vR 20), (vI 69 0), (vI 0 0), (vR 88), (vI 75 0), (vI 0 0), (vR 97), (vI 95 0), (vI 0 0), (vR 106), (vI 116 0), (vI 0 0), (vR 113), (vI 135 0), (vI 0 0), (vR 120), (vI 157 0), (vI 0 0), (vR 127), (vI 162 0), (vI 0 0), (vR 132), (vI 170 0), (vI 0 0), (vR 137), (vI 172 0), (vI 0 0), (vR 144), (vI 177 0), (vI 0 0), (vR 151), (vI 179 0), (vI 0 0), (vR 158), (vI 185 0), (vI 0 0), (vR 165), (vI 190 0), (vI 0 0), (vR 170), (vI 202 0), (vI 0 0), (vR 177), (vI 215 0), (vI 0 0), (vR 182), (vI 217 0), (vI 0 0), (vR 189), (vI 229 0), (vI 0 0), (vR 194), (vI 247 0), (vI 0 0), (vR 201)])) aE)
noncomputable def mo50 : Params → Obj := fun q => (Obj.mk (Value.type "tuple") none (Data.seq (aL [(vI 0 297), Value.none]) 0) aE)
noncomputable def mo51 : Params → Obj := fun q => (Obj.mk (Value.type "dict") none (Data.dict (aL [(dE (kH q (sO "key")) (vS (sO "key") 298) Value.none)]) 1) aE)
noncomputable def mo52 : Params → Obj := fun q => (Obj.mk (Value.type "tuple") none (Data.seq (aL [(vS (sO "a") 302), (vS (sO "x") 303), (vS (sO "lo") 304), (vS (sO "hi") 305), (vS (sO "key") 306)]) 0) aE)
noncomputable def mo53 : Params → Obj := fun q => (Obj.mk Value.none none (Data.func (FuncData.mk (sO "insort_right") (sO "insort_right") (parD (stm 3)) (FuncBody.stmts (bodyD (stm 3))) (scD (stm 3)) 0 [] Value.none Value.none Value.none Value.none none Value.none Value.none 0)) aE)
noncomputable def mo54 : Params → Obj := fun q => (Obj.mk (Value.type "code") none (Data.fields (aL [(vS (sO "insort_right") 299), (vS (sO "insort_right") 300), (vS (sO "/claim/cut.py") 301), (vI 69 0), (vI 4 0), (vI 0 0), (vI 1 0), (vI 3 0), (vR 83), (Value.bool true), (vI 181 0), (vR 84), Value.none, (vR 85), (vR 86), (vR 87), (vI 307 0), (vI 69 0), (vS (sO "/claim/cut.py") 308)])) aE)
noncomputable def mo55 : Params → Obj := fun q => (Obj.mk (Value.type "function") none (Data.func (FuncData.mk (sO "insort_right") (sO "insort_right") (parD (stm 3)) (FuncBody.stmts (bodyD (stm 3))) (scD (stm 3)) 3 [] (vR 81) (vR 82) Value.none (vS (sO "cpy313.bisect") 295) none (vR 88) Value.none 0)) aE)
noncomputable def mo56 : Params → Obj := fun q => (Obj.mk (Value.type "tuple") none (Data.seq (aL [(vI 0 310), Value.none]) 0) aE)
noncomputable def mo57 : Params → Obj := fun q => (Obj.mk (Value.type "dict") none (Data.dict (aL [(dE (kH q (sO "key")) (vS (sO "key") 311) Value.none)]) 1) aE)
noncomputable def mo58 : Params → Obj := fun q => (Obj.mk (Value.type "tuple") none (Data.seq (aL [(vS (sO "a") 315), (vS (sO "x") 316), (vS (sO "lo") 317), (vS (sO "hi") 318), (vS (sO "key") 319), (vS (sO "mid") 320)]) 0) aE)
noncomputable def mo59 : Params → Obj := fun q => (Obj.mk Value.none none (Data.func (FuncData.mk (sO "bisect_right") (sO "bisect_right") (parD (stm 4)) (FuncBody.stmts (bodyD (stm 4))) (scD (stm 4)) 0 [] Value.none Value.none Value.none Value.none none Value.none Value.none 0)) aE)
noncomputable def mo60 : Params → Obj := fun q => (Obj.mk (Value.type "code") none (Data.fields (aL [(vS (sO "bisect_right") 312), (vS (sO "bisect_right") 313), (vS (sO "/claim/cut.py") 314), (vI 75 0), (vI 4 0), (vI 0 0), (vI 1 0), (vI 3 0), (vR 92), (Value.bool true), (vI 181 0), (vR 93), Value.none, (vR 94), (vR 95), (vR 96), (vI 321 0), (vI 75 0), (vS (sO "/claim/cut.py") 322)])) aE)
noncomputable def mo61 : Params → Obj := fun q => (Obj.mk (Value.type "function") none (Data.func (FuncData.mk (sO "bisect_right") (sO "bisect_right") (parD (stm 4)) (FuncBody.stmts (bodyD (stm 4))) (scD (stm 4)) 3 [] (vR 90) (vR 91) Value.none (vS (sO "cpy313.bisect") 295) none (vR 97) Value.none 0)) aE)
noncomputable def mo62 : Params → Obj := fun q => (Obj.mk (Value.type "tuple") none (Data.seq (aL [(vI 0 324), Value.none]) 0) aE)
noncomputable def mo63 : Params → Obj := fun q => (Obj.mk (Value.type "dict") none (Data.dict (aL [(dE (kH q (sO "key")) (vS (sO "key") 325) Value.none)]) 1) aE)
noncomputable def mo64 : Params → Obj := fun q => (Obj.mk (Value.type "tuple") none (Data.seq (aL [(vS (sO "a") 329), (vS (sO "x") 330), (vS (sO "lo") 331), (vS (sO "hi") 332), (vS (sO "key") 333), (vS (sO "mid") 334)]) 0) aE)
noncomputable def mo65 : Params → Obj := fun q => (Obj.mk Value.none none (Data.func (FuncData.mk (sO "bisect_left") (sO "bisect_left") (parD (stm 5)) (FuncBody.stmts (bodyD (stm 5))) (scD (stm 4)) 0 [] Value.none Value.none Value.none Value.none none Value.none Value.none 0)) aE)
noncomputable def mo66 : Params → Obj := fun q => (Obj.mk (Value.type "code") none (Data.fields (aL [(vS (sO "bisect_left") 326), (vS (sO "bisect_left") 327), (vS (sO "/claim/cut.py") 328), (vI 95 0), (vI 4 0), (vI 0 0), (vI 1 0), (vI 3 0), (vR 101), (Value.bool true), (vI 181 0), (vR 102), Value.none, (vR 103), (vR 104), (vR 105), (vI 335 0), (vI 95 0), (vS (sO "/claim/cut.py") 336)])) aE)
noncomputable def mo67 : Params → Obj := fun q => (Obj.mk (Value.type "function") none (Data.func (FuncData.mk (sO "bisect_left") (sO "bisect_left") (parD (stm 5)) (FuncBody.stmts (bodyD (stm 5))) (scD (stm 4)) 3 [] (vR 99) (vR 100) Value.none (vS (sO "cpy313.bisect") 295) none (vR 106) Value.none 0)) aE)
noncomputable def mo68 : Params → Obj := fun q => (Obj.mk (Value.type "tuple") none (Data.seq (aL [(vS (sO "r") 343), (vS (sO "g") 344), (vS (sO "b") 345), (vS (sO "maxc") 346), (vS (sO "minc") 347), (vS (sO "rangec") 348), (vS (sO "v") 349), (vS (sO "s") 350), (vS (sO "rc") 351), (vS (sO "gc") 352), (vS (sO "bc") 353), (vS (sO "h") 354)]) 0) aE)
noncomputable def mo69 : Params → Obj := fun q => (Obj.mk Value.none none (Data.func (FuncData.mk (sO "rgb_to_hsv") (sO "rgb_to_hsv") (parD (stm 7)) (FuncBody.stmts (bodyD (stm 7))) (scD (stm 7)) 0 [] Value.none Value.none Value.none Value.none none Value.none Value.none 0)) aE)
noncomputable def mo70 : Params → Obj := fun q => (Obj.mk (Value.type "code") none (Data.fields (aL [(vS (sO "rgb_to_hsv") 340), (vS (sO "rgb_to_hsv") 341), (vS (sO "/claim/cut.py") 342), (vI 116 0), (vI 3 0), (vI 0 0), (vI 0 0), (vI 3 0), (vR 108), (Value.bool true), (vI 181 0), (vR 109), Value.none, (vR 110), (vR 111), (vR 112), (vI 355 0), (vI 116 0), (vS (sO "/claim/cut.py") 356)])) aE)
noncomputable def mo71 : Params → Obj := fun q => (Obj.mk (Value.type "function") none (Data.func (FuncData.mk (sO "rgb_to_hsv") (sO "rgb_to_hsv") (parD (stm 7)) (FuncBody.stmts (bodyD (stm 7))) (scD (stm 7)) 3 [] Value.none Value.none Value.none (vS (sO "cpy313.colorsys") 338) none (vR 113) Value.none 0)) aE)
noncomputable def mo72 : Params → Obj := fun q => (Obj.mk (Value.type "tuple") none (Data.seq (aL [(vS (sO "h") 361), (vS (sO "s") 362), (vS (sO "v") 363), (vS (sO "i") 364), (vS (sO "f") 365), (vS (sO "p") 366), (vS (sO "q") 367), (vS (sO "t") 368)]) 0) aE)
noncomputable def mo73 : Params → Obj := fun q => (Obj.mk Value.none none (Data.func (FuncData.mk (sO "hsv_to_rgb") (sO "hsv_to_rgb") (parD (stm 8)) (FuncBody.stmts (bodyD (stm 8))) (scD (stm 8)) 0 [] Value.none Value.none Value.none Value.none none Value.none Value.none 0)) aE)
noncomputable def mo74 : Params → Obj := fun q => (Obj.mk (Value.type "code") none (Data.fields (aL [(vS (sO "hsv_to_rgb") 358), (vS (sO "hsv_to_rgb") 359), (vS (sO "/claim/cut.py") 360), (vI 135 0), (vI 3 0), (vI 0 0), (vI 0 0), (vI 3 0), (vR 115), (Value.bool true), (vI 181 0), (vR 116), Value.none, (vR 117), (vR 118), (vR 119), (vI 369 0), (vI 135 0), (vS (sO "/claim/cut.py") 370)])) aE)
noncomputable def mo75 : Params → Obj := fun q => (Obj.mk (Value.type "function") none (Data.func (FuncData.mk (sO "hsv_to_rgb") (sO "hsv_to_rgb") (parD (stm 8)) (FuncBody.stmts (bodyD (stm 8))) (scD (stm 8)) 3 [] Value.none Value.none Value.none (vS (sO "cpy313.colorsys") 338) none (vR 120) Value.none 0)) aE)
noncomputable def mo76 : Params → Obj := fun q => (Obj.mk (Value.type "tuple") none (Data.seq (aL [(vS (sO "script") 377), (vS (sO "draws") 378), (vS (sO "i") 379)]) 0) aE)
noncomputable def mo77 : Params → Obj := fun q => (Obj.mk Value.none none (Data.func (FuncData.mk (sO "_law_draws") (sO "_law_draws") (parD (stm 10)) (FuncBody.stmts (bodyD (stm 10))) (scD (stm 10)) 0 [] Value.none Value.none Value.none Value.none none Value.none Value.none 0)) aE)
noncomputable def mo78 : Params → Obj := fun q => (Obj.mk (Value.type "code") none (Data.fields (aL [(vS (sO "_law_draws") 374), (vS (sO "_law_draws") 375), (vS (sO "/claim/cut.py") 376), (vI 157 0), (vI 1 0), (vI 0 0), (vI 0 0), (vI 3 0), (vR 122), (Value.bool true), (vI 181 0), (vR 123), Value.none, (vR 124), (vR 125), (vR 126), (vI 380 0), (vI 157 0), (vS (sO "/claim/cut.py") 381)])) aE)
noncomputable def mo79 : Params → Obj := fun q => (Obj.mk (Value.type "function") none (Data.func (FuncData.mk (sO "_law_draws") (sO "_law_draws") (parD (stm 10)) (FuncBody.stmts (bodyD (stm 10))) (scD (stm 10)) 3 [] Value.none Value.none Value.none (vS (sO "law_pg0266_01") 372) none (vR 127) Value.none 0)) aE)
noncomputable def mo80 : Params → Obj := fun q => (Obj.mk Value.none none (Data.func (FuncData.mk (sO "_law_lead") (sO "_law_lead") (parD (stm 11)) (FuncBody.stmts (bodyD (stm 11))) (scD (stm 11)) 0 [] Value.none Value.none Value.none Value.none none Value.none Value.none 0)) aE)
noncomputable def mo81 : Params → Obj := fun q => (Obj.mk (Value.type "code") none (Data.fields (aL [(vS (sO "_law_lead") 383), (vS (sO "_law_lead") 384), (vS (sO "/claim/cut.py") 385), (vI 162 0), (vI 3 0), (vI 0 0), (vI 0 0), (vI 3 0), (vR 129), (Value.bool true), (vI 181 0), (vR 130), Value.none, Value.none, Value.none, (vR 131), (vI 386 0), (vI 162 0), (vS (sO "/claim/cut.py") 387)])) aE)
noncomputable def mo82 : Params → Obj := fun q => (Obj.mk (Value.type "function") none (Data.func (FuncData.mk (sO "_law_lead") (sO "_law_lead") (parD (stm 11)) (FuncBody.stmts (bodyD (stm 11))) (scD (stm 11)) 3 [] Value.none Value.none Value.none (vS (sO "law_pg0266_01") 372) none (vR 132) Value.none 0)) aE)
noncomputable def mo83 : Params → Obj := fun q => (Obj.mk Value.none none (Data.func (FuncData.mk (sO "_law_text") (sO "_law_text") (parD (stm 12)) (FuncBody.stmts (bodyD (stm 12))) (scD (stm 12)) 0 [] Value.none Value.none Value.none Value.none none Value.none Value.none 0)) aE)
noncomputable def mo84 : Params → Obj := fun q => (Obj.mk (Value.type "code") none (Data.fields (aL [(vS (sO "_law_text") 389), (vS (sO "_law_text") 390), (vS (sO "/claim/cut.py") 391), (vI 170 0), (vI 1 0), (vI 0 0), (vI 0 0), (vI 3 0), (vR 134), (Value.bool true), (vI 181 0), (vR 135), Value.none, Value.none, Value.none, (vR 136), (vI 392 0), (vI 170 0), (vS (sO "/claim/cut.py") 393)])) aE)
noncomputable def mo85 : Params → Obj := fun q => (Obj.mk (Value.type "function") none (Data.func (FuncData.mk (sO "_law_text") (sO "_law_text") (parD (stm 12)) (FuncBody.stmts (bodyD (stm 12))) (scD (stm 12)) 3 [] Value.none Value.none Value.none (vS (sO "law_pg0266_01") 372) none (vR 137) Value.none 0)) aE)
noncomputable def mo86 : Params → Obj := fun q => (Obj.mk (Value.type "tuple") none (Data.seq (aL [(vS (sO "lead") 398), (vS (sO "size") 399), (vS (sO "column") 400), (vS (sO "run") 401)]) 0) aE)
noncomputable def mo87 : Params → Obj := fun q => (Obj.mk Value.none none (Data.func (FuncData.mk (sO "_law_column") (sO "_law_column") (parD (stm 13)) (FuncBody.stmts (bodyD (stm 13))) (scD (stm 13)) 0 [] Value.none Value.none Value.none Value.none none Value.none Value.none 0)) aE)
noncomputable def mo88 : Params → Obj := fun q => (Obj.mk (Value.type "code") none (Data.fields (aL [(vS (sO "_law_column") 395), (vS (sO "_law_column") 396), (vS (sO "/claim/cut.py") 397), (vI 172 0), (vI 2 0), (vI 0 0), (vI 0 0), (vI 3 0), (vR 139), (Value.bool true), (vI 181 0), (vR 140), Value.none, (vR 141), (vR 142), (vR 143), (vI 402 0), (vI 172 0), (vS (sO "/claim/cut.py") 403)])) aE)
noncomputable def mo89 : Params → Obj := fun q => (Obj.mk (Value.type "function") none (Data.func (FuncData.mk (sO "_law_column") (sO "_law_column") (parD (stm 13)) (FuncBody.stmts (bodyD (stm 13))) (scD (stm 13)) 3 [] Value.none Value.none Value.none (vS (sO "law_pg0266_01") 372) none (vR 144) Value.none 0)) aE)
noncomputable def mo90 : Params → Obj := fun q => (Obj.mk (Value.type "tuple") none (Data.seq (aL [(vS (sO "row") 408)]) 0) aE)
noncomputable def mo91 : Params → Obj := fun q => (Obj.mk Value.none none (Data.func (FuncData.mk (sO "_law_spread") (sO "_law_spread") (parD (stm 14)) (FuncBody.stmts (bodyD (stm 14))) (scD (stm 14)) 0 [] Value.none Value.none Value.none Value.none none Value.none Value.none 0)) aE)
noncomputable def mo92 : Params → Obj := fun q => (Obj.mk (Value.type "code") none (Data.fields (aL [(vS (sO "_law_spread") 405), (vS (sO "_law_spread") 406), (vS (sO "/claim/cut.py") 407), (vI 177 0), (vI 1 0), (vI 0 0), (vI 0 0), (vI 3 0), (vR 146), (Value.bool true), (vI 181 0), (vR 147), Value.none, (vR 148), (vR 149), (vR 150), (vI 409 0), (vI 177 0), (vS (sO "/claim/cut.py") 410)])) aE)
noncomputable def mo93 : Params → Obj := fun q => (Obj.mk (Value.type "function") none (Data.func (FuncData.mk (sO "_law_spread") (sO "_law_spread") (parD (stm 14)) (FuncBody.stmts (bodyD (stm 14))) (scD (stm 14)) 3 [] Value.none Value.none Value.none (vS (sO "law_pg0266_01") 372) none (vR 151) Value.none 0)) aE)
noncomputable def mo94 : Params → Obj := fun q => (Obj.mk (Value.type "tuple") none (Data.seq (aL [(vS (sO "row") 415), (vS (sO "whole") 416), (vS (sO "parts") 417), (vS (sO "spread") 418), (vS (sO "top") 419), (vS (sO "way") 420)]) 0) aE)
noncomputable def mo95 : Params → Obj := fun q => (Obj.mk Value.none none (Data.func (FuncData.mk (sO "_law_place") (sO "_law_place") (parD (stm 15)) (FuncBody.stmts (bodyD (stm 15))) (scD (stm 15)) 0 [] Value.none Value.none Value.none Value.none none Value.none Value.none 0)) aE)
noncomputable def mo96 : Params → Obj := fun q => (Obj.mk (Value.type "code") none (Data.fields (aL [(vS (sO "_law_place") 412), (vS (sO "_law_place") 413), (vS (sO "/claim/cut.py") 414), (vI 179 0), (vI 2 0), (vI 0 0), (vI 0 0), (vI 3 0), (vR 153), (Value.bool true), (vI 181 0), (vR 154), Value.none, (vR 155), (vR 156), (vR 157), (vI 421 0), (vI 179 0), (vS (sO "/claim/cut.py") 422)])) aE)
noncomputable def mo97 : Params → Obj := fun q => (Obj.mk (Value.type "function") none (Data.func (FuncData.mk (sO "_law_place") (sO "_law_place") (parD (stm 15)) (FuncBody.stmts (bodyD (stm 15))) (scD (stm 15)) 3 [] Value.none Value.none Value.none (vS (sO "law_pg0266_01") 372) none (vR 158) Value.none 0)) aE)
noncomputable def mo98 : Params → Obj := fun q => (Obj.mk (Value.type "tuple") none (Data.seq (aL [(vS (sO "rows") 427), (vS (sO "row") 428)]) 0) aE)
noncomputable def mo99 : Params → Obj := fun q => (Obj.mk (Value.type "tuple") none (Data.seq (aL [(vS (sO "whole") 429)]) 0) aE)
noncomputable def mo100 : Params → Obj := fun q => (Obj.mk Value.none none (Data.func (FuncData.mk (sO "_law_order") (sO "_law_order") (parD (stm 16)) (FuncBody.stmts (bodyD (stm 16))) (scD (stm 16)) 0 [] Value.none Value.none Value.none Value.none none Value.none Value.none 0)) aE)
noncomputable def mo101 : Params → Obj := fun q => (Obj.mk (Value.type "code") none (Data.fields (aL [(vS (sO "_law_order") 424), (vS (sO "_law_order") 425), (vS (sO "/claim/cut.py") 426), (vI 185 0), (vI 1 0), (vI 0 0), (vI 0 0), (vI 3 0), (vR 160), (Value.bool true), (vI 181 0), (vR 161), Value.none, (vR 162), (vR 163), (vR 164), (vI 430 0), (vI 185 0), (vS (sO "/claim/cut.py") 431)])) aE)
noncomputable def mo102 : Params → Obj := fun q => (Obj.mk (Value.type "function") none (Data.func (FuncData.mk (sO "_law_order") (sO "_law_order") (parD (stm 16)) (FuncBody.stmts (bodyD (stm 16))) (scD (stm 16)) 3 [] Value.none Value.none Value.none (vS (sO "law_pg0266_01") 372) none (vR 165) Value.none 0)) aE)
noncomputable def mo103 : Params → Obj := fun q => (Obj.mk Value.none none (Data.func (FuncData.mk (sO "_law_wheel") (sO "_law_wheel") (parD (stm 17)) (FuncBody.stmts (bodyD (stm 17))) (scD (stm 17)) 0 [] Value.none Value.none Value.none Value.none none Value.none Value.none 0)) aE)
noncomputable def mo104 : Params → Obj := fun q => (Obj.mk (Value.type "code") none (Data.fields (aL [(vS (sO "_law_wheel") 433), (vS (sO "_law_wheel") 434), (vS (sO "/claim/cut.py") 435), (vI 190 0), (vI 2 0), (vI 0 0), (vI 0 0), (vI 3 0), (vR 167), (Value.bool true), (vI 181 0), (vR 168), Value.none, Value.none, Value.none, (vR 169), (vI 436 0), (vI 190 0), (vS (sO "/claim/cut.py") 437)])) aE)
noncomputable def mo105 : Params → Obj := fun q => (Obj.mk (Value.type "function") none (Data.func (FuncData.mk (sO "_law_wheel") (sO "_law_wheel") (parD (stm 17)) (FuncBody.stmts (bodyD (stm 17))) (scD (stm 17)) 3 [] Value.none Value.none Value.none (vS (sO "law_pg0266_01") 372) none (vR 170) Value.none 0)) aE)
noncomputable def mo106 : Params → Obj := fun q => (Obj.mk (Value.type "tuple") none (Data.seq (aL [(vS (sO "wheel") 442), (vS (sO "corner") 443), (vS (sO "low") 444), (vS (sO "high") 445), (vS (sO "a") 446), (vS (sO "b") 447), (vS (sO "c") 448), (vS (sO "d") 449), (vS (sO "inner") 450), (vS (sO "outer") 451), (vS (sO "alike") 452)]) 0) aE)
noncomputable def mo107 : Params → Obj := fun q => (Obj.mk Value.none none (Data.func (FuncData.mk (sO "_law_cut") (sO "_law_cut") (parD (stm 18)) (FuncBody.stmts (bodyD (stm 18))) (scD (stm 18)) 0 [] Value.none Value.none Value.none Value.none none Value.none Value.none 0)) aE)
noncomputable def mo108 : Params → Obj := fun q => (Obj.mk (Value.type "code") none (Data.fields (aL [(vS (sO "_law_cut") 439), (vS (sO "_law_cut") 440), (vS (sO "/claim/cut.py") 441), (vI 202 0), (vI 2 0), (vI 0 0), (vI 0 0), (vI 3 0), (vR 172), (Value.bool true), (vI 181 0), (vR 173), Value.none, (vR 174), (vR 175), (vR 176), (vI 453 0), (vI 202 0), (vS (sO "/claim/cut.py") 454)])) aE)
noncomputable def mo109 : Params → Obj := fun q => (Obj.mk (Value.type "function") none (Data.func (FuncData.mk (sO "_law_cut") (sO "_law_cut") (parD (stm 18)) (FuncBody.stmts (bodyD (stm 18))) (scD (stm 18)) 3 [] Value.none Value.none Value.none (vS (sO "law_pg0266_01") 372) none (vR 177) Value.none 0)) aE)
noncomputable def mo110 : Params → Obj := fun q => (Obj.mk Value.none none (Data.func (FuncData.mk (sO "_law_rows") (sO "_law_rows") (parD (stm 19)) (FuncBody.stmts (bodyD (stm 19))) (scD (stm 19)) 0 [] Value.none Value.none Value.none Value.none none Value.none Value.none 0)) aE)
noncomputable def mo111 : Params → Obj := fun q => (Obj.mk (Value.type "code") none (Data.fields (aL [(vS (sO "_law_rows") 456), (vS (sO "_law_rows") 457), (vS (sO "/claim/cut.py") 458), (vI 215 0), (vI 4 0), (vI 0 0), (vI 0 0), (vI 3 0), (vR 179), (Value.bool true), (vI 181 0), (vR 180), Value.none, Value.none, Value.none, (vR 181), (vI 459 0), (vI 215 0), (vS (sO "/claim/cut.py") 460)])) aE)
noncomputable def mo112 : Params → Obj := fun q => (Obj.mk (Value.type "function") none (Data.func (FuncData.mk (sO "_law_rows") (sO "_law_rows") (parD (stm 19)) (FuncBody.stmts (bodyD (stm 19))) (scD (stm 19)) 3 [] Value.none Value.none Value.none (vS (sO "law_pg0266_01") 372) none (vR 182) Value.none 0)) aE)
noncomputable def mo113 : Params → Obj := fun q => (Obj.mk (Value.type "tuple") none (Data.seq (aL [(vS (sO "spaces") 465), (vS (sO "k") 466), (vS (sO "j") 467), (vS (sO "most") 468), (vS (sO "cut") 469), (vS (sO "less") 470), (vS (sO "more") 471), (vS (sO "alike") 472), (vS (sO "one") 473), (vS (sO "other") 474), (vS (sO "due") 475)]) 0) aE)
noncomputable def mo114 : Params → Obj := fun q => (Obj.mk Value.none none (Data.func (FuncData.mk (sO "_law_pair") (sO "_law_pair") (parD (stm 20)) (FuncBody.stmts (bodyD (stm 20))) (scD (stm 20)) 0 [] Value.none Value.none Value.none Value.none none Value.none Value.none 0)) aE)
noncomputable def mo115 : Params → Obj := fun q => (Obj.mk (Value.type "code") none (Data.fields (aL [(vS (sO "_law_pair") 462), (vS (sO "_law_pair") 463), (vS (sO "/claim/cut.py") 464), (vI 217 0), (vI 5 0), (vI 0 0), (vI 0 0), (vI 3 0), (vR 184), (Value.bool true), (vI 181 0), (vR 185), Value.none, (vR 186), (vR 187), (vR 188), (vI 476 0), (vI 217 0), (vS (sO "/claim/cut.py") 477)])) aE)
noncomputable def mo116 : Params → Obj := fun q => (Obj.mk (Value.type "function") none (Data.func (FuncData.mk (sO "_law_pair") (sO "_law_pair") (parD (stm 20)) (FuncBody.stmts (bodyD (stm 20))) (scD (stm 20)) 3 [] Value.none Value.none Value.none (vS (sO "law_pg0266_01") 372) none (vR 189) Value.none 0)) aE)
noncomputable def mo117 : Params → Obj := fun q => (Obj.mk Value.none none (Data.func (FuncData.mk (sO "_law_agrees") (sO "_law_agrees") (parD (stm 21)) (FuncBody.stmts (bodyD (stm 21))) (scD (stm 21)) 0 [] Value.none Value.none Value.none Value.none none Value.none Value.none 0)) aE)
noncomputable def mo118 : Params → Obj := fun q => (Obj.mk (Value.type "code") none (Data.fields (aL [(vS (sO "_law_agrees") 479), (vS (sO "_law_agrees") 480), (vS (sO "/claim/cut.py") 481), (vI 229 0), (vI 1 0), (vI 0 0), (vI 0 0), (vI 3 0), (vR 191), (Value.bool true), (vI 181 0), (vR 192), Value.none, Value.none, Value.none, (vR 193), (vI 482 0), (vI 229 0), (vS (sO "/claim/cut.py") 483)])) aE)
noncomputable def mo119 : Params → Obj := fun q => (Obj.mk (Value.type "function") none (Data.func (FuncData.mk (sO "_law_agrees") (sO "_law_agrees") (parD (stm 21)) (FuncBody.stmts (bodyD (stm 21))) (scD (stm 21)) 3 [] Value.none Value.none Value.none (vS (sO "law_pg0266_01") 372) none (vR 194) Value.none 0)) aE)
noncomputable def mo120 : Params → Obj := fun q => (Obj.mk (Value.type "tuple") none (Data.seq (aL [(vS (sO "script") 488), (vS (sO "draws") 489), (vS (sO "first") 490), (vS (sO "second") 491), (vS (sO "third") 492)]) 0) aE)
noncomputable def mo121 : Params → Obj := fun q => (Obj.mk Value.none none (Data.func (FuncData.mk (sO "law") (sO "law") (parD (stm 22)) (FuncBody.stmts (bodyD (stm 22))) (scD (stm 22)) 0 [] Value.none Value.none Value.none Value.none none Value.none Value.none 0)) aE)
noncomputable def mo122 : Params → Obj := fun q => (Obj.mk (Value.type "code") none (Data.fields (aL [(vS (sO "law") 485), (vS (sO "law") 486), (vS (sO "/claim/cut.py") 487), (vI 247 0), (vI 1 0), (vI 0 0), (vI 0 0), (vI 3 0), (vR 196), (Value.bool true), (vI 181 0), (vR 197), Value.none, (vR 198), (vR 199), (vR 200), (vI 493 0), (vI 247 0), (vS (sO "/claim/cut.py") 494)])) aE)
noncomputable def mo123 : Params → Obj := fun q => (Obj.mk (Value.type "function") none (Data.func (FuncData.mk (sO "law") (sO "law") (parD (stm 22)) (FuncBody.stmts (bodyD (stm 22))) (scD (stm 22)) 3 [] Value.none Value.none Value.none (vS (sO "law_pg0266_01") 372) none (vR 201) Value.none 0)) aE)
/-- the heap at the body's first step, and the heap behind the class statement -/
noncomputable def hpA : Params → Heap := fun q => Heap.mk (Array.mk [boot_o_0 q, boot_o_1 q, boot_o_2 q, boot_o_3 q, boot_o_4 q, boot_o_5 q, boot_o_6 q, boot_o_7 q, boot_o_8 q, boot_o_9 q, boot_o_10 q, mo0 q, mo1 q, mo2 q, mo3 q]) (Life.mk [] [] [] 0 [] [] false aE [] 0 false false false 0 [2000, 10, 10] false 0 true [] [] 0 false)
noncomputable def hpM : Params → Heap := fun q => Heap.mk (Array.mk [boot_o_0 q, boot_o_1 q, boot_o_2 q, mo4 q, boot_o_4 q, boot_o_5 q, boot_o_6 q, boot_o_7 q, boot_o_8 q, boot_o_9 q, boot_o_10 q, mo0 q, mo5 q, mo2 q, mo3 q, mo0 q, mo6 q, mo7 q, mo0 q, mo8 q, mo9 q, mo10 q, mo11 q, mo0 q, mo12 q, mo0 q, mo1 q, mo13 q, mo0 q, mo14 q, mo15 q, mo16 q, mo0 q, mo1 q, mo17 q, mo0 q, mo18 q, mo19 q, mo20 q, mo0 q, mo1 q, mo21 q, mo0 q, mo22 q, mo23 q, mo24 q, mo0 q, mo1 q, mo25 q, mo0 q, mo26 q, mo27 q, mo28 q, mo0 q, mo1 q, mo29 q, mo0 q, mo30 q, mo31 q, mo32 q, mo0 q, mo1 q, mo33 q, mo0 q, mo34 q, mo35 q, mo36 q, mo0 q, mo1 q, mo37 q, mo0 q, mo38 q, mo39 q, mo40 q, mo41 q, mo42 q, mo43 q, mo44 q, mo45 q, mo46 q, mo47 q]) (Life.mk [] [] [] 0 [] [] false aE [] 0 false false false 0 [2000, 10, 10] false 0 true [] [] 0 false)
noncomputable def hpZ : Params → Heap := fun q => Heap.mk (Array.mk [boot_o_0 q, boot_o_1 q, boot_o_2 q, mo48 q, boot_o_4 q, boot_o_5 q, boot_o_6 q, boot_o_7 q, boot_o_8 q, boot_o_9 q, boot_o_10 q, mo0 q, mo49 q, mo2 q, mo3 q, mo0 q, mo6 q, mo7 q, mo0 q, mo8 q, mo9 q, mo10 q, mo11 q, mo0 q, mo12 q, mo0 q, mo1 q, mo13 q, mo0 q, mo14 q, mo15 q, mo16 q, mo0 q, mo1 q, mo17 q, mo0 q, mo18 q, mo19 q, mo20 q, mo0 q, mo1 q, mo21 q, mo0 q, mo22 q, mo23 q, mo24 q, mo0 q, mo1 q, mo25 q, mo0 q, mo26 q, mo27 q, mo28 q, mo0 q, mo1 q, mo29 q, mo0 q, mo30 q, mo31 q, mo32 q, mo0 q, mo1 q, mo33 q, mo0 q, mo34 q, mo35 q, mo36 q, mo0 q, mo1 q, mo37 q, mo0 q, mo38 q, mo39 q, mo40 q, mo41 q, mo42 q, mo43 q, mo44 q, mo45 q, mo46 q, mo47 q, mo50 q, mo51 q, mo0 q, mo1 q, mo52 q, mo0 q, mo53 q, mo54 q, mo55 q, mo56 q, mo57 q, mo0 q, mo1 q, mo58 q, mo0 q, mo59 q, mo60 q, mo61 q, mo62 q, mo63 q, mo0 q, mo1 q, mo64 q, mo0 q, mo65 q, mo66 q, mo67 q, mo0 q, mo1 q, mo68 q, mo0 q, mo69 q, mo70 q, mo71 q, mo0 q, mo1 q, mo72 q, mo0 q, mo73 q, mo74 q, mo75 q, mo0 q, mo1 q, mo76 q, mo0 q, mo77 q, mo78 q, mo79 q, mo0 q, mo1 q, mo80 q, mo81 q, mo82 q, mo0 q, mo1 q, mo83 q, mo84 q, mo85 q, mo0 q, mo1 q, mo86 q, mo0 q, mo87 q, mo88 q, mo89 q, mo0 q, mo1 q, mo90 q, mo0 q, mo91 q, mo92 q, mo93 q, mo0 q, mo1 q, mo94 q, mo0 q, mo95 q, mo96 q, mo97 q, mo0 q, mo1 q, mo98 q, mo99 q, mo100 q, mo101 q, mo102 q, mo0 q, mo1 q, mo103 q, mo104 q, mo105 q, mo0 q, mo1 q, mo106 q, mo0 q, mo107 q, mo108 q, mo109 q, mo0 q, mo1 q, mo110 q, mo111 q, mo112 q, mo0 q, mo1 q, mo113 q, mo0 q, mo114 q, mo115 q, mo116 q, mo0 q, mo1 q, mo117 q, mo118 q, mo119 q, mo0 q, mo1 q, mo120 q, mo0 q, mo121 q, mo122 q, mo123 q]) (Life.mk [] [] [] 0 [] [] false aE [] 0 false false false 0 [2000, 10, 10] false 0 true [] [] 0 false)
noncomputable def stS (w : World) (os : OsState) : Shared := ⟨boot_heap w.params, Array.mk [], boot_drawn, boot_toks, os⟩
noncomputable def stA (w : World) (os : OsState) : Shared := ⟨hpA w.params, Array.mk [], (Drawn.mk 0 0 0 0), 187, os⟩
noncomputable def stM (w : World) (os : OsState) : Shared := ⟨hpM w.params, Array.mk [], (Drawn.mk 0 0 0 0), 295, os⟩
noncomputable def stZ (w : World) (os : OsState) : Shared := ⟨hpZ w.params, Array.mk [], (Drawn.mk 0 0 0 0), 496, os⟩
noncomputable def env0 : Env := { scope := (Program.main pgm).scope, locals := mainNs, globals := mainNs, cells := [], code := Value.ref 13, frame := some 14 }
noncomputable abbrev bdy : List Stmt := behindTheImports pgm
noncomputable abbrev cd0 : Code := .body bdy env0
abbrev p0 : Pos := Pos.mk 0 0 0 0
abbrev pM : Pos := Pos.mk 2 0 67 16
theorem open_ : ∀ w : World, (fencedOpening treeTable pgm w 2386).map (fun s => (s.heap, s.gens, s.drawn, s.toks)) = some (boot_heap w.params, Array.mk [], boot_drawn, boot_toks) :=
  boot_open (by kernel_rfl) (by rfl) (fun s => by kernel_rfl)
theorem pieceA : ∀ (w : World) (os : OsState), topGo treeTable pgm w 11 (some (Value.ref 6)) 12 (stS w os) (topStub pgm) = some (stA w os, ⟨denote treeTable cd0, cd0, p0, [topFrame p0]⟩) := fun w os => by kernel_rfl
theorem pieceB : ∀ (w : World) (os : OsState), segRun treeTable pgm w 11 (some (Value.ref 6)) 1 1 (stA w os) (blockOf bdy env0 cd0 p0 [topFrame p0]) = some (.next, stA w os, cd0, p0) := fun w os => by kernel_rfl
def PM (w : World) : Prop := ∀ os : OsState, segRun treeTable pgm w 11 (some (Value.ref 6)) 1 508 (stA w os) (piecesOf (bdy.take 2) env0 cd0 p0 [topFrame p0]) = some (.next, stM w os, cd0, pM)
theorem pieceF : ∀ w : World, PM (w.withFollow "special-get-raises" false) := fun w os => by kernel_rfl
theorem pieceT : ∀ w : World, PM (w.withFollow "special-get-raises" true) := fun w os => by kernel_rfl
theorem pieceM : ∀ w : World, PM w := byRow2 "special-get-raises" pieceF pieceT
theorem pieceR : ∀ (w : World) (os : OsState), topRun treeTable pgm w 11 (some (Value.ref 6)) 1865 (stM w os) (restOf (bdy.drop 2) env0 cd0 pM [topFrame p0]) = some (stZ w os) := fun w os => by kernel_rfl
theorem looks1 : ∀ (w : World) (os : OsState), (staticsOk (importedModules pgm.main.body) (boot_heap w.params) (hpZ w.params) && namesBound pgm (hpZ w.params) && gensDone (stZ w os) && laidKept (boot_heap w.params) (hpZ w.params)) = true := fun w os => by kernel_rfl
theorem looks2 : ∀ (w : World) (os : OsState), openSeen vw loo (importedModules pgm.main.body) (fun s => xlAt vw [] s && recOk (RowW.records rr) s) true (stZ w os) = openGood vw loo := fun w os => by kernel_rfl
theorem looks3 : ∀ (w : World) (os : OsState), Hook.obs (kmHook KK asK as_eq [173, 168, 161]) (stZ w os) = Hook.val (kmHook KK asK as_eq [173, 168, 161]) w := fun w os => by kernel_rfl
theorem bootSizes : ∀ w : World, ((boot_heap w.params).isNs mainGlobals && (Array.mk [] : Array GenState).size == 0, (boot_heap w.params).objs.size, (boot_heap w.params).nsMap mainGlobals "__annotations__") = (true, 11, some (Value.ref 6)) := fun w => by kernel_rfl
theorem runZ (w : World) (os : OsState) : topRun treeTable pgm w 11 (some (Value.ref 6)) (12 + (1 + (508 + 1865))) (stS w os) (topStub pgm) = some (stZ w os) := by
  have b := piece_app (pieceM w os) (pieceR w os)
  rw [List.take_append_drop] at b
  exact go_top (pieceA w os) (piece_block (pieceB w os) b)
theorem looksZ (w : World) : (fun os => ((staticsOk (importedModules pgm.main.body) (boot_heap w.params) (hpZ w.params) && namesBound pgm (hpZ w.params) && gensDone (stZ w os) && laidKept (boot_heap w.params) (hpZ w.params)),
    openSeen vw loo (importedModules pgm.main.body) (fun s => xlAt vw [] s && recOk (RowW.records rr) s) true (stZ w os), Hook.obs (kmHook KK asK as_eq [173, 168, 161]) (stZ w os))) =
    fun _ => (true, openGood vw loo, Hook.val (kmHook KK asK as_eq [173, 168, 161]) w) :=
  funext fun os => looks_pair (looks1 w os) (looks_pair (looks2 w os) (looks3 w os))
theorem hl_ : LeftO pgm vw loo (fun s => xlAt vw [] s && recOk (RowW.records rr) s) (Hook.obs (kmHook KK asK as_eq [173, 168, 161])) (Hook.val (kmHook KK asK as_eq [173, 168, 161])) 2386 true :=
  LeftO.of_pieces (H₀ := boot_heap) (H₁ := hpZ) (gs₀ := Array.mk []) (gs₁ := Array.mk []) (d₀ := boot_drawn) (d₁ := (Drawn.mk 0 0 0 0)) (k₀ := boot_toks) (k₁ := 496) (m₀ := 11) (ann := some (Value.ref 6)) (M := 12 + (1 + (508 + 1865)))
    open_ bootSizes runZ rfl looksZ
end Mine
end

section
open PySem PySem.W PyProof.Rows PySem.Calls
set_option maxRecDepth 100000
namespace Mine

/-- facts of the program's top -/
structure KW (K : Frag) : Prop where
  max_ : nsIn K mainGlobals "max" = some Option.none
  min_ : nsIn K mainGlobals "min" = some Option.none
  len_ : nsIn K mainGlobals "len" = some Option.none
  range_ : nsIn K mainGlobals "range" = some Option.none
  a_n : AtOk K "n"
  a_nt : AtOk K "nt"
  a_norm : AtOk K "norm"
  a_simple : AtOk K "is_simple"
  m_longest : MeOk K "longest_run_of_spaces" 38
  m_indent : MeOk K "indent_level" 45
  m_equal : MeOk K "equal" 52
  m_neq : MeOk K "not_equal_witness" 59
  m_less : MeOk K "less" 66
  m_nless : MeOk K "not_less_witness" 73
  d_longest : IsDef K 38 "longest_run_of_spaces" "Whitespace.longest_run_of_spaces" (mth 2) .none .none (.ref 37)
  d_indent : IsDef K 45 "indent_level" "Whitespace.indent_level" (mth 3) .none .none (.ref 44)
  d_equal : IsDef K 52 "equal" "Whitespace.equal" (mth 4) .none .none (.ref 51)
  d_neq : IsDef K 59 "not_equal_witness" "Whitespace.not_equal_witness" (mth 5) .none .none (.ref 58)
  d_less : IsDef K 66 "less" "Whitespace.less" (mth 6) .none .none (.ref 65)
  d_nless : IsDef K 73 "not_less_witness" "Whitespace.not_less_witness" (mth 7) .none .none (.ref 72)

theorem boot_max : bootBuiltins "max" = some (.builtin "max") := by boot_fast
theorem boot_min : bootBuiltins "min" = some (.builtin "min") := by boot_fast
theorem boot_len : bootBuiltins "len" = some (.builtin "len") := by boot_fast
theorem boot_range : bootBuiltins "range" = some (.type "range") := by boot_fast

theorem sizes3 (a b c : D) : [a, b, c].length ≤ sizeLine := by rw [sizeLine_eq]; simp
theorem mulOk {a b : Int} (h : a.natAbs < 2 ^ 62) : IntMulOk a b := by
  refine IntMulOk.of_left ?_
  unfold Builtin.Int.intBits
  split
  · simp
  · rename_i h0
    have h0' : a.natAbs ≠ 0 := by
      intro e
      exact h0 (by simp [Int.natAbs_eq_zero.mp e])
    have := (Nat.log2_lt h0').mpr h
    lia

section
variable {P : Wd} {C : Cx P} {Γ Γ' : GEnv} {k : Nat}
theorem CallOk.lenT' {ds : List D} {n : Nat} (hn : ds.length = n) (hz : n ≤ 1000000) : CallOk C (.builtin "len") [.tup ds] (.int n) := by
  subst hn; exact CallOk.lenT (by lia)
theorem CallOk.lenL' {ds : List D} {n : Nat} (hn : ds.length = n) (hz : n ≤ 1000000) : CallOk C (.builtin "len") [.lst ds] (.int n) := by
  subst hn; exact CallOk.lenL (by omega)
theorem longest_ok (X : KW P.K) (O : CxOk C k) (hr : k < 890) {w : Wsp} (hw : w.cnt.length ≤ 1000) : CallOk C (.ref 38) [.ws w] (.int (max (w.cnt.length - 1) w.b)) := by
  refine CallOk.dfn O (by lia) X.d_longest (names := ["self"]) (fun C' F _ => ?_) (fun vs doc pm an ct h => ?_) rfl rfl (by decide) (by decide)
  · refine SS.one (S1.unpackT F.ok (xs := [("count", _), ("trailing", _)]) rfl (fun x hx => ?_) (EV.attr F.ok X.a_norm (.norm w) F.name) rfl) ?_
    · rcases List.mem_cons.mp hx with rfl | hx
      · exact F.st
      · rw [List.mem_singleton.mp hx]; exact F.st
    · refine SS.cons (N1 := fun _ => False) (S1.ret (EV.callB (F.boot X.max_ boot_max) (EVs.cons (EV.bin BinOk.subI (EV.callB (F.boot X.len_ boot_len) (EVs.cons F.name EVs.nil) (CallOk.lenT' (List.length_map _) (by lia))) EV.cInt) (EVs.cons F.name EVs.nil)) (CallOk.max2 F.ok)) rfl) (fun _ h => h.elim)
  · obtain ⟨a1, rfl⟩ := len1 h; rfl

noncomputable def ilTo (cnt : List Int) (ts : Int) : Nat → Int
  | 0 => 0
  | i + 1 => ilTo cnt ts i + (ts + (i : Int)).fdiv ts * cnt.getD (ts + (i : Int)).toNat 0
noncomputable def Wsp.lvl (w : Wsp) (ts : Int) : Int := w.b + ts * (ilTo w.cnt ts ((w.cnt.length : Int) - ts).toNat + w.nt)
noncomputable def Wsp.lon (w : Wsp) : Int := max (w.cnt.length - 1) w.b
/-- small -/
structure Wsp.Sm (w : Wsp) : Prop where
  len : w.cnt.length ≤ 1000
  b0 : 0 ≤ w.b
  b : w.b ≤ 1000

theorem fdiv_abs {a b : Int} (ha : 0 ≤ a) (hb : 1 ≤ b) : (a.fdiv b).natAbs ≤ a.natAbs := by
  rw [Int.fdiv_eq_ediv_of_nonneg _ (by lia)]
  have h1 := Int.ediv_nonneg ha (by omega : 0 ≤ b)
  have h2 := Int.ediv_le_self b ha
  lia

theorem indent_ok (X : KW P.K) (O : CxOk C k) (hr : k < 890) {w : Wsp} (hw : w.Sm) {ts : Int} (h1 : 1 ≤ ts) (h2 : ts ≤ 100000) : CallOk C (.ref 45) [.ws w, .int ts] (.int (w.lvl ts)) := by
  have hlen := hw.len
  refine CallOk.dfn O (by lia) X.d_indent (names := ["self", "tabsize"]) (fun C' F _ => ?_) (fun vs doc pm an ct h => ?_) rfl rfl (by decide) (by decide)
  · refine SS.one (S1.unpackT F.ok (xs := [("count", _), ("trailing", _)]) rfl (fun x hx => ?_) (EV.attr F.ok X.a_norm (.norm w) F.name) rfl) ?_
    · rcases List.mem_cons.mp hx with rfl | hx
      · exact F.st
      · rw [List.mem_singleton.mp hx]; exact F.st
    refine SS.one (S1.assign F.ok F.st EV.cInt) ?_
    refine SS.cons (N1 := fun G => G "il" = some (.d (.int (ilTo w.cnt ts ((w.cnt.length : Int) - ts).toNat))) ∧ G "tabsize" = some (.d (.int ts)) ∧ G "trailing" = some (.d (.int w.b)) ∧ G "self" = some (.d (.ws w)))
      (S1.forI F.ok F.st (IT.rng (a := ts) (b := w.cnt.length) F.ok (small_one (by lia) (by lia) (by simp) (by lia)) (EV.callT (F.boot X.range_ boot_range) (EVs.cons F.name (EVs.cons (EV.callB (F.boot X.len_ boot_len) (EVs.cons F.name EVs.nil) (CallOk.lenT' (List.length_map _) (by lia))) EVs.nil)) CallOk.range2))
        (fun i G => G "il" = some (.d (.int (ilTo w.cnt ts i))) ∧ G "tabsize" = some (.d (.int ts)) ∧ G "count" = some (.d (.tup (w.cnt.map .int))) ∧ G "trailing" = some (.d (.int w.b)) ∧ G "self" = some (.d (.ws w)))
        ⟨rfl, rfl, rfl, rfl, rfl⟩ (fun i G hi hG => ?_) (fun G hG => ?_)) (fun G hG => ?_)
    · obtain ⟨g1, g2, g3, g4, g5⟩ := hG
      have hi' : ts + (i : Int) < w.cnt.length := by omega
      refine SS.one (S1.assign F.ok F.st (EV.bin BinOk.addI (F.name g1) (EV.bin (BinOk.mulI ?_) (EV.bin (BinOk.divI (by lia) (PyProof.noPylong_small (by grind))) F.name (F.name g2)) (EV.itemT (i := ts + (i : Int)) (F.name g3) F.name (by lia) (by simpa using hi') ?_ (by simp; lia))))) (SS.nil ⟨rfl, g2, g3, g4, g5⟩)
      · refine mulOk ?_
        have := fdiv_abs (a := ts + (i : Int)) (b := ts) (by omega) h1
        grind
      · rw [List.getElem?_map, List.getD_eq_getElem?_getD, List.getElem?_eq_getElem (by lia)]
        rfl
    · obtain ⟨g1, g2, g3, g4, g5⟩ := hG
      exact ⟨g1, g2, g4, g5⟩
    · obtain ⟨g1, g2, g3, g4⟩ := hG
      exact SS.cons (N1 := fun _ => False) (S1.ret (EV.bin BinOk.addI (F.name g3) (EV.bin (BinOk.mulI (mulOk (by grind))) (F.name g2) (EV.bin BinOk.addI (F.name g1) (EV.attr F.ok X.a_nt (.nt w) (F.name g4))))) rfl) (fun _ h => h.elim)
  · obtain ⟨a1, a2, rfl⟩ := len2 h; rfl

theorem equal_ok (X : KW P.K) (O : CxOk C k) (hr : k < 890) {w v : Wsp} : CallOk C (.ref 52) [.ws w, .ws v] (.bool (decide (w.cnt = v.cnt ∧ w.b = v.b))) := by
  refine CallOk.dfn O (by lia) X.d_equal (names := ["self", "other"]) (fun C' F _ => ?_) (fun vs doc pm an ct h => ?_) rfl rfl (by decide) (by decide)
  · exact SS.cons (N1 := fun _ => False) (S1.ret (EV.cmp (BinOk.eqP F.ok (by lia) (pl_norm _ _) (pl_norm _ _) (eqv_norm _ _ _ _)) (EV.attr F.ok X.a_norm (.norm w) F.name) (EV.attr F.ok X.a_norm (.norm v) F.name)) rfl) (fun _ h => h.elim)
  · obtain ⟨a1, a2, rfl⟩ := len2 h; rfl

/-- the witness sizes -/
noncomputable def wit (p : Int → Int → Bool) (f g : Int → Int) : Nat → List (List Int)
  | 0 => []
  | i + 1 => wit p f g i ++ (if p (f (1 + (i : Int))) (g (1 + (i : Int))) then [[1 + (i : Int), f (1 + (i : Int)), g (1 + (i : Int))]] else [])
theorem wit_len (p : Int → Int → Bool) (f g : Int → Int) : ∀ n, (wit p f g n).length ≤ n
  | 0 => Nat.le_refl _
  | n + 1 => by
    have := wit_len p f g n
    rw [wit, List.length_append]
    split <;> simp <;> (first | lia | omega)
theorem Wsp.Sm.lon {w : Wsp} (h : w.Sm) : 0 ≤ w.lon ∧ w.lon ≤ 1000 := by
  have := h.len
  have := h.b
  have := h.b0
  unfold Wsp.lon
  omega


variable {qual : Str} {S0 : Scope} {f : Addr} {cd : Value}
theorem lev_ok (X : KW P.K) (F : Fd C k qual S0 f cd) (hr : k < 890) {x : Str} {u : Wsp} {xp ap cp tp : Pos} {ts : Int} (hu : u.Sm) (hx : Γ x = some (.d (.ws u))) (ht : Γ "ts" = some (.d (.int ts))) (h1 : 1 ≤ ts) (h2 : ts ≤ 100000)
    (h : S0.names.lookup x = some .local := by rfl) (hc : ∀ n, (cellsFrom n S0.names []).lookup x = none := by intro _; rfl) (hd : (x == ("__debug__" : Str)) = false := by decide)
    (h' : S0.names.lookup ("ts" : Str) = some .local := by rfl) (hc' : ∀ n, (cellsFrom n S0.names []).lookup ("ts" : Str) = none := by intro _; rfl)
    {pl : Env → Sem Bool} (he : ∀ env, eval (.Call (.Attribute (.Name x xp) "indent_level" ap) [.Name "ts" tp] [] cp) env = (do
      let ov ← eval (.Name x xp) env
      standAt ap.atName
      let (f, first) ← holding [ov] (getMethod ov "indent_level" (pl env))
      callWith cp f first (backTo cp (starEach [.Name "ts" tp] env)) []) := by intro _; rfl) : EV C Γ (.Call (.Attribute (.Name x xp) "indent_level" ap) [.Name "ts" tp] [] cp) (.int (u.lvl ts)) :=
  EV.meth F.ok X.m_indent (by decide) (F.name hx h hc hd) (EVs.cons (F.name ht h' hc') EVs.nil) (indent_ok X F.ok hr hu h1 h2) (he := he)
theorem lon_ok (X : KW P.K) (F : Fd C k qual S0 f cd) (hr : k < 890) {x : Str} {u : Wsp} {xp ap cp : Pos} (hu : u.Sm) (hx : Γ x = some (.d (.ws u)))
    (h : S0.names.lookup x = some .local := by rfl) (hc : ∀ n, (cellsFrom n S0.names []).lookup x = none := by intro _; rfl) (hd : (x == ("__debug__" : Str)) = false := by decide)
    {pl : Env → Sem Bool} (he : ∀ env, eval (.Call (.Attribute (.Name x xp) "longest_run_of_spaces" ap) [] [] cp) env = (do
      let ov ← eval (.Name x xp) env
      standAt ap.atName
      let (f, first) ← holding [ov] (getMethod ov "longest_run_of_spaces" (pl env))
      callWith cp f first (backTo cp (starEach [] env)) []) := by intro _; rfl) : EV C Γ (.Call (.Attribute (.Name x xp) "longest_run_of_spaces" ap) [] [] cp) (.int u.lon) :=
  EV.meth0 F.ok X.m_longest (by decide) (F.name hx h hc hd) (longest_ok X F.ok hr hu.len) (he := he)

theorem neq_ok (X : KW P.K) (O : CxOk C k) (hr : k < 880) {w v : Wsp} (hw : w.Sm) (hv : v.Sm) : CallOk C (.ref 59) [.ws w, .ws v] (D.tups (wit (fun a b => a != b) w.lvl v.lvl (max w.lon v.lon + 1).toNat)) := by
  have lw := hw.lon
  have lv := hv.lon
  refine CallOk.dfn O (by lia) X.d_neq (names := ["self", "other"]) (fun C' F _ => ?_) (fun vs doc pm an ct h => ?_) rfl rfl (by decide) (by decide)
  · refine SS.one (S1.assign F.ok F.st (d := .int (max w.lon v.lon + 1)) (EV.bin BinOk.addI (EV.callB (F.boot X.max_ boot_max) (EVs.cons (lon_ok X F (by lia) hw rfl) (EVs.cons (lon_ok X F (by omega) hv rfl) EVs.nil)) (CallOk.max2 F.ok)) EV.cInt)) ?_
    refine SS.cons (N1 := fun G => ∃ a, G "a" = some (.ml a []) ∧ G "n" = some (.d (.int (max w.lon v.lon + 1))) ∧ G "self" = some (.d (.ws w)) ∧ G "other" = some (.d (.ws v))) (S1.assignL F.ok F.st F.nc EVs.nil (by simp) (fun l => ⟨l, rfl, rfl, rfl, rfl⟩)) (fun G hG => ?_)
    obtain ⟨a, g1, g2, g3, g4⟩ := hG
    refine SS.cons (N1 := fun G => G "a" = some (.ml a ((wit (fun a b => a != b) w.lvl v.lvl (max w.lon v.lon + 1).toNat).map fun r => D.tup (r.map .int))))
      (S1.forI F.ok F.st (IT.rng (a := 1) (b := max w.lon v.lon + 1 + 1) F.ok (small_one (by simp) (by simp) (by lia) (by lia)) (EV.callT (F.boot X.range_ boot_range) (EVs.cons EV.cInt (EVs.cons (EV.bin BinOk.addI (F.name g2) EV.cInt) EVs.nil)) CallOk.range2))
        (fun i G => G "a" = some (.ml a ((wit (fun a b => a != b) w.lvl v.lvl i).map fun r => D.tup (r.map .int))) ∧ G "self" = some (.d (.ws w)) ∧ G "other" = some (.d (.ws v)))
        ⟨g1, g3, g4⟩ (fun i G hi hG => ?_) (fun G hG => ?_)) (fun G hG => ?_)
    · obtain ⟨b1, b3, b4⟩ := hG
      have hi' : (i : Int) < max w.lon v.lon + 1 := by lia
      refine SS.cons (N1 := fun G => G "a" = some (.ml a ((wit (fun a b => a != b) w.lvl v.lvl (i + 1)).map fun r => D.tup (r.map .int))) ∧ G "self" = some (.d (.ws w)) ∧ G "other" = some (.d (.ws v)))
        (S1.ite (TV.cmp BinOk.neI (lev_ok X F (by lia) hw (ts := 1 + (i : Int)) b3 rfl (by lia) (by lia)) (lev_ok X F (by omega) hv (ts := 1 + (i : Int)) b4 rfl (by omega) (by omega))) (fun hb => ?_) (fun hb => SS.nil ⟨?_, b3, b4⟩)) (fun G hG => SS.nil hG)
      · refine SS.one (S1.append F.ok (a := a) b1 F.loc F.nc (EV.tuple (EVs.cons F.name (EVs.cons (lev_ok X F (by omega) hw (ts := 1 + (i : Int)) b3 rfl (by omega) (by omega)) (EVs.cons (lev_ok X F (by omega) hv (ts := 1 + (i : Int)) b4 rfl (by omega) (by omega)) EVs.nil))) (sizes3 _ _ _)) ?_ F.cm) (SS.nil ⟨?_, b3, b4⟩)
        · have := wit_len (fun a b => a != b) w.lvl v.lvl i
          rw [List.length_map]; lia
        · rw [wit, if_pos hb, List.map_append]; rfl
      · rw [wit, if_neg (by rw [hb]; exact Bool.false_ne_true), List.append_nil]; exact b1
    · have e : (max w.lon v.lon + 1 + 1 - 1).toNat = (max w.lon v.lon + 1).toNat := by simp
      rw [e] at hG
      exact hG.1
    · exact SG.freeze F.cm hG (SS.cons (N1 := fun _ => False) (S1.ret F.name rfl) (fun _ h => h.elim))
  · obtain ⟨a1, a2, rfl⟩ := len2 h; rfl
theorem nless_ok (X : KW P.K) (O : CxOk C k) (hr : k < 880) {w v : Wsp} (hw : w.Sm) (hv : v.Sm) : CallOk C (.ref 73) [.ws w, .ws v] (D.tups (wit (fun a b => decide (b ≤ a)) w.lvl v.lvl (max w.lon v.lon + 1).toNat)) := by
  have lw := hw.lon
  have lv := hv.lon
  refine CallOk.dfn O (by omega) X.d_nless (names := ["self", "other"]) (fun C' F _ => ?_) (fun vs doc pm an ct h => ?_) rfl rfl (by decide) (by decide)
  · refine SS.one (S1.assign F.ok F.st (d := .int (max w.lon v.lon + 1)) (EV.bin BinOk.addI (EV.callB (F.boot X.max_ boot_max) (EVs.cons (lon_ok X F (by omega) hw rfl) (EVs.cons (lon_ok X F (by omega) hv rfl) EVs.nil)) (CallOk.max2 F.ok)) EV.cInt)) ?_
    refine SS.cons (N1 := fun G => ∃ a, G "a" = some (.ml a []) ∧ G "n" = some (.d (.int (max w.lon v.lon + 1))) ∧ G "self" = some (.d (.ws w)) ∧ G "other" = some (.d (.ws v))) (S1.assignL F.ok F.st F.nc EVs.nil (by simp) (fun l => ⟨l, rfl, rfl, rfl, rfl⟩)) (fun G hG => ?_)
    obtain ⟨a, g1, g2, g3, g4⟩ := hG
    refine SS.cons (N1 := fun G => G "a" = some (.ml a ((wit (fun a b => decide (b ≤ a)) w.lvl v.lvl (max w.lon v.lon + 1).toNat).map fun r => D.tup (r.map .int))))
      (S1.forI F.ok F.st (IT.rng (a := 1) (b := max w.lon v.lon + 1 + 1) F.ok (small_one (by simp) (by simp) (by omega) (by omega)) (EV.callT (F.boot X.range_ boot_range) (EVs.cons EV.cInt (EVs.cons (EV.bin BinOk.addI (F.name g2) EV.cInt) EVs.nil)) CallOk.range2))
        (fun i G => G "a" = some (.ml a ((wit (fun a b => decide (b ≤ a)) w.lvl v.lvl i).map fun r => D.tup (r.map .int))) ∧ G "self" = some (.d (.ws w)) ∧ G "other" = some (.d (.ws v)))
        ⟨g1, g3, g4⟩ (fun i G hi hG => ?_) (fun G hG => ?_)) (fun G hG => ?_)
    · obtain ⟨b1, b3, b4⟩ := hG
      have hi' : (i : Int) < max w.lon v.lon + 1 := by omega
      refine SS.cons (N1 := fun G => G "a" = some (.ml a ((wit (fun a b => decide (b ≤ a)) w.lvl v.lvl (i + 1)).map fun r => D.tup (r.map .int))) ∧ G "self" = some (.d (.ws w)) ∧ G "other" = some (.d (.ws v)))
        (S1.ite (TV.cmp BinOk.geI (lev_ok X F (by omega) hw (ts := 1 + (i : Int)) b3 rfl (by omega) (by omega)) (lev_ok X F (by omega) hv (ts := 1 + (i : Int)) b4 rfl (by omega) (by omega))) (fun hb => ?_) (fun hb => SS.nil ⟨?_, b3, b4⟩)) (fun G hG => SS.nil hG)
      · refine SS.one (S1.append F.ok (a := a) b1 F.loc F.nc (EV.tuple (EVs.cons F.name (EVs.cons (lev_ok X F (by omega) hw (ts := 1 + (i : Int)) b3 rfl (by omega) (by omega)) (EVs.cons (lev_ok X F (by omega) hv (ts := 1 + (i : Int)) b4 rfl (by omega) (by omega)) EVs.nil))) (sizes3 _ _ _)) ?_ F.cm) (SS.nil ⟨?_, b3, b4⟩)
        · have := wit_len (fun a b => decide (b ≤ a)) w.lvl v.lvl i
          rw [List.length_map]; lia
        · rw [wit, if_pos hb, List.map_append]; rfl
      · rw [wit, if_neg (by rw [hb]; exact Bool.false_ne_true), List.append_nil]; exact b1
    · have e : (max w.lon v.lon + 1 + 1 - 1).toNat = (max w.lon v.lon + 1).toNat := by omega
      rw [e] at hG
      exact hG.1
    · exact SG.freeze F.cm hG (SS.cons (N1 := fun _ => False) (S1.ret F.name rfl) (fun _ h => h.elim))
  · obtain ⟨a1, a2, rfl⟩ := len2 h; rfl

noncomputable def lessB (w v : Wsp) : Bool := if v.n ≤ w.n then false else if (w.simple && v.simple) = true then decide (w.nt ≤ v.nt) else (List.range (max w.lon v.lon).toNat).all fun i => decide (w.lvl (2 + (i : Int)) < v.lvl (2 + (i : Int)))
theorem less_ok (X : KW P.K) (O : CxOk C k) (hr : k < 880) {w v : Wsp} (hw : w.Sm) (hv : v.Sm) : CallOk C (.ref 66) [.ws w, .ws v] (.bool (lessB w v)) := by
  have lw := hw.lon
  have lv := hv.lon
  refine CallOk.dfn O (by omega) X.d_less (names := ["self", "other"]) (fun C' F _ => ?_) (fun vs doc pm an ct h => ?_) rfl rfl (by decide) (by decide)
  · refine SS.cons (N1 := fun G => G = Γof ((["self", "other"] : List Str).zip [D.ws w, D.ws v]) ∧ ¬ v.n ≤ w.n)
      (S1.ite (TV.cmp BinOk.geI (EV.attr F.ok X.a_n (.n w) F.name) (EV.attr F.ok X.a_n (.n v) F.name)) (fun hb => ?_) (fun hb => SS.nil ⟨rfl, of_decide_eq_false hb⟩)) (fun G hG => ?_)
    · refine SS.cons (N1 := fun _ => False) (S1.ret EV.cBool ?_) (fun _ h => h.elim)
      unfold lessB
      rw [if_pos (of_decide_eq_true hb)]
    obtain ⟨rfl, hn⟩ := hG
    refine SS.cons (N1 := fun G => G = Γof ((["self", "other"] : List Str).zip [D.ws w, D.ws v]) ∧ (w.simple && v.simple) = false)
      (S1.ite (TV.and2 (TV.value (EV.attr F.ok X.a_simple (.simple w) F.name)) (fun _ => TV.value (EV.attr F.ok X.a_simple (.simple v) F.name))) (fun hb => ?_) (fun hb => SS.nil ⟨rfl, hb⟩)) (fun G hG => ?_)
    · refine SS.cons (N1 := fun _ => False) (S1.ret (EV.cmp BinOk.leI (EV.attr F.ok X.a_nt (.nt w) F.name) (EV.attr F.ok X.a_nt (.nt v) F.name)) ?_) (fun _ h => h.elim)
      unfold lessB
      rw [if_neg hn, if_pos hb]
    obtain ⟨rfl, hs⟩ := hG
    have el : lessB w v = (List.range (max w.lon v.lon).toNat).all fun i => decide (w.lvl (2 + (i : Int)) < v.lvl (2 + (i : Int))) := by
      unfold lessB
      rw [if_neg hn, if_neg (by rw [hs]; exact Bool.false_ne_true)]
    rw [el]
    refine SS.one (S1.assign F.ok F.st (d := .int (max w.lon v.lon + 1)) (EV.bin BinOk.addI (EV.callB (F.boot X.max_ boot_max) (EVs.cons (lon_ok X F (by omega) hw rfl) (EVs.cons (lon_ok X F (by omega) hv rfl) EVs.nil)) (CallOk.max2 F.ok)) EV.cInt)) ?_
    refine SS.cons (N1 := fun G => ((List.range (max w.lon v.lon).toNat).all fun i => decide (w.lvl (2 + (i : Int)) < v.lvl (2 + (i : Int)))) = true)
      (S1.forI F.ok F.st (IT.rng (a := 2) (b := max w.lon v.lon + 1 + 1) F.ok (small_one (by simp) (by simp) (by omega) (by omega)) (EV.callT (F.boot X.range_ boot_range) (EVs.cons EV.cInt (EVs.cons (EV.bin BinOk.addI F.name EV.cInt) EVs.nil)) CallOk.range2))
        (fun i G => (∀ j < i, w.lvl (2 + (j : Int)) < v.lvl (2 + (j : Int))) ∧ G "self" = some (.d (.ws w)) ∧ G "other" = some (.d (.ws v)))
        ⟨fun j hj => absurd hj (Nat.not_lt_zero j), rfl, rfl⟩ (fun i G hi hG => ?_) (fun G hG => ?_)) (fun G hG => ?_)
    · obtain ⟨b1, b3, b4⟩ := hG
      have hi' : (i : Int) < max w.lon v.lon := by lia
      refine SS.cons (N1 := fun G => (∀ j < i + 1, w.lvl (2 + (j : Int)) < v.lvl (2 + (j : Int))) ∧ G "self" = some (.d (.ws w)) ∧ G "other" = some (.d (.ws v)))
        (S1.ite (TV.cmp BinOk.geI (lev_ok X F (by omega) hw (ts := 2 + (i : Int)) b3 rfl (by lia) (by omega)) (lev_ok X F (by omega) hv (ts := 2 + (i : Int)) b4 rfl (by omega) (by omega))) (fun hb => ?_) (fun hb => SS.nil ⟨fun j hj => ?_, b3, b4⟩)) (fun G hG => SS.nil hG)
      · refine SS.cons (N1 := fun _ => False) (S1.ret EV.cBool ?_) (fun _ h => h.elim)
        have hb' := of_decide_eq_true hb
        have hf : ((List.range (max w.lon v.lon).toNat).all fun i => decide (w.lvl (2 + (i : Int)) < v.lvl (2 + (i : Int)))) = false := by
          rw [List.all_eq_false]
          exact ⟨i, List.mem_range.mpr (by simp [*]), by simp; omega⟩
        rw [hf]
      · have hb' := of_decide_eq_false hb
        by_cases hji : j < i
        · exact b1 j hji
        · have : j = i := by lia
          subst this
          (clear hb; lia)
    · rw [List.all_eq_true]
      intro j hj
      exact decide_eq_true (hG.1 j (by have := List.mem_range.mp hj; lia))
    · rw [hG]
      exact SS.cons (N1 := fun _ => False) (S1.ret EV.cBool rfl) (fun _ h => h.elim)
  · obtain ⟨a1, a2, rfl⟩ := len2 h; rfl
end
end Mine
end

section
open PySem PySem.W PyProof.Rows PySem.Calls
set_option maxRecDepth 100000
namespace Mine

structure KB (K : Frag) : Prop where
  len_ : nsIn K mainGlobals "len" = some Option.none
  g_bisR : nsIn K mainGlobals "bisect_right" = some (some (.ref 98))
  t_insort : ∃ o n t, K.lookup 81 = some o ∧ o.data = .seq #[.int 0 t, .none] n
  t_bisR : ∃ o n t, K.lookup 90 = some o ∧ o.data = .seq #[.int 0 t, .none] n
  t_bisL : ∃ o n t, K.lookup 99 = some o ∧ o.data = .seq #[.int 0 t, .none] n
  d_insort : IsDef K 89 "insort_right" "insort_right" (stm 3) (.ref 81) (.ref 82) (.ref 88)
  d_bisR : IsDef K 98 "bisect_right" "bisect_right" (stm 4) (.ref 90) (.ref 91) (.ref 97)
  d_bisL : IsDef K 107 "bisect_left" "bisect_left" (stm 5) (.ref 99) (.ref 100) (.ref 106)

/-- binary search -/
noncomputable def bis (p : Nat → Bool) : Nat → Nat → Nat → Nat
  | 0, lo, _ => lo
  | f + 1, lo, hi => if lo < hi then (if p ((lo + hi) / 2) then bis p f lo ((lo + hi) / 2) else bis p f ((lo + hi) / 2 + 1) hi) else lo
theorem bis_eq (p : Nat → Bool) (f lo : Nat) : bis p f lo lo = lo := by
  cases f with
  | zero => rfl
  | succ f => unfold bis; rw [if_neg (Nat.lt_irrefl _)]
theorem bis_le (p : Nat → Bool) : ∀ (f lo hi : Nat), lo ≤ hi → bis p f lo hi ≤ hi
  | 0, lo, hi, h => h
  | f + 1, lo, hi, h => by
    unfold bis
    split
    · split
      · exact Nat.le_trans (bis_le p f _ _ (by (rename_i q2 q1; clear q2; lia))) (by (rename_i q2 q1; clear q2; lia))
      · exact bis_le p f _ _ (by (clear h; lia))
    · exact h
theorem bis_spec {p : Nat → Bool} {r : Nat} : ∀ (f lo hi : Nat), hi - lo ≤ f → lo ≤ r → r ≤ hi → (∀ i, lo ≤ i → i < hi → p i = decide (r ≤ i)) → bis p f lo hi = r
  | 0, lo, hi, h1, h2, h3, _ => by unfold bis; lia
  | f + 1, lo, hi, h1, h2, h3, h4 => by
    unfold bis
    by_cases h : lo < hi
    · rw [if_pos h]
      have hp := h4 ((lo + hi) / 2) (by lia) (by lia)
      by_cases hr : r ≤ (lo + hi) / 2
      · rw [decide_eq_true hr] at hp
        rw [if_pos hp]
        exact bis_spec f lo _ (by grind) h2 hr (fun i a b => h4 i a (by lia))
      · rw [decide_eq_false hr] at hp
        rw [if_neg (by rw [hp]; exact Bool.false_ne_true)]
        exact bis_spec f _ hi (by grind) (by lia) h3 (fun i a b => h4 i (by lia) b)
    · rw [if_neg h]; lia

section
variable {P : Wd} {C : Cx P} {Γ Γ' : GEnv} {k : Nat}
/-- the key of an item -/
noncomputable def KeyOk (P : Wd) (F : FnD) (d : D) (u : UInt64) : Prop := ∀ (C : Cx P) (k : Nat) (Γ : GEnv), CxOk C k → k < 895 → CallFn C Γ F [d] (.flt u)

noncomputable def kvR (u : UInt64) (kv : Nat → UInt64) (i : Nat) : Bool := Float64.cmp u (kv i) == some .lt
noncomputable def kvL (u : UInt64) (kv : Nat → UInt64) (i : Nat) : Bool := !(Float64.cmp (kv i) u == some .lt)

theorem fits_idx {r : Nat} (h : r ≤ 1000000) : Builtin.List.listFitsIndex (r : Int) = true := by
  unfold Builtin.List.listFitsIndex
  rw [Bool.and_eq_true]
  exact ⟨decide_eq_true (by simp), decide_eq_true (by lia)⟩
theorem mid_fdiv (lo hi : Nat) : ((lo : Int) + (hi : Int)).fdiv 2 = (((lo + hi) / 2 : Nat) : Int) := by
  rw [Int.fdiv_eq_ediv_of_nonneg _ (by simp)]; rfl


theorem isNone_none : ∀ fz v, Rep fz v .none → (v == Value.none) = true := fun fz v h => by obtain rfl := h.none_inv; rfl
theorem isNone_fn {L : FnD} : ∀ fz v, Rep fz v (.fn L) → (v == Value.none) = false := fun fz v h => by cases h; rfl
theorem bisR_body (X : KB P.K) {qual : Str} {f : Addr} {cd : Value} (F : Fd C k qual (scD (stm 4)) f cd) (hr : k < 890) {its : List D} {u : UInt64} {lo : Nat} {L : FnD} {kv : Nat → UInt64} (hlen : its.length ≤ 100000) (hlo : lo ≤ its.length)
    (hkey : ∀ i d, its[i]? = some d → KeyOk P L d (kv i)) {r : Nat} (hres : bis (kvR u kv) (its.length - lo) lo its.length = r) :
    SS C (Γof ((["a", "x", "lo", "hi", "key"] : List Str).zip [.lst its, .flt u, .int lo, .none, .fn L])) (bodyD (stm 4)) (fun _ => D.int r = .none) (fun d => d = .int r) (fun _ => False) := by
  refine SS.cons (N1 := fun G => G = Γof ((["a", "x", "lo", "hi", "key"] : List Str).zip [D.lst its, .flt u, .int lo, .none, .fn L])) (S1.ite (TV.cmp BinOk.ltI F.name EV.cInt) (fun hb => absurd (of_decide_eq_true hb) (by contradiction)) (fun _ => SS.nil rfl)) (fun G hG => ?_)
  subst hG
  refine SS.cons (N1 := fun G => G "a" = some (.d (.lst its)) ∧ G "x" = some (.d (.flt u)) ∧ G "lo" = some (.d (.int lo)) ∧ G "hi" = some (.d (.int its.length)) ∧ G "key" = some (.d (.fn L)))
    (S1.ite (TV.cmp (BinOk.isNone (b := true) isNone_none) F.name EV.cNone) (fun _ => SS.one (S1.assign F.ok F.st (EV.callB (F.boot X.len_ boot_len) (EVs.cons F.name EVs.nil) (CallOk.lenL' rfl (by lia)))) (SS.nil ⟨rfl, rfl, rfl, rfl, rfl⟩)) (fun hb => by cases hb)) (fun G hG => ?_)
  obtain ⟨g1, g2, g3, g4, g5⟩ := hG
  refine SS.cons (N1 := fun G => G "lo" = some (.d (.int r)))
    (S1.ite (TV.cmp (BinOk.isNone (b := false) isNone_fn) (F.name g5) EV.cNone) (fun hb => by cases hb) (fun _ => SS.cons (N1 := fun G => G "lo" = some (.d (.int r))) ?_ (fun G hG => SS.nil hG))) (fun G hG => ?_)
  · refine S1.whil F.ok (fun n G => ∃ lo' hi' f : Nat, lo' ≤ hi' ∧ hi' ≤ its.length ∧ hi' - lo' = n ∧ n ≤ f ∧ bis (kvR u kv) f lo' hi' = r ∧ G "a" = some (.d (.lst its)) ∧ G "x" = some (.d (.flt u)) ∧ G "lo" = some (.d (.int lo')) ∧ G "hi" = some (.d (.int hi')) ∧ G "key" = some (.d (.fn L)))
      (n := its.length - lo) ⟨lo, its.length, its.length - lo, hlo, Nat.le_refl _, rfl, Nat.le_refl _, hres, g1, g2, g3, g4, g5⟩ ?_
    rintro n G ⟨lo', hi', f, a1, a2, rfl, a4, a5, b1, b2, b3, b4, b5⟩
    refine ⟨decide ((lo' : Int) < hi'), TV.cmp BinOk.ltI (F.name b3) (F.name b4), fun hb => ?_, fun hb => ?_⟩
    · have hlt : lo' < hi' := by have := of_decide_eq_true hb; (clear hb a1; lia)
      obtain ⟨f, rfl⟩ : ∃ f', f = f' + 1 := ⟨f - 1, by (clear hb; lia)⟩
      unfold bis at a5
      rw [if_pos hlt] at a5
      obtain ⟨mid, hmq⟩ : ∃ m, m = (lo' + hi') / 2 := ⟨_, rfl⟩
      rw [← hmq] at a5
      have hm1 : lo' ≤ mid ∧ mid < hi' := by rw [hmq]; clear a5 hmq a4 hr hlen hlo hres a2; (clear a1; lia)
      have hm : mid < its.length := Nat.lt_of_lt_of_le hm1.2 a2
      have hd : its[mid]? = some its[mid] := List.getElem?_eq_getElem hm
      refine SS.one (S1.assign F.ok F.st (d := .int (mid : Nat)) (by rw [hmq, ← mid_fdiv]; exact EV.bin (BinOk.divI (by decide) (PyProof.noPylong_small (by decide))) (EV.bin BinOk.addI (F.name b3) (F.name b4)) EV.cInt)) ?_
      clear hmq
      refine SS.cons (N1 := fun G => ∃ j, j < hi' - lo' ∧ ∃ lo' hi' f : Nat, lo' ≤ hi' ∧ hi' ≤ its.length ∧ hi' - lo' = j ∧ j ≤ f ∧ bis (kvR u kv) f lo' hi' = r ∧ G "a" = some (.d (.lst its)) ∧ G "x" = some (.d (.flt u)) ∧ G "lo" = some (.d (.int lo')) ∧ G "hi" = some (.d (.int hi')) ∧ G "key" = some (.d (.fn L)))
        (S1.ite (TV.cmp BinOk.ltF (F.name b2) (EV.callFn (F.name b5) (EVs.cons (EV.item (i := ((mid : Nat) : Int)) (F.name b1) F.name (by simp) (by (clear a2; lia)) hd) EVs.nil) (hkey _ _ hd C k _ F.ok (by lia)))) (fun hb => SS.one (S1.assign F.ok F.st F.name) (SS.nil ⟨mid - lo', by (rename_i q1; clear hres q1 hlt; (subst_vars; lia)), lo', mid, f, by simp [*], by (clear a2; lia), rfl, by grind, ?_, b1, b2, b3, rfl, b5⟩)) (fun hb => SS.one (S1.assign F.ok F.st (d := .int (mid + 1 : Nat)) (by rw [Int.natCast_add]; exact EV.bin BinOk.addI F.name EV.cInt)) (SS.nil ⟨hi' - (mid + 1), by (rename_i q1; clear q1 hlt; lia), mid + 1, hi', f, by lia, by omega, rfl, by grind, ?_, b1, b2, rfl, b4, b5⟩))) (fun G hG => SS.nil hG)
      · rw [if_pos (show kvR u kv (mid) = true from hb)] at a5; exact a5
      · rw [if_neg (by unfold kvR; rw [hb]; exact Bool.false_ne_true)] at a5; exact a5
    · have hlt : ¬ (lo' : Int) < hi' := of_decide_eq_false hb
      have : lo' = hi' := by (clear hb; lia)
      subst this
      rw [bis_eq] at a5
      rw [← a5]; exact b3
  · exact SS.cons (N1 := fun _ => False) (S1.ret (F.name hG) rfl) (fun _ h => h.elim)

theorem bisL_body (X : KB P.K) {qual : Str} {f : Addr} {cd : Value} (F : Fd C k qual (scD (stm 5)) f cd) (hr : k < 890) {its : List D} {u : UInt64} {lo : Nat} {L : FnD} {kv : Nat → UInt64} (hlen : its.length ≤ 100000) (hlo : lo ≤ its.length)
    (hkey : ∀ i d, its[i]? = some d → KeyOk P L d (kv i)) {r : Nat} (hres : bis (kvL u kv) (its.length - lo) lo its.length = r) :
    SS C (Γof ((["a", "x", "lo", "hi", "key"] : List Str).zip [.lst its, .flt u, .int lo, .none, .fn L])) (bodyD (stm 5)) (fun _ => D.int r = .none) (fun d => d = .int r) (fun _ => False) := by
  refine SS.cons (N1 := fun G => G = Γof ((["a", "x", "lo", "hi", "key"] : List Str).zip [D.lst its, .flt u, .int lo, .none, .fn L])) (S1.ite (TV.cmp BinOk.ltI F.name EV.cInt) (fun hb => absurd (of_decide_eq_true hb) (by omega)) (fun _ => SS.nil rfl)) (fun G hG => ?_)
  subst hG
  refine SS.cons (N1 := fun G => G "a" = some (.d (.lst its)) ∧ G "x" = some (.d (.flt u)) ∧ G "lo" = some (.d (.int lo)) ∧ G "hi" = some (.d (.int its.length)) ∧ G "key" = some (.d (.fn L)))
    (S1.ite (TV.cmp (BinOk.isNone (b := true) isNone_none) F.name EV.cNone) (fun _ => SS.one (S1.assign F.ok F.st (EV.callB (F.boot X.len_ boot_len) (EVs.cons F.name EVs.nil) (CallOk.lenL' rfl (by omega)))) (SS.nil ⟨rfl, rfl, rfl, rfl, rfl⟩)) (fun hb => by cases hb)) (fun G hG => ?_)
  obtain ⟨g1, g2, g3, g4, g5⟩ := hG
  refine SS.cons (N1 := fun G => G "lo" = some (.d (.int r)))
    (S1.ite (TV.cmp (BinOk.isNone (b := false) isNone_fn) (F.name g5) EV.cNone) (fun hb => by cases hb) (fun _ => SS.cons (N1 := fun G => G "lo" = some (.d (.int r))) ?_ (fun G hG => SS.nil hG))) (fun G hG => ?_)
  · refine S1.whil F.ok (fun n G => ∃ lo' hi' f : Nat, lo' ≤ hi' ∧ hi' ≤ its.length ∧ hi' - lo' = n ∧ n ≤ f ∧ bis (kvL u kv) f lo' hi' = r ∧ G "a" = some (.d (.lst its)) ∧ G "x" = some (.d (.flt u)) ∧ G "lo" = some (.d (.int lo')) ∧ G "hi" = some (.d (.int hi')) ∧ G "key" = some (.d (.fn L)))
      (n := its.length - lo) ⟨lo, its.length, its.length - lo, hlo, Nat.le_refl _, rfl, Nat.le_refl _, hres, g1, g2, g3, g4, g5⟩ ?_
    rintro n G ⟨lo', hi', f, a1, a2, rfl, a4, a5, b1, b2, b3, b4, b5⟩
    refine ⟨decide ((lo' : Int) < hi'), TV.cmp BinOk.ltI (F.name b3) (F.name b4), fun hb => ?_, fun hb => ?_⟩
    · have hlt : lo' < hi' := by have := of_decide_eq_true hb; omega
      obtain ⟨f, rfl⟩ : ∃ f', f = f' + 1 := ⟨f - 1, by omega⟩
      unfold bis at a5
      rw [if_pos hlt] at a5
      obtain ⟨mid, hmq⟩ : ∃ m, m = (lo' + hi') / 2 := ⟨_, rfl⟩
      rw [← hmq] at a5
      have hm1 : lo' ≤ mid ∧ mid < hi' := by rw [hmq]; clear a5 hmq a4 hr hlen hlo hres a2; omega
      have hm : mid < its.length := Nat.lt_of_lt_of_le hm1.2 a2
      have hd : its[mid]? = some its[mid] := List.getElem?_eq_getElem hm
      refine SS.one (S1.assign F.ok F.st (d := .int (mid : Nat)) (by rw [hmq, ← mid_fdiv]; exact EV.bin (BinOk.divI (by decide) (PyProof.noPylong_small (by decide))) (EV.bin BinOk.addI (F.name b3) (F.name b4)) EV.cInt)) ?_
      clear hmq
      refine SS.cons (N1 := fun G => ∃ j, j < hi' - lo' ∧ ∃ lo' hi' f : Nat, lo' ≤ hi' ∧ hi' ≤ its.length ∧ hi' - lo' = j ∧ j ≤ f ∧ bis (kvL u kv) f lo' hi' = r ∧ G "a" = some (.d (.lst its)) ∧ G "x" = some (.d (.flt u)) ∧ G "lo" = some (.d (.int lo')) ∧ G "hi" = some (.d (.int hi')) ∧ G "key" = some (.d (.fn L)))
        (S1.ite (TV.cmp BinOk.ltF (EV.callFn (F.name b5) (EVs.cons (EV.item (i := ((mid : Nat) : Int)) (F.name b1) F.name (by simp) (by omega) hd) EVs.nil) (hkey _ _ hd C k _ F.ok (by omega))) (F.name b2)) (fun hb => SS.one (S1.assign F.ok F.st (d := .int (mid + 1 : Nat)) (by rw [Int.natCast_add]; exact EV.bin BinOk.addI F.name EV.cInt)) (SS.nil ⟨hi' - (mid + 1), by omega, mid + 1, hi', f, by omega, by omega, rfl, by omega, ?_, b1, b2, rfl, b4, b5⟩)) (fun hb => SS.one (S1.assign F.ok F.st F.name) (SS.nil ⟨mid - lo', by omega, lo', mid, f, by simp [*], by omega, rfl, by omega, ?_, b1, b2, b3, rfl, b5⟩))) (fun G hG => SS.nil hG)
      · rw [if_neg (by unfold kvL; rw [hb]; exact Bool.false_ne_true)] at a5; exact a5
      · rw [if_pos (by unfold kvL; rw [hb]; rfl)] at a5; exact a5
    · have hlt : ¬ (lo' : Int) < hi' := of_decide_eq_false hb
      have : lo' = hi' := by omega
      subst this
      rw [bis_eq] at a5
      rw [← a5]; exact b3
  · exact SS.cons (N1 := fun _ => False) (S1.ret (F.name hG) rfl) (fun _ h => h.elim)

theorem bisR3_ok (X : KB P.K) (O : CxOk C k) (hr : k < 870) {its : List D} {u : UInt64} {lo : Nat} {L : FnD} {kv : Nat → UInt64} (hlen : its.length ≤ 100000) (hlo : lo ≤ its.length)
    (hkey : ∀ i d, its[i]? = some d → KeyOk P L d (kv i)) {r : Nat} (hres : bis (kvR u kv) (its.length - lo) lo its.length = r) : CallKw C (.ref 98) [.lst its, .flt u, .int lo] ["key"] [.fn L] (.int r) := by
  obtain ⟨oT, nT, tT, hT, hTd⟩ := X.t_bisR
  refine CallKw.dfn (names := ["a", "x", "lo", "hi", "key"]) (dbs := [.lst its, .flt u, .int lo, .none, .fn L]) O (by lia) X.d_bisR (fun C' F _ => bisR_body X F (by lia) hlen hlo hkey hres) (fun s vs kvs doc pm an ct hK h1 h2 => ?_) rfl rfl (by decide) (by decide)
  obtain ⟨v1, v2, v3, rfl⟩ := len3 h1
  obtain ⟨w, rfl⟩ := len1 h2
  refine ⟨[v1, v2, v3, .none, w], binds_K hK rfl hT hTd rfl rfl, fun fz h1 h2 => ?_⟩
  obtain ⟨a1, a2, a3, e, b1, b2, b3⟩ := h1.c3
  cases e
  obtain ⟨c1, e, b4⟩ := h2.c1
  cases e
  exact .cons b1 (.cons b2 (.cons b3 (.cons .none (.cons b4 .nil))))

theorem bisL3_ok (X : KB P.K) (O : CxOk C k) (hr : k < 870) {its : List D} {u : UInt64} {lo : Nat} {L : FnD} {kv : Nat → UInt64} (hlen : its.length ≤ 100000) (hlo : lo ≤ its.length)
    (hkey : ∀ i d, its[i]? = some d → KeyOk P L d (kv i)) {r : Nat} (hres : bis (kvL u kv) (its.length - lo) lo its.length = r) : CallKw C (.ref 107) [.lst its, .flt u, .int lo] ["key"] [.fn L] (.int r) := by
  obtain ⟨oT, nT, tT, hT, hTd⟩ := X.t_bisL
  refine CallKw.dfn (names := ["a", "x", "lo", "hi", "key"]) (dbs := [.lst its, .flt u, .int lo, .none, .fn L]) O (by omega) X.d_bisL (fun C' F _ => bisL_body X F (by omega) hlen hlo hkey hres) (fun s vs kvs doc pm an ct hK h1 h2 => ?_) rfl rfl (by decide) (by decide)
  obtain ⟨v1, v2, v3, rfl⟩ := len3 h1
  obtain ⟨w, rfl⟩ := len1 h2
  refine ⟨[v1, v2, v3, .none, w], binds_K hK rfl hT hTd rfl rfl, fun fz h1 h2 => ?_⟩
  obtain ⟨a1, a2, a3, e, b1, b2, b3⟩ := h1.c3
  cases e
  obtain ⟨c1, e, b4⟩ := h2.c1
  cases e
  exact .cons b1 (.cons b2 (.cons b3 (.cons .none (.cons b4 .nil))))

theorem bisR4_ok (X : KB P.K) (O : CxOk C k) (hr : k < 870) {its : List D} {u : UInt64} {lo : Nat} {L : FnD} {kv : Nat → UInt64} (hlen : its.length ≤ 100000) (hlo : lo ≤ its.length)
    (hkey : ∀ i d, its[i]? = some d → KeyOk P L d (kv i)) {r : Nat} (hres : bis (kvR u kv) (its.length - lo) lo its.length = r) : CallKw C (.ref 98) [.lst its, .flt u, .int lo, .none] ["key"] [.fn L] (.int r) := by
  obtain ⟨oT, nT, tT, hT, hTd⟩ := X.t_bisR
  refine CallKw.dfn (names := ["a", "x", "lo", "hi", "key"]) (dbs := [.lst its, .flt u, .int lo, .none, .fn L]) O (by omega) X.d_bisR (fun C' F _ => bisR_body X F (by omega) hlen hlo hkey hres) (fun s vs kvs doc pm an ct hK h1 h2 => ?_) rfl rfl (by decide) (by decide)
  obtain ⟨v1, v2, v3, v4, rfl⟩ := len4 h1
  obtain ⟨w, rfl⟩ := len1 h2
  refine ⟨[v1, v2, v3, v4, w], binds_K hK rfl hT hTd rfl rfl, fun fz h1 h2 => ?_⟩
  obtain ⟨a1, q1, e1, b1, h1⟩ := h1.cc
  obtain ⟨rfl, rfl⟩ := List.cons.inj e1
  obtain ⟨a2, a3, a5, e, b2, b3, b5⟩ := h1.c3
  cases e
  obtain ⟨c1, e, b4⟩ := h2.c1
  cases e
  exact .cons b1 (.cons b2 (.cons b3 (.cons b5 (.cons b4 .nil))))

theorem bisL2_ok (X : KB P.K) (O : CxOk C k) (hr : k < 870) {its : List D} {u : UInt64} {L : FnD} {kv : Nat → UInt64} (hlen : its.length ≤ 100000) 
    (hkey : ∀ i d, its[i]? = some d → KeyOk P L d (kv i)) {r : Nat} (hres : bis (kvL u kv) (its.length - 0) 0 its.length = r) : CallKw C (.ref 107) [.lst its, .flt u] ["key"] [.fn L] (.int r) := by
  obtain ⟨oT, nT, tT, hT, hTd⟩ := X.t_bisL
  refine CallKw.dfn (names := ["a", "x", "lo", "hi", "key"]) (dbs := [.lst its, .flt u, .int ((0 : Nat) : Int), .none, .fn L]) O (by lia) X.d_bisL (fun C' F _ => bisL_body X F (by lia) hlen (Nat.zero_le _) hkey hres) (fun s vs kvs doc pm an ct hK h1 h2 => ?_) rfl rfl (by decide) (by decide)
  obtain ⟨v1, v2, rfl⟩ := len2 h1
  obtain ⟨w, rfl⟩ := len1 h2
  refine ⟨[v1, v2, .int 0 tT, .none, w], binds_K hK rfl hT hTd rfl rfl, fun fz h1 h2 => ?_⟩
  obtain ⟨a1, a2, e, b1, b2⟩ := h1.c2
  cases e
  obtain ⟨c1, e, b4⟩ := h2.c1
  cases e
  exact .cons b1 (.cons b2 (.cons (.int 0 tT) (.cons .none (.cons b4 .nil))))

variable {kl : Led} {m : Str → Option Value} {fz mu : Led} {s : Shared}
theorem insort_ok (X : KB P.K) (O : CxOk C k) (hr : k < 860) (hcm : C.cm = none) {ds : List D} {d : D} {u : UInt64} {L : FnD} {kv : Nat → UInt64} (hlen : ds.length ≤ 100000)
    (hkey : ∀ i d, ds[i]? = some d → KeyOk P L d (kv i)) (hku : KeyOk P L d u) {r : Nat} (hres : bis (kvR u kv) (ds.length - 0) 0 ds.length = r)
    (hS : St C kl m fz mu s) {a : Addr} {vs : List Value} {n : Nat} (hm : (a, lstObj vs n) ∈ mu) (hk : ∀ p ∈ kl, p.1 ≠ a) (hvs : Reps fz vs ds) {v w : Value} (hv : Rep fz v d) (hw : Rep fz w (.fn L)) {Q : Value → Shared → Prop}
    (hQ : ∀ fz' s' vs' n', fz ⊆ fz' → St C kl m fz' (mset mu a (lstObj vs' n')) s' → Reps fz' vs' (insD ds r d) → Q .none s') : wpAny (model P.prog P.w) C.A (call (.ref 89) [.ref a, v] ((["key"] : List Str).zip [w])) Q noE s := by
  obtain ⟨oT, nT, tT, hT, hTd⟩ := X.t_insort
  obtain ⟨oc, od, doc, pm, an, ct, osl, ho⟩ := X.d_insort.o
  obtain ⟨mf, F0⟩ := hS.fr
  have lk : ∀ x, Γg ((["a", "x", "lo", "hi", "key"] : List Str).zip [.ml a ds, .d d, .d (.int ((0 : Nat) : Int)), .d .none, .d (.fn L)]) x = if x = "key" then some (.d (.fn L)) else if x = "hi" then some (.d .none) else if x = "lo" then some (.d (.int ((0 : Nat) : Int))) else if x = "x" then some (.d d) else if x = "a" then some (.ml a ds) else none := by
    intro x
    unfold Γg
    show List.lookup x [("key", G.d (.fn L)), ("hi", .d .none), ("lo", .d (.int ((0 : Nat) : Int))), ("x", .d d), ("a", .ml a ds)] = _
    simp only [List.lookup_cons, List.lookup_nil]
    repeat' split
    all_goals simp_all
  have hml : ∀ x b es, Γg ((["a", "x", "lo", "hi", "key"] : List Str).zip [.ml a ds, .d d, .d (.int ((0 : Nat) : Int)), .d .none, .d (.fn L)]) x = some (.ml b es) → x = "a" := by
    intro x b es e
    rw [lk] at e
    by_cases h1 : x = "key"
    · rw [if_pos h1] at e; cases e
    rw [if_neg h1] at e
    by_cases h1 : x = "hi"
    · rw [if_pos h1] at e; cases e
    rw [if_neg h1] at e
    by_cases h1 : x = "lo"
    · rw [if_pos h1] at e; cases e
    rw [if_neg h1] at e
    by_cases h1 : x = "x"
    · rw [if_pos h1] at e; cases e
    rw [if_neg h1] at e
    by_cases h1 : x = "a"
    · exact h1
    · rw [if_neg h1] at e; cases e
  refine call_core (names := ["a", "x", "lo", "hi", "key"]) (bs := [.ref a, v, .int 0 tT, .none, w]) (gs := [.ml a ds, .d d, .d (.int ((0 : Nat) : Int)), .d .none, .d (.fn L)]) (klc := mdel mu a) O (by lia) ho X.d_insort.c
    (binds_K (O.X.keeps F0.keep) rfl hT hTd rfl rfl) rfl hS (fun p hp => (mem_mdel.mp hp).1) (fun mf h => by unfold Fm at h ⊢; rw [hcm] at h ⊢; exact h) ?_ (fun x y b es es' e1 e2 => (hml x b es e1).trans (hml y b es' e2).symm) rfl (by decide) (by decide)
    (N := fun G => G "a" = some (.ml a (insD ds r d))) (R := fun _ => False) (fun C' F _ => ?_) ?_ (fun fz' mu' s' v d k' h => h.elim) rfl rfl rfl
  · exact .cons ⟨rfl, fun p hp => (mem_mdel.mp hp).2, vs, n, hm, hvs⟩ (.cons hv (.cons (Rep.int 0 tT) (.cons Rep.none (.cons hw .nil))))
  · refine SS.cons (N1 := fun G => G "a" = some (.ml a ds) ∧ G "lo" = some (.d (.int r)) ∧ G "x" = some (.d d))
      (S1.ite (TV.cmp (BinOk.isNone (b := false) isNone_fn) (F.name (d := .fn L)) EV.cNone) (fun hb => by cases hb) (fun _ => SS.one (S1.assign F.ok F.st (d := .int r) (EV.peek F.cm (x := "a") (a := a) (ds := ds) rfl rfl ?_)) (SS.nil ⟨rfl, rfl, rfl⟩))) (fun G hG => ?_)
    · exact EV.callKw F.ok X.d_bisR.k (F.glob X.g_bisR) (EVs.cons (F.name (d := .lst ds)) (EVs.cons (EV.callFn (F.name (d := .fn L)) (EVs.cons (F.name (d := d)) EVs.nil) (hku _ _ _ F.ok (by lia))) (EVs.cons (F.name (d := .int ((0 : Nat) : Int))) (EVs.cons (F.name (d := .none)) EVs.nil)))) (F.name (d := .fn L)) (bisR4_ok X F.ok (by lia) hlen (Nat.zero_le _) hkey hres)
    · obtain ⟨g1, g2, g3⟩ := hG
      exact SS.one (S1.insert F.ok g1 F.loc F.nc F.cm (F.name g2) (F.name g3) (fits_idx (by have := bis_le (kvR u kv) (ds.length - 0) 0 ds.length (Nat.zero_le _); lia)) (by lia)) (SS.nil rfl)
  · intro C' m' fz' mu' s' Γ' k' hN E' S'
    obtain ⟨v0, h0, _, _, vs', n', hm', hr'⟩ := E'.at_ _ _ hN
    refine hQ fz' s' vs' n' k' (S'.sub (fun p hp => ?_) (by rw [mset_fst]; exact hS.nodup) (fun p hp => mem_mset_ne (hS.kept hp) (hk p hp)) hcm) hr'
    rcases of_mem_mset hp with ⟨rfl, _⟩ | ⟨h1, h2⟩
    · exact hm'
    · exact S'.kept (mem_mdel.mpr ⟨h1, h2⟩)
end
end Mine
end

section
open PySem PySem.W PyProof.Rows PySem.Calls
set_option maxRecDepth 100000
namespace Mine
structure KC (K : Frag) : Prop where
  max_ : nsIn K mainGlobals "max" = some Option.none
  min_ : nsIn K mainGlobals "min" = some Option.none
  int_ : nsIn K mainGlobals "int" = some Option.none
  d_rgb : IsDef K 114 "rgb_to_hsv" "rgb_to_hsv" (stm 7) .none .none (.ref 113)
  d_hsv : IsDef K 121 "hsv_to_rgb" "hsv_to_rgb" (stm 8) .none .none (.ref 120)
theorem boot_int : bootBuiltins "int" = some (.type "int") := by boot_fast

noncomputable abbrev F0 : UInt64 := 0
noncomputable abbrev F1 : UInt64 := 4607182418800017408
noncomputable abbrev F2 : UInt64 := 4611686018427387904
noncomputable abbrev F4 : UInt64 := 4616189618054758400
noncomputable abbrev F6 : UInt64 := 4618441417868443648
noncomputable abbrev Fhalf : UInt64 := 4602678819172646912

noncomputable def h0C (mx rg r g b : UInt64) : UInt64 :=
  let rc := Float64.div (Float64.sub mx r) rg
  let gc := Float64.div (Float64.sub mx g) rg
  let bc := Float64.div (Float64.sub mx b) rg
  if (Float64.cmp r mx == some .eq) = true then Float64.sub bc gc else if (Float64.cmp g mx == some .eq) = true then Float64.sub (Float64.add F2 rc) bc else Float64.sub (Float64.add F4 gc) rc
noncomputable def hueC (mx rg r g b : UInt64) : UInt64 := (Float64.divmod (Float64.div (h0C mx rg r g b) F6) F1).snd
noncomputable def hsvC (r g b : UInt64) : List UInt64 :=
  if (Float64.cmp (fmin3 r g b) (fmax3 r g b) == some .eq) = true then [F0, F0, fmax3 r g b]
  else [hueC (fmax3 r g b) (Float64.sub (fmax3 r g b) (fmin3 r g b)) r g b, Float64.div (Float64.sub (fmax3 r g b) (fmin3 r g b)) (fmax3 r g b), fmax3 r g b]

section
variable {P : Wd} {C : Cx P} {Γ Γ' : GEnv} {k : Nat}
theorem rgb_ok (X : KC P.K) (O : CxOk C k) (hr : k < 890) {r g b : UInt64} (hm : ¬ (Float64.cmp (fmin3 r g b) (fmax3 r g b) == some .eq) = true → ¬ Float64.isZero (fmax3 r g b) = true ∧ ¬ Float64.isZero (Float64.sub (fmax3 r g b) (fmin3 r g b)) = true) :
    CallOk C (.ref 114) [.flt r, .flt g, .flt b] (.tup ((hsvC r g b).map .flt)) := by
  refine CallOk.dfn O (by lia) X.d_rgb (names := ["r", "g", "b"]) (fun C' F _ => ?_) (fun vs doc pm an ct h => ?_) rfl rfl (by decide) (by decide)
  · refine SS.one (S1.assign F.ok F.st (EV.callB (F.boot X.max_ boot_max) (EVs.cons F.name (EVs.cons F.name (EVs.cons F.name EVs.nil))) (CallOk.max3 F.ok))) ?_
    refine SS.one (S1.assign F.ok F.st (EV.callB (F.boot X.min_ boot_min) (EVs.cons F.name (EVs.cons F.name (EVs.cons F.name EVs.nil))) (CallOk.min3 F.ok))) ?_
    refine SS.one (S1.assign F.ok F.st (EV.bin BinOk.subF F.name F.name)) ?_
    refine SS.one (S1.assign F.ok F.st F.name) ?_
    cases hc : (Float64.cmp (fmin3 r g b) (fmax3 r g b) == some .eq) with
    | true =>
      refine SS.cons (N1 := fun _ => False) (S1.ite (b := true) (by rw [← hc]; exact TV.cmp BinOk.eqF F.name F.name) (fun _ => SS.cons (N1 := fun _ => False) (S1.ret (EV.tuple (EVs.cons EV.cFlt (EVs.cons EV.cFlt (EVs.cons F.name EVs.nil))) (sizes3 _ _ _)) ?_) (fun _ h => h.elim)) (fun h => by cases h)) (fun _ h => h.elim)
      unfold hsvC
      rw [if_pos hc]; rfl
    | false =>
      obtain ⟨z1, z2⟩ := hm (by rw [hc]; exact Bool.false_ne_true)
      refine SS.cons (N1 := fun G => G = _) (S1.ite (b := false) (by rw [← hc]; exact TV.cmp BinOk.eqF F.name F.name) (fun h => by cases h) (fun _ => SS.nil rfl)) (fun G hG => ?_)
      subst hG
      refine SS.one (S1.assign F.ok F.st (EV.bin (BinOk.divF z1) F.name F.name)) ?_
      refine SS.one (S1.assign F.ok F.st (EV.bin (BinOk.divF z2) (EV.bin BinOk.subF F.name F.name) F.name)) ?_
      refine SS.one (S1.assign F.ok F.st (EV.bin (BinOk.divF z2) (EV.bin BinOk.subF F.name F.name) F.name)) ?_
      refine SS.one (S1.assign F.ok F.st (EV.bin (BinOk.divF z2) (EV.bin BinOk.subF F.name F.name) F.name)) ?_
      refine SS.cons (N1 := fun G => G "h" = some (.d (.flt (h0C (fmax3 r g b) (Float64.sub (fmax3 r g b) (fmin3 r g b)) r g b))) ∧ G "s" = some (.d (.flt (Float64.div (Float64.sub (fmax3 r g b) (fmin3 r g b)) (fmax3 r g b)))) ∧ G "v" = some (.d (.flt (fmax3 r g b))))
        (S1.ite (TV.cmp BinOk.eqF F.name F.name) (fun hb => SS.one (S1.assign F.ok F.st (EV.bin BinOk.subF F.name F.name)) (SS.nil ⟨?_, rfl, rfl⟩))
          (fun hb => SS.cons (N1 := fun G => G "h" = some (.d (.flt (h0C (fmax3 r g b) (Float64.sub (fmax3 r g b) (fmin3 r g b)) r g b))) ∧ G "s" = some (.d (.flt (Float64.div (Float64.sub (fmax3 r g b) (fmin3 r g b)) (fmax3 r g b)))) ∧ G "v" = some (.d (.flt (fmax3 r g b))))
            (S1.ite (TV.cmp BinOk.eqF F.name F.name) (fun hb2 => SS.one (S1.assign F.ok F.st (EV.bin BinOk.subF (EV.bin BinOk.addF EV.cFlt F.name) F.name)) (SS.nil ⟨?_, rfl, rfl⟩)) (fun hb2 => SS.one (S1.assign F.ok F.st (EV.bin BinOk.subF (EV.bin BinOk.addF EV.cFlt F.name) F.name)) (SS.nil ⟨?_, rfl, rfl⟩))) (fun G hG => SS.nil hG))) (fun G hG => ?_)
      · unfold h0C; rw [if_pos hb]; rfl
      · unfold h0C; rw [if_neg (by rw [hb]; exact Bool.false_ne_true), if_pos hb2]; rfl
      · unfold h0C; rw [if_neg (by rw [hb]; exact Bool.false_ne_true), if_neg (by rw [hb2]; exact Bool.false_ne_true)]; rfl
      · obtain ⟨g1, g2, g3⟩ := hG
        refine SS.one (S1.assign F.ok F.st (EV.bin (BinOk.modF (by decide +kernel)) (EV.bin (BinOk.divF (by decide +kernel)) (F.name g1) EV.cFlt) EV.cFlt)) ?_
        refine SS.cons (N1 := fun _ => False) (S1.ret (EV.tuple (EVs.cons F.name (EVs.cons (F.name g2) (EVs.cons (F.name g3) EVs.nil))) (sizes3 _ _ _)) ?_) (fun _ h => h.elim)
        unfold hsvC
        rw [if_neg (by rw [hc]; exact Bool.false_ne_true)]; rfl
  · obtain ⟨a1, a2, a3, rfl⟩ := len3 h; rfl

noncomputable def rgbC (h s v : UInt64) (i : Int) : List UInt64 :=
  if (Float64.cmp s F0 == some .eq) = true then [v, v, v] else
  let f := Float64.sub (Float64.mul h F6) (Float64.ofInt i)
  let p := Float64.mul v (Float64.sub F1 s)
  let q := Float64.mul v (Float64.sub F1 (Float64.mul s f))
  let t := Float64.mul v (Float64.sub F1 (Float64.mul s (Float64.sub F1 f)))
  let j := i.fmod 6
  if j = 0 then [v, t, p] else if j = 1 then [q, v, p] else if j = 2 then [p, v, t] else if j = 3 then [p, q, v] else if j = 4 then [t, p, v] else [v, p, q]

theorem hsv_ok (X : KC P.K) (O : CxOk C k) (hr : k < 890) {h s v : UInt64} {sg : Bool} {mm : Nat} {e : Int} (hd : ¬ (Float64.cmp s F0 == some .eq) = true → Float64.decode (Float64.mul h F6) = .fin sg mm e ∧ ¬ Float64.isInf (Float64.ofInt (Float64.truncOf sg mm e)) = true) :
    CallOk C (.ref 121) [.flt h, .flt s, .flt v] (.tup ((rgbC h s v (Float64.truncOf sg mm e)).map .flt)) := by
  refine CallOk.dfn O (by omega) X.d_hsv (names := ["h", "s", "v"]) (fun C' F _ => ?_) (fun vs doc pm an ct h => ?_) rfl rfl (by decide) (by decide)
  · cases hc : (Float64.cmp s F0 == some .eq) with
    | true =>
      refine SS.cons (N1 := fun _ => False) (S1.ite (b := true) (by rw [← hc]; exact TV.cmp BinOk.eqF F.name EV.cFlt) (fun _ => SS.cons (N1 := fun _ => False) (S1.ret (EV.tuple (EVs.cons F.name (EVs.cons F.name (EVs.cons F.name EVs.nil))) (sizes3 _ _ _)) ?_) (fun _ h => h.elim)) (fun h => by cases h)) (fun _ h => h.elim)
      unfold rgbC
      rw [if_pos hc]; rfl
    | false =>
      obtain ⟨d1, d2⟩ := hd (by rw [hc]; exact Bool.false_ne_true)
      refine SS.cons (N1 := fun G => G = _) (S1.ite (b := false) (by rw [← hc]; exact TV.cmp BinOk.eqF F.name EV.cFlt) (fun h => by cases h) (fun _ => SS.nil rfl)) (fun G hG => ?_)
      subst hG
      refine SS.one (S1.assign F.ok F.st (EV.callT (F.boot X.int_ boot_int) (EVs.cons (EV.bin BinOk.mulF F.name EV.cFlt) EVs.nil) (CallOk.intF d1))) ?_
      refine SS.one (S1.assign F.ok F.st (EV.bin (BinOk.subFI d2) (EV.bin BinOk.mulF F.name EV.cFlt) F.name)) ?_
      refine SS.one (S1.assign F.ok F.st (EV.bin BinOk.mulF F.name (EV.bin BinOk.subF EV.cFlt F.name))) ?_
      refine SS.one (S1.assign F.ok F.st (EV.bin BinOk.mulF F.name (EV.bin BinOk.subF EV.cFlt (EV.bin BinOk.mulF F.name F.name)))) ?_
      refine SS.one (S1.assign F.ok F.st (EV.bin BinOk.mulF F.name (EV.bin BinOk.subF EV.cFlt (EV.bin BinOk.mulF F.name (EV.bin BinOk.subF EV.cFlt F.name))))) ?_
      refine SS.one (S1.assign F.ok F.st (EV.bin (BinOk.modI (by decide)) F.name EV.cInt)) ?_
      generalize hj : (Float64.truncOf sg mm e).fmod 6 = j
      have j0 : 0 ≤ j := by rw [← hj]; exact Int.fmod_nonneg_of_pos _ (by decide)
      have j6 : j < 6 := by rw [← hj]; exact Int.fmod_lt_of_pos _ (by decide)
      have hc' : ¬ (Float64.cmp s F0 == some .eq) = true := by rw [hc]; exact Bool.false_ne_true
      refine SS.cons (N1 := fun G => G = _ ∧ j ≠ 0) (S1.ite (TV.cmp BinOk.eqI F.name EV.cInt) (fun hb => SS.cons (N1 := fun _ => False) (S1.ret (EV.tuple (EVs.cons F.name (EVs.cons F.name (EVs.cons F.name EVs.nil))) (sizes3 _ _ _)) ?_) (fun _ h => h.elim)) (fun hb => SS.nil ⟨rfl, by simpa using hb⟩)) (fun G hG => ?_)
      · have hb : j = 0 := by simpa using hb
        unfold rgbC; rw [if_neg hc']; simp only [hj, hb, if_true]; rfl
      obtain ⟨rfl, n0⟩ := hG
      refine SS.cons (N1 := fun G => G = _ ∧ j ≠ 1) (S1.ite (TV.cmp BinOk.eqI F.name EV.cInt) (fun hb => SS.cons (N1 := fun _ => False) (S1.ret (EV.tuple (EVs.cons F.name (EVs.cons F.name (EVs.cons F.name EVs.nil))) (sizes3 _ _ _)) ?_) (fun _ h => h.elim)) (fun hb => SS.nil ⟨rfl, by simpa using hb⟩)) (fun G hG => ?_)
      · have hb : j = 1 := by simpa using hb
        unfold rgbC; rw [if_neg hc']; simp only [hj, hb]; rfl
      obtain ⟨rfl, n1⟩ := hG
      refine SS.cons (N1 := fun G => G = _ ∧ j ≠ 2) (S1.ite (TV.cmp BinOk.eqI F.name EV.cInt) (fun hb => SS.cons (N1 := fun _ => False) (S1.ret (EV.tuple (EVs.cons F.name (EVs.cons F.name (EVs.cons F.name EVs.nil))) (sizes3 _ _ _)) ?_) (fun _ h => h.elim)) (fun hb => SS.nil ⟨rfl, by simpa using hb⟩)) (fun G hG => ?_)
      · have hb : j = 2 := by simpa using hb
        unfold rgbC; rw [if_neg hc']; simp only [hj, hb]; rfl
      obtain ⟨rfl, n2⟩ := hG
      refine SS.cons (N1 := fun G => G = _ ∧ j ≠ 3) (S1.ite (TV.cmp BinOk.eqI F.name EV.cInt) (fun hb => SS.cons (N1 := fun _ => False) (S1.ret (EV.tuple (EVs.cons F.name (EVs.cons F.name (EVs.cons F.name EVs.nil))) (sizes3 _ _ _)) ?_) (fun _ h => h.elim)) (fun hb => SS.nil ⟨rfl, by simpa using hb⟩)) (fun G hG => ?_)
      · have hb : j = 3 := by simpa using hb
        unfold rgbC; rw [if_neg hc']; simp only [hj, hb]; rfl
      obtain ⟨rfl, n3⟩ := hG
      refine SS.cons (N1 := fun G => G = _ ∧ j ≠ 4) (S1.ite (TV.cmp BinOk.eqI F.name EV.cInt) (fun hb => SS.cons (N1 := fun _ => False) (S1.ret (EV.tuple (EVs.cons F.name (EVs.cons F.name (EVs.cons F.name EVs.nil))) (sizes3 _ _ _)) ?_) (fun _ h => h.elim)) (fun hb => SS.nil ⟨rfl, by simpa using hb⟩)) (fun G hG => ?_)
      · have hb : j = 4 := by simpa using hb
        unfold rgbC; rw [if_neg hc']; simp only [hj, hb]; rfl
      obtain ⟨rfl, n4⟩ := hG
      refine SS.cons (N1 := fun _ => False) (S1.ite (TV.cmp BinOk.eqI F.name EV.cInt) (fun hb => SS.cons (N1 := fun _ => False) (S1.ret (EV.tuple (EVs.cons F.name (EVs.cons F.name (EVs.cons F.name EVs.nil))) (sizes3 _ _ _)) ?_) (fun _ h => h.elim)) (fun hb => ?_)) (fun _ h => h.elim)
      · have hb : j = 5 := by simpa using hb
        unfold rgbC; rw [if_neg hc']; simp only [hj, hb]; rfl
      · have hb : j ≠ 5 := by simpa using hb
        (rename_i q1; clear hj q1; lia)
  · obtain ⟨a1, a2, a3, rfl⟩ := len3 h; rfl
end
end Mine
end

section
open PySem PySem.W PyProof.Rows PySem.Calls
set_option maxRecDepth 100000
namespace Mine

-- SLICES
/-- a slice without a step: where it opens and ends -/
theorem slice_span {n a b : Nat} {lo hi : Option Int} (h1 : a ≤ b) (h2 : b ≤ n) (hl : lo = some (a : Int) ∨ (lo = none ∧ a = 0)) (hh : hi = some (b : Int) ∨ (hi = none ∧ b = n)) : sliceBounds lo hi none n = ((a : Int), (b : Int), 1) := by
  rcases hl with rfl | ⟨rfl, rfl⟩ <;> rcases hh with rfl | ⟨rfl, rfl⟩ <;> (simp [sliceBounds]; try omega)
theorem pick_span {ds : List D} {a b : Nat} {lo hi : Option Int} (h1 : a ≤ b) (h2 : b ≤ ds.length) (hl : lo = some (a : Int) ∨ (lo = none ∧ a = 0)) (hh : hi = some (b : Int) ∨ (hi = none ∧ b = ds.length)) : pickD ds lo hi none = (ds.drop a).take (b - a) := by
  unfold pickD
  rw [slice_span h1 h2 hl hh, sliceRange_one]
  simpa using PySem.pick_run ds.toArray a (b - a)
theorem pick_run (ds : List D) {a b : Nat} (h1 : a ≤ b) (h2 : b ≤ ds.length) : pickD ds (some a) (some b) none = (ds.drop a).take (b - a) := pick_span h1 h2 (.inl rfl) (.inl rfl)
theorem pick_upto (ds : List D) {b : Nat} (h2 : b ≤ ds.length) : pickD ds none (some b) none = ds.take b := pick_span (Nat.zero_le _) h2 (.inr ⟨rfl, rfl⟩) (.inl rfl)
theorem pick_from (ds : List D) {a : Nat} (h2 : a ≤ ds.length) : pickD ds (some a) none none = ds.drop a :=
  (pick_span h2 (Nat.le_refl _) (.inl rfl) (.inr ⟨rfl, rfl⟩)).trans (List.take_of_length_le (by rw [List.length_drop]; exact Nat.le_refl _))
theorem pick_rev (ds : List D) (h : ds.length ≤ 3) : pickD ds none none (some (-1)) = ds.reverse := by
  have e1 : sliceRange (sliceBounds none none (some (-1)) 1).1 (sliceBounds none none (some (-1)) 1).2.1 (sliceBounds none none (some (-1)) 1).2.2 = [0] := by decide +kernel
  have e2 : sliceRange (sliceBounds none none (some (-1)) 2).1 (sliceBounds none none (some (-1)) 2).2.1 (sliceBounds none none (some (-1)) 2).2.2 = [1, 0] := by decide +kernel
  have e3 : sliceRange (sliceBounds none none (some (-1)) 3).1 (sliceBounds none none (some (-1)) 3).2.1 (sliceBounds none none (some (-1)) 3).2.2 = [2, 1, 0] := by decide +kernel
  have e0 : sliceRange (sliceBounds none none (some (-1)) 0).1 (sliceBounds none none (some (-1)) 0).2.1 (sliceBounds none none (some (-1)) 0).2.2 = [] := by decide +kernel
  match ds, h with
  | [], _ => unfold pickD; rw [List.length_nil, e0]; rfl
  | [a], _ => unfold pickD; rw [show [a].length = 1 from rfl, e1]; rfl
  | [a, b], _ => unfold pickD; rw [show [a, b].length = 2 from rfl, e2]; rfl
  | [a, b, c], _ => unfold pickD; rw [show [a, b, c].length = 3 from rfl, e3]; rfl

-- BLOCKS
section
variable {P : Wd} {C C' : Cx P} {Γ Γ' : GEnv} {k : Nat} {qual : Str} {S0 scope : Scope} {f : Addr} {cd : Value} {cl : List (Str × Addr)}
theorem EV.sliceE {e : Expr} {o1 o2 o3 : Option Expr} {p pos : Pos} {ds es : List D} {lo hi st : Option Int} (hp : pickD ds lo hi st = es) (h1 : EV C Γ e (.lst ds)) (a1 : PV C Γ o1 lo) (a2 : PV C Γ o2 hi) (a3 : PV C Γ o3 st) (h0 : st ≠ some 0) (hz : ds.length ≤ 1000)
    (hs : SlOk e (.Slice o1 o2 o3 p) := by exact fun _ _ => ⟨_, by with_unfolding_all rfl⟩) (hg : LetGo e := by intro _ _; with_unfolding_all rfl) : EV C Γ (.Subscript e (.Slice o1 o2 o3 p) pos) (.lst es) := by
  subst hp
  exact EV.slice h1 a1 a2 a3 h0 (by rw [sizeLine_eq]; lia) hs hg
theorem Fd.comp (F : Fd C k qual S0 f cd) {x : Str} (cl : List (Str × Addr)) (h1 : closureFor scope (envX qual S0 C.L f cd (cellsFrom (C.L + 1) S0.names [])) = pure cl := by rfl) (h2 : scope.kind = .function := by rfl) (h3 : ∀ y ∈ scope.names, y.2 ≠ .cell := by decide)
    (h4 : ∀ y ∈ scope.names, y.2 = .local → scope.names.lookup y.1 = some .local := by decide) (h5 : scope.names.lookup x = some .local := by rfl) (h6 : cl.lookup x = none := by rfl)
    (h7 : ∀ p ∈ cl, (cellsFrom (C.L + 1) S0.names []).lookup p.1 = some p.2 := by (intro p hp; first | exact absurd hp List.not_mem_nil | (simp only [List.mem_cons, List.not_mem_nil, or_false] at hp; first | (rcases hp with rfl | rfl | rfl <;> rfl) | (rcases hp with rfl | rfl <;> rfl) | (subst hp; rfl))))
    (h8 : (cl.map (·.2)).Nodup := by first | (simp; done) | (simp <;> omega)) : CompOk C scope cl x :=
  ⟨by rw [F.en]; exact h1, h2, h3, h4, h5, h6, fun y c e => by rw [F.cells]; exact h7 (y, c) (PySem.mem_of_lookup e), h8⟩
theorem EV.neg {x : Expr} {pos : Pos} {i : Int} (h : EV C Γ x (.int i)) : EV C Γ (.UnaryOp .USub x pos) (.int (-i)) := by
  intro kl m fz mu s Q hE hS hQ
  refine wpAny_UnaryOp (h hE hS fun fz1 s1 v1 k1 S1 r1 => ?_)
  obtain ⟨t, rfl⟩ := r1.int_inv
  exact PyProof.Rows.neg_int (hQ _ _ _ k1 (S1.tok _) (.int _ _))
theorem EV.compR (O : CxOk C k) (hcm : C.cm = none) {x : Str} {px pos : Pos} {elt iter : Expr} (H : CompOk C scope cl x) {a b : Int} {n : Nat} (hn : (b - a).toNat = n) (hsm : Builtin.Range.small a b 1 = true) (hi : EV C Γ iter (.rng a b)) (g : Nat → D) (hz : n ≤ 1000000)
    (helt : ∀ C', Bk C C' k scope cl → ∀ i, i < n → EV C' ((Γcl Γ cl).set x (.int (a + i))) elt (g i))
    (hs : ∀ env x, foldedSetIterable iter env x = pure x := by intro _ _; rfl) : EV C Γ (.ListComp elt [⟨.Name x px, iter, [], 0⟩] scope pos) (.lst ((List.range n).map g)) := by
  have h1 : IT C Γ iter (List.range n).length (fun i => .int (a + i)) := by rw [List.length_range, ← hn]; exact IT.rng O hsm hi
  have h2 := EV.comp (px := px) (pos := pos) O hcm H (List.range n) (fun i => .int (a + (i : Int))) (fun _ => true) g h1 (fun i j h => by rw [List.getElem?_range] at h; cases h; rfl; exact (by have := (List.getElem?_eq_some_iff.mp h).1; simpa using this)) (by rw [List.length_range]; exact hz) (fun C' B a _ => IfsOk.nil) (fun C' B i hi _ => helt C' B i (List.mem_range.mp hi)) hs
  rw [List.filter_eq_self.mpr fun _ _ => rfl] at h2
  exact h2
theorem map_getD {α : Type} (xs : List α) (f : α → D) (i : Nat) (a : α) (h : xs[i]? = some a) : (xs.map f).getD i .none = f a := by
  rw [List.getD_eq_getElem?_getD, List.getElem?_map, h]; rfl
theorem EV.compL (O : CxOk C k) (hcm : C.cm = none) {x : Str} {px pos : Pos} {elt iter : Expr} (H : CompOk C scope cl x) {α : Type} (xs : List α) (fd g : α → D) (hi : EV C Γ iter (.lst (xs.map fd))) (hz : xs.length ≤ 1000000)
    (helt : ∀ C', Bk C C' k scope cl → ∀ a ∈ xs, EV C' ((Γcl Γ cl).set x (fd a)) elt (g a))
    (hs : ∀ env x, foldedSetIterable iter env x = pure x := by intro _ _; rfl) : EV C Γ (.ListComp elt [⟨.Name x px, iter, [], 0⟩] scope pos) (.lst (xs.map g)) := by
  have h1 : IT C Γ iter xs.length (fun i => (xs.map fd).getD i .none) := by have := IT.lst O hi; rw [List.length_map] at this; exact this
  have h2 := EV.comp (px := px) (pos := pos) O hcm H xs fd (fun _ => true) g h1 (map_getD xs fd) hz (fun C' B a _ => IfsOk.nil) (fun C' B a ha _ => helt C' B a ha) hs
  rw [List.filter_eq_self.mpr fun _ _ => rfl] at h2
  exact h2
theorem EV.compF (O : CxOk C k) (hcm : C.cm = none) {x : Str} {px pos : Pos} {elt iter t : Expr} (H : CompOk C scope cl x) {α : Type} (xs : List α) (fd g : α → D) (p : α → Bool) (hi : EV C Γ iter (.lst (xs.map fd))) (hz : xs.length ≤ 1000000)
    (htest : ∀ C', Bk C C' k scope cl → ∀ a ∈ xs, TV C' ((Γcl Γ cl).set x (fd a)) t (p a))
    (helt : ∀ C', Bk C C' k scope cl → ∀ a ∈ xs, p a = true → EV C' ((Γcl Γ cl).set x (fd a)) elt (g a))
    (hs : ∀ env x, foldedSetIterable iter env x = pure x := by intro _ _; rfl) : EV C Γ (.ListComp elt [⟨.Name x px, iter, [t], 0⟩] scope pos) (.lst ((xs.filter p).map g)) := by
  have h1 : IT C Γ iter xs.length (fun i => (xs.map fd).getD i .none) := by have := IT.lst O hi; rw [List.length_map] at this; exact this
  exact EV.comp (px := px) (pos := pos) O hcm H xs fd p g h1 (map_getD xs fd) hz (fun C' B a ha => IfsOk.one (htest C' B a ha)) helt hs
theorem EV.compT (O : CxOk C k) (hcm : C.cm = none) {x : Str} {px pos : Pos} {elt iter : Expr} (H : CompOk C scope cl x) {α : Type} (xs : List α) (fd g : α → D) (hi : EV C Γ iter (.tup (xs.map fd))) (hz : xs.length ≤ 1000000)
    (helt : ∀ C', Bk C C' k scope cl → ∀ a ∈ xs, EV C' ((Γcl Γ cl).set x (fd a)) elt (g a))
    (hs : ∀ env x, foldedSetIterable iter env x = pure x := by intro _ _; rfl) : EV C Γ (.ListComp elt [⟨.Name x px, iter, [], 0⟩] scope pos) (.lst (xs.map g)) := by
  have h1 : IT C Γ iter xs.length (fun i => (xs.map fd).getD i .none) := by have := IT.tup O hi; rw [List.length_map] at this; exact this
  have h2 := EV.comp (px := px) (pos := pos) O hcm H xs fd (fun _ => true) g h1 (map_getD xs fd) hz (fun C' B a _ => IfsOk.nil) (fun C' B a ha _ => helt C' B a ha) hs
  rw [List.filter_eq_self.mpr fun _ _ => rfl] at h2
  exact h2
theorem Γcl_at {y : Str} {d : D} (h : Γ y = some (.d d)) (hc : (cl.lookup y).isSome = true := by rfl) : Γcl Γ cl y = some (.d d) := by
  unfold Γcl
  obtain ⟨c, e⟩ := Option.isSome_iff_exists.mp hc
  rw [e, h]
theorem Bk.kindOf (B : Bk C C' k scope cl) (F : Fd C k qual S0 f cd) (y : Str) : C'.env.kindOf y = (relabel scope (envX qual S0 C.L f cd (cellsFrom (C.L + 1) S0.names []))).names.lookup y := by
  unfold Env.kindOf
  rw [B.sco, F.en]
theorem Bk.name (B : Bk C C' k scope cl) (F : Fd C k qual S0 f cd) {y : Str} {pos : Pos} {d : D} (hx : Γ y = some (.d d) := by rfl) (h : (relabel scope (envX qual S0 C.L f cd (cellsFrom (C.L + 1) S0.names []))).names.lookup y = some .local := by rfl) (hc : cl.lookup y = none := by rfl)
    (hd : (y == ("__debug__" : Str)) = false := by decide) : EV C' Γ (.Name y pos) d := EV.name B.ok hx (by rw [B.kindOf F]; exact h) (by rw [B.cells]; exact hc) hd
theorem Bk.cell (B : Bk C C' k scope cl) (F : Fd C k qual S0 f cd) {y : Str} {pos : Pos} {d : D} (hx : Γ y = some (.d d)) (h : (relabel scope (envX qual S0 C.L f cd (cellsFrom (C.L + 1) S0.names []))).names.lookup y = some .cell := by rfl) (hc : (cl.lookup y).isSome = true := by rfl)
    (hd : (y == ("__debug__" : Str)) = false := by decide) : EV C' Γ (.Name y pos) d :=
  let ⟨c, e⟩ := Option.isSome_iff_exists.mp hc
  EV.nameC B.ok hx (by rw [B.kindOf F]; exact h) (c := c) (by rw [B.cells]; exact e) hd
theorem Bk.glob (B : Bk C C' k scope cl) (F : Fd C k qual S0 f cd) {y : Str} {pos : Pos} {v : Value} (e : nsIn P.K mainGlobals y = some (some v)) (h : (relabel scope (envX qual S0 C.L f cd (cellsFrom (C.L + 1) S0.names []))).names.lookup y = some .globalImplicit := by rfl)
    (hd : (y == ("__debug__" : Str)) = false := by decide) : EV C' Γ (.Name y pos) (.val v) := EV.glob B.ok e (by rw [B.kindOf F]; exact h) hd
theorem Bk.boot (B : Bk C C' k scope cl) (F : Fd C k qual S0 f cd) {y : Str} {pos : Pos} {v : Value} (e : nsIn P.K mainGlobals y = some none) (hv : bootBuiltins y = some v) (h : (relabel scope (envX qual S0 C.L f cd (cellsFrom (C.L + 1) S0.names []))).names.lookup y = some .globalImplicit := by rfl)
    (hn : y ≠ "__name__" := by decide) (hd : (y == ("__debug__" : Str)) = false := by decide) : EV C' Γ (.Name y pos) (.val v) := EV.boot B.ok e hv (by rw [B.kindOf F]; exact h) (by rw [B.bi]; exact F.bi) hn hd
end

structure KD (K : Frag) : Prop where
  max_ : nsIn K mainGlobals "max" = some Option.none
  min_ : nsIn K mainGlobals "min" = some Option.none
  range_ : nsIn K mainGlobals "range" = some Option.none
  g_spread : nsIn K mainGlobals "_law_spread" = some (some (.ref 152))
  d_lead : IsDef K 133 "_law_lead" "_law_lead" (stm 11) .none .none (.ref 132)
  d_text : IsDef K 138 "_law_text" "_law_text" (stm 12) .none .none (.ref 137)
  d_column : IsDef K 145 "_law_column" "_law_column" (stm 13) .none .none (.ref 144)
  d_spread : IsDef K 152 "_law_spread" "_law_spread" (stm 14) .none .none (.ref 151)
  d_place : IsDef K 159 "_law_place" "_law_place" (stm 15) .none .none (.ref 158)

section
variable {P : Wd} {C : Cx P} {Γ Γ' : GEnv} {k : Nat}
theorem sizes (n : Nat) (h : n ≤ 1000) : n ≤ sizeLine := by rw [sizeLine_eq]; lia
noncomputable def spr (r g b : Int) : Int := max r (max g b) - min r (min g b)
theorem pick4 (a b c d : D) : pickD [a, b, c, d] (some 1) none none = [b, c, d] := pick_from [a, b, c, d] (a := 1) (by simp)
theorem mx3_in (r g b : Int) : max r (max g b) ∈ [r, g, b] := by
  rcases Int.le_total (max g b) r with h | h
  · rw [Int.max_eq_left h]; exact .head _
  · rw [Int.max_eq_right h]
    rcases Int.le_total b g with h | h
    · rw [Int.max_eq_left h]; exact .tail _ (.head _)
    · rw [Int.max_eq_right h]; exact .tail _ (.tail _ (.head _))
theorem mn3_in (r g b : Int) : min r (min g b) ∈ [r, g, b] := by
  rcases Int.le_total r (min g b) with h | h
  · rw [Int.min_eq_left h]; exact .head _
  · rw [Int.min_eq_right h]
    rcases Int.le_total g b with h | h
    · rw [Int.min_eq_left h]; exact .tail _ (.head _)
    · rw [Int.min_eq_right h]; exact .tail _ (.tail _ (.head _))
theorem mx3_top (r g b : Int) : ∀ a ∈ [r, g, b], a ≤ max r (max g b) := by
  intro a ha
  simp only [List.mem_cons, List.not_mem_nil, or_false] at ha
  rcases ha with rfl | rfl | rfl
  · exact Int.le_max_left _ _
  · exact Int.le_trans (Int.le_max_left _ _) (Int.le_max_right _ _)
  · exact Int.le_trans (Int.le_max_right _ _) (Int.le_max_right _ _)
theorem mn3_bot (r g b : Int) : ∀ a ∈ [r, g, b], min r (min g b) ≤ a := by
  intro a ha
  simp only [List.mem_cons, List.not_mem_nil, or_false] at ha
  rcases ha with rfl | rfl | rfl
  · exact Int.min_le_left _ _
  · exact Int.le_trans (Int.min_le_right _ _) (Int.min_le_left _ _)
  · exact Int.le_trans (Int.min_le_right _ _) (Int.min_le_right _ _)
theorem spr_bd {r g b : Int} (h1 : 0 ≤ r ∧ r ≤ 1000) (h2 : 0 ≤ g ∧ g ≤ 1000) (h3 : 0 ≤ b ∧ b ≤ 1000) : 0 ≤ spr r g b ∧ spr r g b ≤ 1000 := by
  have a1 : max r (max g b) ≤ 1000 := Int.max_le.mpr ⟨h1.2, Int.max_le.mpr ⟨h2.2, h3.2⟩⟩
  have a2 : 0 ≤ min r (min g b) := Int.le_min.mpr ⟨h1.1, Int.le_min.mpr ⟨h2.1, h3.1⟩⟩
  have a3 : min r (min g b) ≤ max r (max g b) := Int.le_trans (Int.min_le_left _ _) (Int.le_max_left _ _)
  exact ⟨Int.sub_nonneg_of_le a3, Int.le_trans (Int.sub_le_self _ a2) a1⟩
theorem spread_ok (X : KD P.K) (O : CxOk C k) (hr : k < 890) {n r g b : Int} : CallOk C (.ref 152) [.lst [.int n, .int r, .int g, .int b]] (.int (spr r g b)) := by
  refine CallOk.dfn O (by lia) X.d_spread (names := ["row"]) (fun C' F _ => ?_) (fun vs doc pm an ct h => ?_) rfl rfl (by decide) (by decide)
  · refine SS.cons (N1 := fun _ => False) (S1.ret (EV.bin BinOk.subI (EV.callB (F.boot X.max_ boot_max) (EVs.cons (EV.slice F.name (.so EV.cInt) .no .no (by simp) (sizes _ (by simp))) EVs.nil) ?_) (EV.callB (F.boot X.min_ boot_min) (EVs.cons (EV.slice F.name (.so EV.cInt) .no .no (by simp) (sizes _ (by simp))) EVs.nil) ?_)) rfl) (fun _ h => h.elim)
    · rw [pick4]
      exact CallOk.maxL F.ok (ns := [r, g, b]) (mx3_in r g b) (mx3_top r g b)
    · rw [pick4]
      exact CallOk.minL F.ok (ns := [r, g, b]) (mn3_in r g b) (mn3_bot r g b)
  · obtain ⟨a1, rfl⟩ := len1 h; rfl

-- COLUMNS
noncomputable def colTo (size : Int) : List Int → Int → Int
  | [], c => c
  | r :: rs, c => colTo size rs ((c + r).fdiv size * size + size)
theorem colTo_snoc (size : Int) (r : Int) : ∀ (rs : List Int) (c : Int), colTo size (rs ++ [r]) c = (colTo size rs c + r).fdiv size * size + size
  | [], c => rfl
  | q :: rs, c => by rw [List.cons_append, colTo, colTo, colTo_snoc size r rs]
noncomputable def colP (runs : List Int) (b size : Int) : Int := colTo size runs 0 + b
/-- a lead -/
noncomputable abbrev D.lead (runs : List Int) (b : Int) : D := .lst [D.ints runs, .int b]
structure LeadSm (runs : List Int) (b : Int) : Prop where
  len : runs.length ≤ 5
  r : ∀ r ∈ runs, 0 ≤ r ∧ r ≤ 8
  b0 : 0 ≤ b
  b : b ≤ 8
theorem fdiv_mul_le {a s : Int} (ha : 0 ≤ a) (hs : 1 ≤ s) : 0 ≤ a.fdiv s * s ∧ a.fdiv s * s ≤ a := by
  rw [Int.fdiv_eq_ediv_of_nonneg _ (by lia)]
  refine ⟨Int.mul_nonneg (Int.ediv_nonneg ha (by omega)) (by omega), Int.ediv_mul_le _ (by lia)⟩
theorem colTo_bd {size : Int} (h1 : 1 ≤ size) : ∀ (rs : List Int) (c : Int), (∀ r ∈ rs, 0 ≤ r ∧ r ≤ 8) → 0 ≤ c → 0 ≤ colTo size rs c ∧ colTo size rs c ≤ c + rs.length * (8 + size)
  | [], c, _, h => by unfold colTo; simp; omega
  | r :: rs, c, hr, h => by
    have hr0 := hr r (.head _)
    have h2 := fdiv_mul_le (a := c + r) (s := size) (by lia) h1
    have := colTo_bd h1 rs ((c + r).fdiv size * size + size) (fun x hx => hr x (.tail _ hx)) (by omega)
    unfold colTo
    rw [List.length_cons]
    have e : ((rs.length + 1 : Nat) : Int) * (8 + size) = rs.length * (8 + size) + (8 + size) := by
      rw [Int.natCast_add, Int.add_mul]; simp
    rw [e]
    (clear e; omega)

theorem column_ok (X : KD P.K) (O : CxOk C k) (hr : k < 890) {runs : List Int} {b size : Int} (hl : LeadSm runs b) (h1 : 1 ≤ size) (h2 : size ≤ 1000) : CallOk C (.ref 145) [D.lead runs b, .int size] (.int (colP runs b size)) := by
  refine CallOk.dfn O (by lia) X.d_column (names := ["lead", "size"]) (fun C' F _ => ?_) (fun vs doc pm an ct h => ?_) rfl rfl (by decide) (by decide)
  · refine SS.one (S1.assign F.ok F.st EV.cInt) ?_
    refine SS.cons (N1 := fun G => G "column" = some (.d (.int (colTo size runs 0))) ∧ G "lead" = some (.d (D.lead runs b)))
      (S1.forI F.ok F.st (IT.lst F.ok (EV.item (ds := [D.ints runs, .int b]) (d := D.ints runs) F.name EV.cInt (by decide) (by decide) rfl))
        (fun i G => G "column" = some (.d (.int (colTo size (runs.take i) 0))) ∧ G "lead" = some (.d (D.lead runs b)) ∧ G "size" = some (.d (.int size))) ⟨rfl, rfl, rfl⟩ (fun i G hi hG => ?_) (fun G hG => ?_)) (fun G hG => ?_)
    · obtain ⟨g1, g2, g3⟩ := hG
      have hi' : i < runs.length := by simpa using hi
      have e1 : (runs.map D.int).getD i .none = .int runs[i] := by rw [List.getD_eq_getElem?_getD, List.getElem?_map, List.getElem?_eq_getElem hi']; rfl
      rw [e1]
      have hri := hl.r runs[i] (List.getElem_mem hi')
      have hc := colTo_bd h1 (runs.take i) 0 (fun x hx => hl.r x (List.mem_of_mem_take hx)) (by simp)
      have hlen : ((runs.take i).length : Int) ≤ 5 := by have := hl.len; rw [List.length_take]; grind
      have hm : ((runs.take i).length : Int) * (8 + size) ≤ 5 * 1008 := Int.mul_le_mul hlen (by lia) (by lia) (by simp)
      have hfd := fdiv_abs (a := colTo size (runs.take i) 0 + runs[i]) (b := size) (by lia) h1
      refine SS.one (S1.assign F.ok F.st (EV.bin BinOk.addI (EV.bin (BinOk.mulI ?_) (EV.bin (BinOk.divI (by lia) (PyProof.noPylong_small (by grind))) (EV.bin BinOk.addI (F.name g1) F.name) (F.name g3)) (F.name g3)) (F.name g3))) (SS.nil ⟨?_, g2, g3⟩)
      · exact mulOk (by omega)
      rw [List.take_add_one, List.getElem?_eq_getElem hi']
      show _ = some (Mine.G.d (D.int (colTo size (runs.take i ++ [runs[i]]) 0)))
      rw [colTo_snoc]; rfl
    · obtain ⟨g1, g2, g3⟩ := hG
      rw [List.length_map, List.take_length] at g1
      exact ⟨g1, g2⟩
    · exact SS.cons (N1 := fun _ => False) (S1.ret (EV.bin BinOk.addI (F.name hG.1) (EV.item (ds := [D.ints runs, .int b]) (d := .int b) (F.name hG.2) EV.cInt (by decide) (by decide) rfl)) rfl) (fun _ h => h.elim)
  · obtain ⟨a1, a2, rfl⟩ := len2 h; rfl

-- PLACES
noncomputable def topI (r g b : Int) : Nat := [r, g, b].idxOf (max r (max g b))
noncomputable def partI (r g b : Int) (i : Int) : Int := [r, g, b].getD i.toNat 0
noncomputable def wayI (r g b : Int) : Int := 2 * (topI r g b : Int) * spr r g b + partI r g b (((topI r g b : Int) + 1).fmod 3) - partI r g b (((topI r g b : Int) + 2).fmod 3)
noncomputable def placeI (r g b whole : Int) : Int := ((wayI r g b).fmod (6 * spr r g b) * whole).fdiv (spr r g b)
theorem part_at (r g b : Int) {i : Int} (h0 : 0 ≤ i) (h3 : i < 3) : ([D.int r, .int g, .int b] : List D)[i.toNat]? = some (.int (partI r g b i)) := by
  have : i = 0 ∨ i = 1 ∨ i = 2 := by lia
  rcases this with rfl | rfl | rfl <;> rfl
theorem top_lt (r g b : Int) : topI r g b < 3 := by
  unfold topI
  have : max r (max g b) ∈ [r, g, b] := mx3_in r g b
  exact List.idxOf_lt_length_iff.mpr this
theorem place_ok (X : KD P.K) (O : CxOk C k) (hr : k < 880) {n r g b whole : Int} (h1 : 0 ≤ r ∧ r ≤ 1000) (h2 : 0 ≤ g ∧ g ≤ 1000) (h3 : 0 ≤ b ∧ b ≤ 1000) (hs : 1 ≤ spr r g b) : CallOk C (.ref 159) [.lst [.int n, .int r, .int g, .int b], .int whole] (.int (placeI r g b whole)) := by
  have hs2 : spr r g b ≤ 1000 := (spr_bd h1 h2 h3).2
  have ht := top_lt r g b
  have m0 : ∀ a : Int, 0 ≤ a.fmod 3 ∧ a.fmod 3 < 3 := fun a => ⟨Int.fmod_nonneg_of_pos _ (by decide), Int.fmod_lt_of_pos _ (by decide)⟩
  refine CallOk.dfn O (by lia) X.d_place (names := ["row", "whole"]) (fun C' F _ => ?_) (fun vs doc pm an ct h => ?_) rfl rfl (by decide) (by decide)
  · refine SS.one (S1.assign F.ok F.st (d := D.ints [r, g, b]) (EV.sliceE (pick4 _ _ _ _) F.name (.so EV.cInt) .no .no (by simp) (by simp))) ?_
    refine SS.one (S1.assign F.ok F.st (EV.callK F.ok X.d_spread.k (F.glob X.g_spread) (EVs.cons F.name EVs.nil) (spread_ok X F.ok (by lia)))) ?_
    refine SS.one (S1.assign F.ok F.st (d := .int (topI r g b : Int)) (EV.mcall (GetM.lst PySem.F.slot_list_index PySem.F.type_list_index) F.name (EVs.cons (EV.callB (F.boot X.max_ boot_max) (EVs.cons F.name EVs.nil) (CallOk.maxL F.ok (ns := [r, g, b]) (M := max r (max g b)) (by simp; lia) (by simp; omega))) EVs.nil) (CallOk.index (by simp; omega) (by simp)))) ?_
    refine SS.one (S1.assign F.ok F.st (d := .int (wayI r g b)) (EV.bin BinOk.subI (EV.bin BinOk.addI (EV.bin (BinOk.mulI ?_) (EV.bin (BinOk.mulI ?_) EV.cInt F.name) F.name) (EV.item (ds := [.int r, .int g, .int b]) F.name (EV.bin (BinOk.modI (by decide)) (EV.bin BinOk.addI F.name EV.cInt) EV.cInt) (m0 _).1 (by have := m0 ((topI r g b : Int) + 1); omega) (part_at r g b (m0 _).1 (m0 _).2)))
      (EV.item (ds := [.int r, .int g, .int b]) F.name (EV.bin (BinOk.modI (by decide)) (EV.bin BinOk.addI F.name EV.cInt) EV.cInt) (m0 _).1 (by have := m0 ((topI r g b : Int) + 2); omega) (part_at r g b (m0 _).1 (m0 _).2)))) ?_
    · exact mulOk (by grind)
    · exact mulOk (by simp)
    · refine SS.cons (N1 := fun _ => False) (S1.ret (EV.bin (BinOk.divI (by lia) (PyProof.noPylong_small (by grind))) (EV.bin (BinOk.mulI ?_) (EV.bin (BinOk.modI ?_) F.name (EV.bin (BinOk.mulI ?_) EV.cInt F.name)) F.name) F.name) rfl) (fun _ h => h.elim)
      · refine mulOk ?_
        have a1 : 0 ≤ (wayI r g b).fmod (6 * spr r g b) := Int.fmod_nonneg_of_pos _ (by lia)
        have a2 : (wayI r g b).fmod (6 * spr r g b) < 6 * spr r g b := Int.fmod_lt_of_pos _ (by omega)
        (clear hs; omega)
      · lia
      · exact mulOk (by simp)
  · obtain ⟨a1, a2, rfl⟩ := len2 h; rfl

-- LEADS
noncomputable def leadP (d : Int) (runs : List Int) (b : Int) : List Int × Int :=
  if d.fmod 4 = 0 then ((List.range ((d.fdiv 4).fmod 4).toNat).map (fun j => (d.fdiv (4 ^ (2 + j))).fmod 4), (d.fdiv 1024).fmod 5)
  else if d.fmod 4 = 1 then (runs.reverse, b)
  else if d.fmod 4 = 2 then (runs.reverse, b + 1)
  else (runs.reverse.map (· + 1), b)
theorem pow4 (i : Nat) (h : i < 3) : (4 : Int) ^ (2 + i) ≠ 0 ∧ ((4 : Int) ^ (2 + i)).natAbs < 1073741824 := by
  have : i = 0 ∨ i = 1 ∨ i = 2 := by lia
  rcases this with rfl | rfl | rfl <;> decide
theorem BinOk.powN {a n : Int} {m : Nat} (hn : n = (m : Int)) (hn2 : m ≤ 1000000) (ha : a.natAbs < 2 ^ 64) : BinOk C (binaryOp .Pow) (.int a) (.int n) (.int (a ^ m)) := by
  subst hn
  exact BinOk.powI (by simp) (by lia) ha
theorem lead_ok (X : KD P.K) (O : CxOk C k) (hr : k < 880) {d : Int} {runs : List Int} {b : Int} (hl : runs.length ≤ 3) : CallOk C (.ref 133) [.int d, D.ints runs, .int b] (D.lead (leadP d runs b).1 (leadP d runs b).2) := by
  have m0 : ∀ a : Int, 0 ≤ a.fmod 4 ∧ a.fmod 4 < 4 := fun a => ⟨Int.fmod_nonneg_of_pos _ (by decide), Int.fmod_lt_of_pos _ (by decide)⟩
  refine CallOk.dfn O (by lia) X.d_lead (names := ["d", "runs", "behind"]) (fun C' F _ => ?_) (fun vs doc pm an ct h => ?_) rfl rfl (by decide) (by decide)
  · have hm := m0 (d.fdiv 4)
    refine SS.cons (N1 := fun G => G = Γof ((["d", "runs", "behind"] : List Str).zip [.int d, D.ints runs, .int b]) ∧ d.fmod 4 ≠ 0)
      (S1.ite (TV.cmp BinOk.eqI (EV.bin (BinOk.modI (by decide)) F.nameC EV.cInt) EV.cInt) (fun hb => SS.cons (N1 := fun _ => False) (S1.ret (EV.list (ds := [D.ints ((List.range ((d.fdiv 4).fmod 4).toNat).map (fun j => (d.fdiv (4 ^ (2 + j))).fmod 4)), .int ((d.fdiv 1024).fmod 5)])
        (EVs.cons ?_ (EVs.cons (EV.bin (BinOk.modI (by decide)) (EV.bin (BinOk.divI (by decide) (PyProof.noPylong_small (by decide))) F.nameC EV.cInt) EV.cInt) EVs.nil)) (sizes _ (by simp))) ?_) (fun _ h => h.elim)) (fun hb => SS.nil ⟨rfl, by simpa using hb⟩)) (fun G hG => ?_)
    · unfold D.ints
      rw [List.map_map]
      refine EV.compR F.ok F.cm (F.comp [("d", C'.L + 1)]) (n := ((d.fdiv 4).fmod 4).toNat) (a := 0) (b := (d.fdiv 4).fmod 4) (Γ := Γof ((["d", "runs", "behind"] : List Str).zip [.int d, D.ints runs, .int b])) (by simp) (small_one (by simp) (by simp) (by omega) (by omega))
        (EV.callT (F.boot X.range_ boot_range) (EVs.cons (EV.bin (BinOk.modI (by decide)) (EV.bin (BinOk.divI (by decide) (PyProof.noPylong_small (by decide))) F.nameC EV.cInt) EV.cInt) EVs.nil) CallOk.range1) _ (by omega) (fun C2 B i hi => ?_)
      · have hp := pow4 i (by omega)
        exact EV.bin (BinOk.modI (by decide)) (EV.bin (BinOk.divI hp.1 (PyProof.noPylong_small hp.2)) (B.cell F (d := .int d) rfl) (EV.bin (BinOk.powN (n := 2 + (0 + (i : Int))) (m := 2 + i) (by simp) (by (clear hp; omega)) (by decide)) EV.cInt (EV.bin BinOk.addI EV.cInt (B.name F)))) EV.cInt
    · have hb' : d.fmod 4 = 0 := by simpa using hb
      unfold leadP; rw [if_pos hb']
    obtain ⟨rfl, n0⟩ := hG
    have hrev : pickD (runs.map D.int) none none (some (-1)) = (runs.reverse).map D.int := by rw [pick_rev _ (by simpa using hl), List.map_reverse]
    refine SS.cons (N1 := fun G => G = Γof ((["d", "runs", "behind"] : List Str).zip [.int d, D.ints runs, .int b]) ∧ d.fmod 4 ≠ 1)
      (S1.ite (TV.cmp BinOk.eqI (EV.bin (BinOk.modI (by decide)) F.nameC EV.cInt) EV.cInt) (fun hb => SS.cons (N1 := fun _ => False) (S1.ret (EV.list (EVs.cons (EV.sliceE hrev F.name .no .no (.so (EV.neg EV.cInt)) (by decide) (by simp; lia)) (EVs.cons F.name EVs.nil)) (sizes _ (by simp))) ?_) (fun _ h => h.elim)) (fun hb => SS.nil ⟨rfl, by simpa using hb⟩)) (fun G hG => ?_)
    · have hb' : d.fmod 4 = 1 := by simpa using hb
      unfold leadP; rw [if_neg n0, if_pos hb']
    obtain ⟨rfl, n1⟩ := hG
    refine SS.cons (N1 := fun G => G = Γof ((["d", "runs", "behind"] : List Str).zip [.int d, D.ints runs, .int b]) ∧ d.fmod 4 ≠ 2)
      (S1.ite (TV.cmp BinOk.eqI (EV.bin (BinOk.modI (by decide)) F.nameC EV.cInt) EV.cInt) (fun hb => SS.cons (N1 := fun _ => False) (S1.ret (EV.list (EVs.cons (EV.sliceE hrev F.name .no .no (.so (EV.neg EV.cInt)) (by decide) (by simp; omega)) (EVs.cons (EV.bin BinOk.addI F.name EV.cInt) EVs.nil)) (sizes _ (by simp))) ?_) (fun _ h => h.elim)) (fun hb => SS.nil ⟨rfl, by simpa using hb⟩)) (fun G hG => ?_)
    · have hb' : d.fmod 4 = 2 := by simpa using hb
      unfold leadP; rw [if_neg n0, if_neg n1, if_pos hb']
    obtain ⟨rfl, n2⟩ := hG
    refine SS.cons (N1 := fun _ => False) (S1.ret (EV.list (ds := [D.ints (runs.reverse.map (· + 1)), .int b]) (EVs.cons ?_ (EVs.cons F.name EVs.nil)) (sizes _ (by simp))) ?_) (fun _ h => h.elim)
    · unfold D.ints
      rw [List.map_map]
      exact EV.compL F.ok F.cm (F.comp []) runs.reverse D.int _ (Γ := Γof ((["d", "runs", "behind"] : List Str).zip [.int d, D.ints runs, .int b])) (EV.sliceE hrev F.name .no .no (.so (EV.neg EV.cInt)) (by decide) (by simp; omega)) (by simp; lia)
        (fun C2 B a ha => EV.bin BinOk.addI (B.name F) EV.cInt)
    · unfold leadP; rw [if_neg n0, if_neg n1, if_neg n2]
  · obtain ⟨a1, a2, a3, rfl⟩ := len3 h; rfl
end
end Mine
end

section
open PySem PySem.W PyProof.Rows PySem.Calls
set_option maxRecDepth 100000
namespace Mine

-- TEXTS
noncomputable def sp : Str := " "
noncomputable def tb : Str := "\t"
noncomputable def tl : Str := "x \t"
noncomputable def nl : Str := ""
noncomputable def runS (r : Int) : Str := Txt.mul sp r ++ tb
noncomputable def textP (runs : List Int) (b : Int) : Str := (Txt.join nl (runs.map runS) ++ Txt.mul sp b) ++ tl
noncomputable def textL (runs : List Int) (b : Int) : List Nat := (runs.flatMap fun r => List.replicate r.toNat 32 ++ [9]) ++ (List.replicate b.toNat 32 ++ [120, 32, 9])
theorem cps_app (a b : Str) : (a ++ b).cps.toList = a.cps.toList ++ b.cps.toList := by
  show (Str.append a b).cps.toList = _
  unfold Str.append
  simp
theorem len_cps (a : Str) : a.length = a.cps.toList.length := by unfold Str.length; simp
theorem glue_fold : ∀ (l : List Str) (acc : Array Nat), (l.foldl (fun acc p => acc ++ nl.cps ++ p.cps) acc).toList = acc.toList ++ l.flatMap fun p => p.cps.toList
  | [], acc => by simp
  | x :: r, acc => by
    rw [List.foldl_cons, glue_fold r, List.flatMap_cons]
    have : nl.cps = #[] := rfl
    rw [this]
    simp
theorem join_cps (l : List Str) : (Txt.join nl l).cps.toList = l.flatMap fun p => p.cps.toList := by
  show (Builtin.Str.glued nl l).cps.toList = _
  unfold Builtin.Str.glued
  cases l with
  | nil => rfl
  | cons x r =>
    show (r.foldl (fun acc p => acc ++ nl.cps ++ p.cps) x.cps).toList = _
    rw [glue_fold, List.flatMap_cons]
theorem runS_cps (r : Int) : (runS r).cps.toList = List.replicate r.toNat 32 ++ [9] := by
  unfold runS
  rw [cps_app]
  have : sp = ⟨#[32]⟩ := rfl
  rw [this, mul_one_list]
  rfl
theorem textP_cps (runs : List Int) (b : Int) : (textP runs b).cps.toList = textL runs b := by
  unfold textP textL
  rw [cps_app, cps_app, join_cps, List.flatMap_map]
  have : sp = ⟨#[32]⟩ := rfl
  rw [this, mul_one_list, List.append_assoc]
  congr 1
  congr 1
  funext r
  exact runS_cps r

theorem fold_len (sep : Str) (hs : sep.length = 0) : ∀ (l : List Str) (acc : Nat), (∀ x ∈ l, x.length ≤ 20) → l.foldl (fun a x => a + x.length + sep.length) acc ≤ acc + 20 * l.length
  | [], acc, _ => by simp
  | x :: r, acc, h => by
    rw [List.foldl_cons, List.length_cons]
    have h1 := fold_len sep hs r (acc + x.length + sep.length) (fun y hy => h y (.tail _ hy))
    have h2 := h x (.head _)
    lia
theorem runS_len {r : Int} (h1 : r ≤ 8) : (runS r).length ≤ 20 := by
  rw [len_cps, runS_cps, List.length_append, List.length_replicate]
  simp; lia
theorem join_fits {runs : List Int} {b : Int} (h : LeadSm runs b) : JoinOk nl (runs.map runS) = true := by
  unfold JoinOk
  have h1 : (runs.map runS).toArray.foldl (fun a x => a + x.length + nl.length) 0 ≤ 0 + 20 * (runs.map runS).length := by
    rw [List.foldl_toArray]
    exact fold_len nl rfl _ _ (fun x hx => by obtain ⟨r, hr, rfl⟩ := List.mem_map.mp hx; exact runS_len (h.r r hr).2)
  have h2 := h.len
  rw [List.length_map] at h1
  unfold Builtin.Str.tooLong
  rw [Bool.not_eq_true', decide_eq_false_iff_not, sizeLine_eq]
  lia
theorem textL_len {runs : List Int} {b : Int} (h : LeadSm runs b) : (textL runs b).length ≤ 60 := by
  have hr : ∀ l : List Int, (∀ r ∈ l, 0 ≤ r ∧ r ≤ 8) → (l.flatMap fun r => List.replicate r.toNat 32 ++ [9]).length ≤ 9 * l.length := by
    intro l
    induction l with
    | nil => intro _; simp
    | cons r l ih =>
      intro h
      have h1 := ih fun x hx => h x (.tail _ hx)
      have h2 := h r (.head _)
      rw [List.flatMap_cons, List.length_append, List.length_append, List.length_replicate, List.length_singleton, List.length_cons]
      lia
  have h1 := hr runs h.r
  have h2 := h.len
  have h3 := h.b
  unfold textL
  have e3 : ([120, 32, 9] : List Nat).length = 3 := rfl
  rw [List.length_append, List.length_append, List.length_replicate, e3]
  lia

structure KT (K : Frag) : Prop where
  d_text : IsDef K 138 "_law_text" "_law_text" (stm 12) .none .none (.ref 137)

section
variable {P : Wd} {C : Cx P} {Γ Γ' : GEnv} {k : Nat}
theorem mulS_ok {r : Int} (h0 : 0 ≤ r) (h8 : r ≤ 100) : MulOk sp r := by
  have hl : sp.length = 1 := rfl
  refine ⟨?_, fun _ _ => ?_, fun _ _ => ?_⟩
  · simp; lia
  · rw [hl]
    have : (1 : Int) ≤ (2 ^ 63 - 1) / r := by
      by_cases hr : r = 0
      · (rename_i q1; clear q1 h8 h0; (subst_vars; omega))
      · exact (Int.le_ediv_iff_mul_le (by (rename_i q2 q1; clear q1 q2; lia))).mpr (by lia)
    lia
  · unfold Builtin.Str.tooLong
    rw [hl, decide_eq_false_iff_not, sizeLine_eq]
    (clear h0; lia)
theorem text_ok (X : KT P.K) (O : CxOk C k) (hr : k < 880) {runs : List Int} {b : Int} (hl : LeadSm runs b) : CallOk C (.ref 138) [D.lead runs b] (.str (textP runs b)) := by
  have l1 : (Txt.join nl (runs.map runS)).length + (Txt.mul sp b).length + tl.length ≤ 60 := by
    have h1 := textL_len hl
    rw [← textP_cps] at h1
    unfold textP at h1
    rw [cps_app, cps_app, List.length_append, List.length_append] at h1
    rw [len_cps, len_cps, len_cps]
    exact h1
  refine CallOk.dfn O (by lia) X.d_text (names := ["lead"]) (fun C' F _ => ?_) (fun vs doc pm an ct h => ?_) rfl rfl (by decide) (by decide)
  · refine SS.cons (N1 := fun _ => False) (S1.ret (EV.bin (BinOk.addS ?_) (EV.bin (BinOk.addS ?_) (EV.mcall (GetM.str (x := nl) PySem.F.slot_str_join PySem.F.type_str_join) EV.cStr (EVs.cons (d := .lst ((runs.map runS).map .str)) ?_ EVs.nil) (CallOk.join (join_fits hl)))
      (EV.bin (BinOk.mulS (mulS_ok hl.b0 (by have := hl.b; lia))) (EV.cStr (x := sp)) (EV.item (ds := [D.ints runs, .int b]) (d := .int b) F.name EV.cInt (by decide) (by decide) rfl))) (EV.cStr (x := tl))) rfl) (fun _ h => h.elim)
    · rw [sizeLine_eq, len_cps, cps_app, List.length_append, ← len_cps, ← len_cps]; lia
    · rw [sizeLine_eq]; lia
    · rw [List.map_map]
      exact EV.compL F.ok F.cm (F.comp []) runs D.int _ (EV.item (ds := [D.ints runs, .int b]) (d := D.ints runs) F.name EV.cInt (by decide) (by decide) rfl) (by have := hl.len; lia)
        (fun C2 B r hr => EV.bin (BinOk.addS (a := Txt.mul sp r) (b := tb) (by have := runS_len (hl.r r hr).2; unfold runS at this; rw [len_cps, cps_app, List.length_append, ← len_cps, ← len_cps] at this; rw [sizeLine_eq]; lia)) (EV.bin (BinOk.mulS (mulS_ok (hl.r r hr).1 (by have := (hl.r r hr).2; lia))) (EV.cStr (x := sp)) (B.name F)) (EV.cStr (x := tb)))
  · obtain ⟨a1, rfl⟩ := len1 h; rfl
end
end Mine
end

section
open PySem PySem.W PyProof.Rows PySem.Calls
set_option maxRecDepth 100000
namespace Mine

-- THE SCAN
structure WSt where
  n : Nat
  nt : Nat
  b : Nat
  cnt : List Int
noncomputable def bump (cnt : List Int) (b : Nat) : List Int :=
  let c := if cnt.length ≤ b then cnt ++ List.replicate (b - cnt.length + 1) 0 else cnt
  c.set b (c.getD b 0 + 1)
noncomputable def stepW (c : Nat) (st : WSt) : WSt := if c = 32 then ⟨st.n + 1, st.nt, st.b + 1, st.cnt⟩ else ⟨st.n + 1, st.nt + 1, 0, bump st.cnt st.b⟩
noncomputable def scanW : List Nat → WSt → WSt
  | [], st => st
  | c :: r, st => if c = 32 ∨ c = 9 then scanW r (stepW c st) else st
noncomputable def wspOf (cps : List Nat) : Wsp :=
  let st := scanW cps ⟨0, 0, 0, []⟩
  ⟨st.n, st.nt, st.cnt, st.b, decide (st.cnt.length ≤ 1)⟩

theorem bump_len (cnt : List Int) (b : Nat) : (bump cnt b).length ≤ max cnt.length (b + 1) := by
  unfold bump
  simp only
  split
  · rw [List.length_set, List.length_append, List.length_replicate]; grind
  · rw [List.length_set]; (rename_i q1; clear q1; lia)

section
variable {P : Wd} {C : Cx P} {Γ Γ' : GEnv} {k : Nat} {kl : Led} {m : Str → Option Value} {fz mu : Led} {s : Shared} {N : GEnv → Prop} {R : D → Prop} {B : GEnv → Prop}

/-- [d] * n -/
theorem fold_one (v : Value) : ∀ (k : Nat) (acc : Array Value), (List.replicate k #[v]).foldl (fun x1 x2 => x1 ++ x2) acc = (acc.toList ++ List.replicate k v).toArray
  | 0, acc => by simp
  | k + 1, acc => by rw [List.replicate_succ, List.foldl_cons, fold_one v k]; simp [List.replicate_succ]
theorem Reps.rep {v : Value} {d : D} (h : Rep fz v d) : ∀ k, Reps fz (List.replicate k v) (List.replicate k d)
  | 0 => .nil
  | k + 1 => by rw [List.replicate_succ, List.replicate_succ]; exact .cons h (Reps.rep h k)
theorem BinOk.mulL1 {d : D} {n : Int} (h0 : 0 ≤ n) (h1 : n ≤ 1000000) : BinOk C (binaryOp .Mult) (.lst [d]) (.int n) (.lst (List.replicate n.toNat d)) := by
  intro kl m fz mu s Q v1 v2 hS r1 r2 hQ
  obtain ⟨a, vs, j, rfl, hm, q⟩ := r1.lst_inv
  obtain ⟨v, rfl, hv⟩ := q.c1
  obtain ⟨t, rfl⟩ := r2.int_inv
  obtain ⟨mf, news, F, N, k1, k2, c1, c2, c3⟩ := hS.opn
  have hz : (#[v] : Array Value).size * n.toNat ≤ 2 ^ 24 := by
    have : (#[v] : Array Value).size = 1 := rfl
    rw [this, Nat.one_mul]; lia
  have hlo : -(2 ^ 63 : Int) ≤ n := by lia
  have hhi : n < 2 ^ 63 := by lia
  have hget := hS.at_ hm
  refine mul_list (items := #[v]) (k := j) F N hget hlo hhi hz fun h' F' N' => ?_
  have e : List.foldl (fun x1 x2 => x1 ++ x2) #[] (List.replicate (if (#[v] : Array Value).isEmpty = true then 0 else n.toNat) #[v]) = (List.replicate n.toNat v).toArray := by
    rw [fold_one]; simp
  rw [e] at N'
  exact hQ _ _ _ (List.subset_cons_self _ _) (c2 h' s.toks _ _ F' N' fun p hp => News.lt N p hp) (.lst (n := 0) (.head _) ((Reps.rep hv _).mono (List.subset_cons_self _ _)))

/-- two names whose stores are swapped -/
theorem S1.swap2 (O : CxOk C k) {x y : Str} {elts : List Expr} {kk : Nat} {p pos : Pos} {e : Expr} {d1 d2 : D} (hx : CanSt C x) (hy : CanSt C y) (he : EV C Γ e (.tup [d1, d2]))
    (hw : swappedStores [.Tuple elts kk p] e C.env = pure (some [x, y])) (hs : ∀ env, swapsWithSole [.Tuple elts kk p] e pos.line env = pure false := by intro _; rfl) :
    S1 C Γ (.Assign [.Tuple elts kk p] e pos) (fun g => g = (Γ.set y d2).set x d1) R B := by
  intro kl m fz mu s Q hE hS q1 q2 q3
  refine Assign_Tuple_swapped (names := [x, y]) (he hE hS fun fz1 s1 v1 k1 S1 r1 => ?_) (hs _) hw
  obtain ⟨a, vs, n, rfl, m1, rs⟩ := r1.tup_inv
  obtain ⟨u1, u2, rfl, h1, h2⟩ := rs.c2
  obtain ⟨mf, news, F, N, n1, n2, c1, c2, c3⟩ := S1.opn
  refine unpackItemsN_ F N (S1.isTup m1) O.hh rfl fun h' F' N' => ?_
  have S1' := c1 h' s1.toks F' N'
  refine assignInOrder_cons (bindName_ (store_d O hy (hE.mono k1) S1' h2 fun m2 mu2 s2 E2 S2 => ?_))
  refine assignInOrder_cons (bindName_ (store_d O hx E2 S2 h1 fun m3 mu3 s3 E3 S3 => assignInOrder_nil (q1 _ _ _ _ _ k1 rfl E3 S3)))

noncomputable def scanBody : List Stmt := match (bodyD (mth 1)).getD 4 (.Pass ⟨0, 0, 0, 0⟩) with
  | .For _ _ b _ _ => b
  | _ => []
theorem chr_eq (c x : Nat) {y : Str} (hy : y = ⟨#[x]⟩) : ((⟨#[c]⟩ : Str) == y) = decide (c = x) := by
  subst hy
  by_cases h : c = x
  · subst h; simp
  · rw [decide_eq_false h]
    exact beq_eq_false_iff_ne.mpr fun e => h (by injection e with e; simpa using e)
/-- a state of the scan in the names -/
noncomputable def RW (x : Addr) (st : WSt) (G : GEnv) : Prop := G "n" = some (.d (.int st.n)) ∧ G "nt" = some (.d (.int st.nt)) ∧ G "b" = some (.d (.int st.b)) ∧ (∃ a, G "count" = some (.ml a (st.cnt.map .int))) ∧
  G "S" = some (.d (.str sp)) ∧ G "T" = some (.d (.str tb)) ∧ G "self" = some (.d (.val (.ref x)))
noncomputable def lenI (l : List Int) : Int := l.length

variable {qual : Str} {f : Addr} {cd : Value}
theorem scan_body (hlen : nsIn P.K mainGlobals "len" = some none) (F : Fd C k qual (scD (mth 1)) f cd) {x : Addr} {c : Nat} {rest : List Nat} {st fin : WSt} {i : Nat} {G : GEnv} (h : scanW (c :: rest) st = fin) (hi : i ≤ 1000) (hb : st.b ≤ i) (hc : st.cnt.length ≤ i)
    (hG : RW x st G) (hch : G "ch" = some (.d (.str ⟨#[c]⟩))) :
    SS C G scanBody (fun G' => ∃ st', scanW rest st' = fin ∧ st'.b ≤ i + 1 ∧ st'.cnt.length ≤ i + 1 ∧ RW x st' G') (fun _ => False) (fun G' => RW x fin G') := by
  obtain ⟨g1, g2, g3, ⟨a, g4⟩, g5, g6, g7⟩ := hG
  have ecnt : (st.cnt.map D.int).length = st.cnt.length := List.length_map _
  refine SS.cons (N1 := fun G' => ∃ st', scanW rest st' = fin ∧ st'.b ≤ i + 1 ∧ st'.cnt.length ≤ i + 1 ∧ RW x st' G')
    (S1.ite (b := decide (c = 32)) (by rw [← chr_eq c 32 (y := sp) rfl]; exact TV.cmp BinOk.eqS (F.name hch) (F.name g5)) (fun h1 => ?_) (fun h1 => ?_)) (fun G hG => SS.nil hG)
  · have h1 := of_decide_eq_true h1
    refine SS.one (S1.assign F.ok F.st (d := .int ((st.n + 1 : Nat) : Int)) (EV.bin BinOk.addI (F.name g1) EV.cInt)) ?_
    refine SS.one (S1.assign F.ok F.st (d := .int ((st.b + 1 : Nat) : Int)) (EV.bin BinOk.addI (F.name g3) EV.cInt)) (SS.nil ⟨⟨st.n + 1, st.nt, st.b + 1, st.cnt⟩, ?_, by show st.b + 1 ≤ _; simp [*], by show st.cnt.length ≤ _; lia, rfl, g2, rfl, ⟨a, g4⟩, g5, g6, g7⟩)
    rw [← h, scanW, if_pos (.inl h1), stepW, if_pos h1]
  · have h1 := of_decide_eq_false h1
    refine SS.cons (N1 := fun G' => ∃ st', scanW rest st' = fin ∧ st'.b ≤ i + 1 ∧ st'.cnt.length ≤ i + 1 ∧ RW x st' G')
      (S1.ite (b := decide (c = 9)) (by rw [← chr_eq c 9 (y := tb) rfl]; exact TV.cmp BinOk.eqS (F.name hch) (F.name g6)) (fun h2 => ?_) (fun h2 => ?_)) (fun G hG => SS.nil hG)
    · have h2 := of_decide_eq_true h2
      refine SS.one (S1.assign F.ok F.st (d := .int ((st.n + 1 : Nat) : Int)) (EV.bin BinOk.addI (F.name g1) EV.cInt)) ?_
      refine SS.one (S1.assign F.ok F.st (d := .int ((st.nt + 1 : Nat) : Int)) (EV.bin BinOk.addI (F.name g2) EV.cInt)) ?_
      have hlenE : ∀ (G : GEnv) (p1 p2 p3 : Pos), G "count" = some (.ml a (st.cnt.map .int)) → True := fun _ _ _ _ _ => trivial
      refine SS.cons (N1 := fun G' => G' "n" = some (.d (.int ((st.n + 1 : Nat) : Int))) ∧ G' "nt" = some (.d (.int ((st.nt + 1 : Nat) : Int))) ∧ G' "b" = some (.d (.int st.b)) ∧ (∃ a, G' "count" = some (.ml a ((if st.cnt.length ≤ st.b then st.cnt ++ List.replicate (st.b - st.cnt.length + 1) 0 else st.cnt).map .int))) ∧ G' "S" = some (.d (.str sp)) ∧ G' "T" = some (.d (.str tb)) ∧ G' "self" = some (.d (.val (.ref x))))
        (S1.ite (b := decide ((st.cnt.length : Int) ≤ st.b)) (TV.peek F.cm (x := "count") (a := a) (ds := st.cnt.map .int) g4 (TV.cmp BinOk.geI (F.name g3) (EV.callB (F.boot hlen boot_len) (EVs.cons (F.name (d := .lst (st.cnt.map .int))) EVs.nil) (CallOk.lenL' ecnt (by lia))))) (fun h3 => ?_) (fun h3 => SS.nil ⟨rfl, rfl, g3, ⟨a, ?_⟩, g5, g6, g7⟩)) (fun G hG => ?_)
      · have h3 := of_decide_eq_true h3
        have h3' : st.cnt.length ≤ st.b := by (rename_i q1; clear q1; lia)
        have ez : List.replicate ((st.b : Int) - (st.cnt.length : Int) + 1).toNat (D.int 0) = (List.replicate (st.b - st.cnt.length + 1) (0 : Int)).map .int := by
          rw [List.map_replicate]
          congr 1; grind
        refine SS.cons (N1 := fun G' => G' "n" = some (.d (.int ((st.n + 1 : Nat) : Int))) ∧ G' "nt" = some (.d (.int ((st.nt + 1 : Nat) : Int))) ∧ G' "b" = some (.d (.int st.b)) ∧ (∃ a, G' "count" = some (.ml a ((if st.cnt.length ≤ st.b then st.cnt ++ List.replicate (st.b - st.cnt.length + 1) 0 else st.cnt).map .int))) ∧ G' "S" = some (.d (.str sp)) ∧ G' "T" = some (.d (.str tb)) ∧ G' "self" = some (.d (.val (.ref x))))
          (S1.assignAddM F.ok F.st F.loc F.nc (a := a) (ds := st.cnt.map .int) g4 (EV.bin (BinOk.mulL1 (n := (st.b : Int) - (st.cnt.length : Int) + 1) (by (rename_i q1; clear q1 h3; lia)) (by lia)) (EV.list (EVs.cons EV.cInt EVs.nil) (sizes _ (by simp))) (EV.peek F.cm (x := "count") (a := a) (ds := st.cnt.map .int) g4 rfl (EV.bin BinOk.addI (EV.bin BinOk.subI (F.name g3) (EV.callB (F.boot hlen boot_len) (EVs.cons (F.name (d := .lst (st.cnt.map .int))) EVs.nil) (CallOk.lenL' ecnt (by omega)))) EV.cInt)))
            (by rw [List.length_replicate, ecnt]; (rename_i q1; clear q1 h3; lia)) (fun l => ⟨rfl, rfl, g3, ⟨l, ?_⟩, g5, g6, g7⟩)) (fun G hG => SS.nil hG)
        rw [if_pos h3', ez, ← List.map_append]; rfl
      · have h3 := of_decide_eq_false h3
        rw [if_neg (by (rename_i q1; clear q1; lia))]; exact g4
      · obtain ⟨k1, k2, k3, ⟨a2, k4⟩, k5, k6, k7⟩ := hG
        generalize hc2 : (if st.cnt.length ≤ st.b then st.cnt ++ List.replicate (st.b - st.cnt.length + 1) 0 else st.cnt) = cn at k4
        have hb2 : st.b < cn.length := by rw [← hc2]; split <;> (try rw [List.length_append, List.length_replicate]) <;> (first | grind | lia | omega)
        have hl2 : cn.length ≤ i + 1 := by rw [← hc2]; split <;> (try rw [List.length_append, List.length_replicate]) <;> (first | (clear hc h2 hc2; (subst_vars; lia)) | lia | omega)
        have ecn : (cn.map D.int).length = cn.length := List.length_map _
        have hat : (cn.map D.int)[((st.b : Nat) : Int).toNat]? = some (.int (cn.getD st.b 0)) := by
          rw [List.getElem?_map, List.getD_eq_getElem?_getD]
          have : ((st.b : Nat) : Int).toNat = st.b := by simp
          rw [this, List.getElem?_eq_getElem hb2]; rfl
        refine SS.one (S1.setItem F.ok (a := a2) k4 F.loc F.nc F.cm (d := .int (cn.getD st.b 0 + 1)) (EV.peek F.cm (x := "count") (a := a2) (ds := cn.map .int) k4 rfl (EV.bin BinOk.addI (EV.item (F.name (d := .lst (cn.map .int))) (F.name k3) (by simp) (by lia) hat) EV.cInt)) (F.name k3) (by omega) (by rw [ecn]; simp [*]) (by rw [ecn]; lia)) ?_
        refine SS.one (S1.assign F.ok F.st (d := .int ((0 : Nat) : Int)) EV.cInt) (SS.nil ⟨⟨st.n + 1, st.nt + 1, 0, bump st.cnt st.b⟩, ?_, Nat.zero_le _, ?_, k1, k2, rfl, ⟨a2, ?_⟩, k5, k6, k7⟩)
        · rw [← h, scanW, if_pos (.inr h2), stepW, if_neg h1]
        · have := bump_len st.cnt st.b
          show (bump st.cnt st.b).length ≤ _
          (clear hc2; lia)
        · show _ = some (Mine.G.ml a2 ((bump st.cnt st.b).map .int))
          unfold bump
          simp only
          rw [hc2, List.map_set]
          rfl
    · have h2 := of_decide_eq_false h2
      refine SS.cons (N1 := fun _ => False) (S1.brk ?_) (fun _ h => h.elim)
      rw [← h, scanW, if_neg (by simp [*])]
      exact ⟨g1, g2, g3, ⟨a, g4⟩, g5, g6, g7⟩
end
end Mine
end

section
open PySem PySem.W PyProof.Rows PySem.Calls
set_option maxRecDepth 100000
namespace Mine

structure SetOk (K : Frag) (name : Str) : Prop where
  t : takerIn K clsW name = some Option.none
structure ClsAt (K : Frag) (name x : Str) : Prop where
  e : ∃ mc t, typeIn K (.ref clsW) = some mc ∧ readsIn K clsW mc = true ∧ findCls K (.ref clsW) mc name = some (.val (.str x t))
structure KI (K : Frag) : Prop where
  len_ : nsIn K mainGlobals "len" = some Option.none
  tuple_ : nsIn K mainGlobals "tuple" = some Option.none
  g_W : nsIn K mainGlobals "Whitespace" = some (some (.ref 76))
  k_W : keepIn K (.ref 76) = true
  mkW : makesIn K 76 = true
  ini : findIn K (.ref 76) "__init__" = some (some (.ref 31))
  fn : isFn K (.ref 31) = true
  set_ : findIn K (.ref clsW) "__setattr__" = some (some (.builtin "object.__setattr__"))
  over : plainOver K clsW = true
  hasd : hasDictIn K clsW = true
  s_raw : SetOk K "raw"
  s_n : SetOk K "n"
  s_nt : SetOk K "nt"
  s_norm : SetOk K "norm"
  s_simple : SetOk K "is_simple"
  a_raw : AtOk K "raw"
  c_S : ClsAt K "S" sp
  c_T : ClsAt K "T" tb
  d_init : IsDef K 31 "__init__" "Whitespace.__init__" (mth 1) .none .none (.ref 30)
theorem boot_tuple : bootBuiltins "tuple" = some (.type "tuple") := by boot_fast

section
variable {P : Wd} {C : Cx P} {Γ Γ' : GEnv} {k : Nat} {kl : Led} {m : Str → Option Value} {fz mu : Led} {s : Shared} {N : GEnv → Prop} {R : D → Prop} {B : GEnv → Prop}

theorem EV.clsAttr (O : CxOk C k) {e : Expr} {name x : Str} {pos : Pos} (A : ClsAt P.K name x) (h : EV C Γ e (.val (.ref clsW)))
    (he : ∀ env, eval (.Attribute e name pos) env = (do let o ← eval e env; standAt pos.atName; let r ← holding [o] (getAttr o name true); letTemporaryGo e o r; pure r) := by intro _; with_unfolding_all rfl)
    (hg : LetGo e := by intro _ _; with_unfolding_all rfl) : EV C Γ (.Attribute e name pos) (.str x) := by
  intro kl m fz mu s Q hE hS hQ
  rw [he]
  refine wpAny_bind (h hE hS fun fz1 s1 v1 k1 S1 r1 => wpAny_bind (wpAny_standAt (wpAny_bind (wpAny_holding ?_))))
  obtain rfl := r1.val_inv
  obtain ⟨mc, t, a1, a2, a3⟩ := A.e
  obtain ⟨mf, F⟩ := S1.fr
  exact cls_val F O.X a1 a2 a3 rfl (wpAny_bind (wpAny_of_eq (hg _ _) (wpAny_pure (hQ _ _ _ k1 (S1.tok _) (.str _ _)))))

theorem dict_noml (es : List DictEntry) (n : Nat) : NoMl (dictOf es n) := ⟨(fun vs n q => by have := congrArg Obj.data q; cases this), (fun w q => by cases q)⟩

theorem setat (O : CxOk C k) (hcm : C.cm = none) {x dx : Addr} {es : List DictEntry} {n : Nat} {name : Str} {sl ap pos : Pos} {value : Expr} {d : D} (X : KI P.K) (K1 : SetOk P.K name) (hself : Γ "self" = some (.d (.val (.ref x)))) (hk : C.env.kindOf ("self" : Str) = some .local) (hl : C.env.cells.lookup ("self" : Str) = none)
    (hv : EV C Γ value d) (hE : EnvRep C kl m fz mu Γ) (hS : St C kl m fz mu s) (hx : (x, instObj clsW dx) ∈ fz) (hdx : (dx, dictOf es n) ∈ mu) (hkl : ∀ p ∈ kl, p.1 ≠ dx)
    (hput : ∀ hsh t v, putL name hsh (.str name t) v es = es ++ [⟨hsh, .str name t, v⟩]) (hn : putN name es n = n + 1) (hg : (getL name es).isSome = true) (hz : es.length + 1 ≤ 1000) {Q : Flow → Shared → Prop}
    (hQ : ∀ fz' s' v hsh t, fz ⊆ fz' → Rep fz' v d → EnvRep C kl m fz' (mset mu dx (dictOf (es ++ [⟨hsh, .str name t, v⟩]) (n + 1))) Γ → St C kl m fz' (mset mu dx (dictOf (es ++ [⟨hsh, .str name t, v⟩]) (n + 1))) s' → Q .next s')
    (hs : ∀ env, swapsWith value (some (.Attribute (.Name "self" sl) name ap)) pos.line env = pure false := by intro _; rfl) :
    wpAny (model P.prog P.w) C.A (exec (.Assign [.Attribute (.Name "self" sl) name ap] value pos) C.env) Q noE s := by
  refine plainObj_wpAny_Assign_Attribute (hv hE hS fun fz1 s1 v1 k1 S1 r1 => EV.name O hself hk hl (by decide) (hE.mono k1) S1 fun fz2 s2 v2 k2 S2 r2 => ?_) (hs _)
  obtain rfl := r2.val_inv
  obtain ⟨⟨mf, f1, F⟩, ⟨tb, T, N, A⟩, kp, wd⟩ := id S2
  have I : InstAt s2.heap x (instObj clsW dx) clsW (some (dictOf es n)) := ⟨S2.at_ (k2 (k1 hx)), rfl, rfl, S2.atM hdx⟩
  have hrest : ∀ p ∈ fz2 ++ (mdel mu dx ++ tb), p.1 ≠ dx := by
    intro p hp
    rcases List.mem_append.mp hp with h | h
    · exact A.2 p h (dx, dictOf es n) (List.mem_append_left _ hdx)
    · rcases List.mem_append.mp h with h | h
      · exact (mem_mdel.mp h).2
      · intro q
        have nd := A.1
        rw [List.map_append, List.nodup_append] at nd
        exact nd.2.2 dx (List.mem_map_of_mem hdx) p.1 (List.mem_map_of_mem h) q.symm
  have N2 : News C.g C.L s2.heap ((dx, dictOf es n) :: (fz2 ++ (mdel mu dx ++ tb))) := by
    intro p hp
    refine N p ?_
    rcases List.mem_cons.mp hp with rfl | hp
    · exact List.mem_append_right _ (List.mem_append_left _ hdx)
    · simp only [List.mem_append] at hp ⊢
      rcases hp with h | h | h
      · exact .inl h
      · exact .inr (.inl (mem_mdel.mp h).1)
      · exact .inr (.inr h)
  refine set_dict (es' := es ++ [⟨PyData.keyHash P.w.params name, .str name (s2.toks + 1), v1⟩]) (n' := n + 1) F O.X N2 I rfl X.set_ X.over K1.t X.hasd hg (by rw [hput, hn]) (Upd.head hrest) (by simp; lia) fun h' F' N' => ?_
  have E2 : EnvRep C kl m fz2 (mset mu dx (dictOf (es ++ [⟨PyData.keyHash P.w.params name, .str name (s2.toks + 1), v1⟩]) (n + 1))) Γ := ((hE.mono k1).mono k2).upd S2 hdx (dict_noml _ _)
  refine hQ fz2 _ v1 (PyData.keyHash P.w.params name) (s2.toks + 1) (fun _ h => k2 (k1 h)) (r1.mono k2) E2 ⟨⟨mf, ?_, F'⟩, ⟨tb, T, fun p hp => ?_, ?_⟩, fun p hp => mem_mset_ne (kp hp) (hkl p hp), wd⟩
  · unfold Fm at f1 ⊢; rw [hcm] at f1 ⊢; exact f1
  · refine N' p ?_
    rcases List.mem_append.mp hp with h | h
    · exact .tail _ (List.mem_append_left _ h)
    · rcases List.mem_append.mp h with h | h
      · rcases of_mem_mset h with ⟨rfl, _⟩ | ⟨h1, h2⟩
        · exact .head _
        · exact .tail _ (List.mem_append_right _ (List.mem_append_left _ (mem_mdel.mpr ⟨h1, h2⟩)))
      · exact .tail _ (List.mem_append_right _ (List.mem_append_right _ h))
  · refine ⟨by rw [List.map_append, mset_fst, ← List.map_append]; exact A.1, fun p hp q hq => ?_⟩
    rcases List.mem_append.mp hq with h | h
    · rcases of_mem_mset h with ⟨rfl, _⟩ | ⟨h1, h2⟩
      · exact hrest p (List.mem_append_left _ hp)
      · exact A.2 p hp q (List.mem_append_left _ h1)
    · exact A.2 p hp q (List.mem_append_right _ h)

theorem Fm.swap {mu' : Led} {mf1 mf2 : Str → Option Value} (g1 : Fm C m mu mf1) (g2 : Fm C m mu' mf2) : Fm C m mu mf2 := by
  unfold Fm at g1 g2 ⊢
  split
  · rename_i e; rw [e] at g2; exact g2
  · rename_i m0 e
    rw [e] at g1 g2
    exact ⟨g2.1, g1.2⟩
/-- back into the caller with one entry frozen -/
theorem St.back {kl0 mu' : Led} {s0 : Shared} {fz0 : Led} (h0 : St C kl0 m fz0 mu s0) (h : St C kl m fz mu' s) {a : Addr} {o : Obj} (ha : (a, o) ∈ mu') (hs : mu ⊆ mu') (hna : ∀ p ∈ mu, p.1 ≠ a) : St C kl0 m ((a, o) :: fz) mu s := by
  obtain ⟨mf1, g1, _⟩ := h0.F
  obtain ⟨⟨mf, f1, F⟩, ⟨tb, T, N, A⟩, kp, wd⟩ := h
  have Ap : Apart fz (mu ++ tb) := by
    refine ⟨?_, fun p hp q hq => A.2 p hp q ?_⟩
    · have nd := A.1
      rw [List.map_append, List.nodup_append] at nd ⊢
      refine ⟨h0.nodup, nd.2.1, fun a ha b hb => nd.2.2 a ?_ b hb⟩
      obtain ⟨p, hp, rfl⟩ := List.mem_map.mp ha
      exact List.mem_map_of_mem (hs hp)
    · rcases List.mem_append.mp hq with h | h
      · exact List.mem_append_left _ (hs h)
      · exact List.mem_append_right _ h
  refine ⟨⟨mf, g1.swap f1, F⟩, ⟨tb, T.mono (List.subset_cons_self _ _), fun p hp => N p ?_, Ap.cons fun q hq => ?_⟩, h0.kept, wd⟩
  · simp only [List.mem_append, List.mem_cons] at hp ⊢
    rcases hp with (rfl | h) | h | h
    · exact .inr (.inl ha)
    · exact .inl h
    · exact .inr (.inl (hs h))
    · exact .inr (.inr h)
  · rcases List.mem_append.mp hq with h | h
    · exact fun e => hna q h e.symm
    · have nd := A.1
      rw [List.map_append, List.nodup_append] at nd
      exact nd.2.2 a (List.mem_map_of_mem ha) q.1 (List.mem_map_of_mem h)

theorem St.up {A : Around} (h : St C kl m fz mu s) : St (C.up A) kl m fz mu s := ⟨h.F, h.N, h.kept, h.wd⟩
theorem St.down {A : Around} (h : St (C.up A) kl m fz mu s) : St C kl m fz mu s := ⟨h.F, h.N, h.kept, h.wd⟩

theorem rawattr (O : CxOk C k) (X : KI P.K) {x dx : Addr} {es : List DictEntry} {n : Nat} {e : Expr} {name : Str} {pos : Pos} {v : Value} (A : AtOk P.K name) (h : EV C Γ e (.val (.ref x))) (hE : EnvRep C kl m fz mu Γ) (hS : St C kl m fz mu s) (hx : (x, instObj clsW dx) ∈ fz) (hdx : (dx, dictOf es n) ∈ mu)
    (hg : getL name es = some (some v)) (hh : handedIn v = true) {Q : Value → Shared → Prop} (hQ : ∀ fz' s', fz ⊆ fz' → EnvRep C kl m fz' mu Γ → St C kl m fz' mu s' → Q v s')
    (he : ∀ env, eval (.Attribute e name pos) env = (do let o ← eval e env; standAt pos.atName; let r ← holding [o] (getAttr o name true); letTemporaryGo e o r; pure r) := by intro _; with_unfolding_all rfl)
    (hl : LetGo e := by intro _ _; with_unfolding_all rfl) : wpAny (model P.prog P.w) C.A (eval (.Attribute e name pos) C.env) Q noE s := by
  rw [he]
  refine wpAny_bind (h hE hS fun fz1 s1 v1 k1 S1 r1 => wpAny_bind (wpAny_standAt (wpAny_bind (wpAny_holding ?_))))
  obtain rfl := r1.val_inv
  obtain ⟨mf, F⟩ := S1.fr
  have I : InstAt s1.heap x (instObj clsW dx) clsW (some (dictOf es n)) := ⟨S1.at_ (k1 hx), rfl, rfl, S1.atM hdx⟩
  exact get_own F O.X I A.g A.h A.f rfl hg hh (wpAny_bind (wpAny_of_eq (hl _ _) (wpAny_pure (hQ _ _ k1 (hE.mono k1) (S1.tok _)))))

theorem scan_len : ∀ (l : List Nat) (st : WSt) (i : Nat), st.b ≤ i → st.cnt.length ≤ i → (scanW l st).cnt.length ≤ i + l.length
  | [], st, i, _, h => by unfold scanW; simp; omega
  | c :: r, st, i, h1, h2 => by
    unfold scanW
    rw [List.length_cons]
    split
    · have hb := bump_len st.cnt st.b
      have : (stepW c st).b ≤ i + 1 ∧ (stepW c st).cnt.length ≤ i + 1 := by
        unfold stepW
        split
        · exact ⟨by show st.b + 1 ≤ _; simp [*], by show st.cnt.length ≤ _; lia⟩
        · exact ⟨Nat.zero_le _, by show (bump st.cnt st.b).length ≤ _; grind⟩
      have := scan_len r (stepW c st) (i + 1) this.1 this.2
      lia
    · lia
theorem SG.run {t : Sem Flow} {Q : Flow → Shared → Prop} (hE : EnvRep C kl m fz mu Γ) (hS : St C kl m fz mu s) (h : SG C Γ t N (fun _ => False) (fun _ => False))
    (q1 : ∀ m' fz' mu' s' Γ', fz ⊆ fz' → N Γ' → EnvRep C kl m' fz' mu' Γ' → St C kl m' fz' mu' s' → Q .next s') : wpAny (model P.prog P.w) C.A t Q noE s :=
  h hE hS q1 (fun _ _ _ _ _ _ _ h _ _ => h.elim) (fun _ _ _ _ _ _ h _ _ => h.elim)
theorem init_ok (X : KI P.K) (O : CxOk C k) (hr : k < 870) {t : Str} (ha : t.cps.all (· < 128) = true) (hz : t.cps.size ≤ 500) : CallOk C (.ref 76) [.str t] (.ws (wspOf t.cps.toList)) := by
  intro kl m fz mu s Q vs hS hrv hQ
  obtain ⟨v, rfl, hv⟩ := hrv.c1
  obtain ⟨⟨mf, f1, F⟩, ⟨tb0, T, N, A⟩, kp, wd⟩ := id hS
  refine call_cls F O.X N X.mkW X.ini X.fn fun x dx h' F' N' l1 l2 => ?_
  obtain ⟨oc, od, doc, pm, an, ct, osl, ho⟩ := X.d_init.o
  have O1 : CxOk (C.up (C.A.under (.builtin "type.__call__" ⟨.ref 76 :: [v], []⟩))) (k + 1) := by
    obtain ⟨A₀, base, outer, B, hA⟩ := O.below
    refine ⟨⟨A₀, base, outer, B, ?_⟩, O.X, O.T, O.kind, O.fkind, O.fr, O.glob, O.loc, O.hh, ?_, ?_, O.ca, O.cnd⟩
    · show pushEnvs (Code.envs (.builtin "type.__call__" ⟨.ref 76 :: [v], []⟩)) C.A.frames = _
      rw [show Code.envs (.builtin "type.__call__" ⟨.ref 76 :: [v], []⟩) = [] from rfl]
      exact hA
    · have := O.dep
      show C.A.depth + Code.weight (.builtin "type.__call__" ⟨.ref 76 :: [v], []⟩) ≤ k + 1
      rw [show Code.weight (.builtin "type.__call__" ⟨.ref 76 :: [v], []⟩) = 1 from rfl]
      simp [*]
    · have := O.uni
      show C.A.units + Code.cUnits (.builtin "type.__call__" ⟨.ref 76 :: [v], []⟩) ≤ 10 * (k + 1)
      have : Code.cUnits (.builtin "type.__call__" ⟨.ref 76 :: [v], []⟩) ≤ 10 := Nat.le_of_ble_eq_true rfl
      lia
  have ltx : ∀ p ∈ fz ++ (mu ++ tb0), p.1 ≠ x := fun p hp => Nat.ne_of_lt (Nat.lt_trans (l1 p hp) l2)
  have SA : St (C.up (C.A.under (.builtin "type.__call__" ⟨.ref 76 :: [v], []⟩))) kl m ((x, instObj clsW dx) :: fz) ((dx, dictOf [] 0) :: mu) { s with heap := h' } := by
    refine ⟨⟨mf, f1.mono (List.subset_cons_self _ _), F'⟩, ⟨tb0, T.mono (List.subset_cons_self _ _), fun p hp => N' p ?_, ?_, ?_⟩, fun p hp => .tail _ (kp hp), wd⟩
    · simp only [List.mem_append, List.mem_cons] at hp ⊢
      rcases hp with (h | h) | (h | h) | h
      · exact .inl h
      · exact .inr (.inr (.inl h))
      · exact .inr (.inl h)
      · exact .inr (.inr (.inr (.inl h)))
      · exact .inr (.inr (.inr (.inr h)))
    · rw [List.cons_append, List.map_cons, List.nodup_cons]
      refine ⟨fun hm => ?_, A.1⟩
      obtain ⟨q, hq, e⟩ := List.mem_map.mp hm
      exact absurd (l1 q (List.mem_append_right _ hq)) (by rw [e]; exact Nat.lt_irrefl _)
    · intro p hp q hq
      rw [List.cons_append] at hq
      rcases List.mem_cons.mp hp with rfl | hp
      · rcases List.mem_cons.mp hq with rfl | hq
        · exact Nat.ne_of_gt l2
        · exact fun e => ltx q (List.mem_append_right _ hq) e.symm
      · rcases List.mem_cons.mp hq with rfl | hq
        · exact Nat.ne_of_lt (l1 p (List.mem_append_left _ hp))
        · exact A.2 p hp q hq
  have hmudx : ∀ p ∈ mu, p.1 ≠ dx := fun p hp => Nat.ne_of_lt (l1 p (List.mem_append_right _ (List.mem_append_left _ hp)))
  have hno : ∀ y a ds, Γg ((["self", "ws"] : List Str).zip [G.d (.val (.ref x)), .d (.str t)]) y ≠ some (.ml a ds) := by
    intro y a ds e
    rw [show ([G.d (.val (.ref x)), .d (.str t)] : List G) = ([D.val (.ref x), .str t] : List D).map .d from rfl, Γg_of] at e
    unfold Γof at e
    cases q : ((["self", "ws"] : List Str).zip [D.val (.ref x), .str t]).reverse.lookup y <;> rw [q] at e <;> cases e
  refine call_raw (C := C.up (C.A.under (.builtin "type.__call__" ⟨.ref 76 :: [v], []⟩))) (klc := mu) (names := ["self", "ws"]) (bs := [.ref x, v]) (gs := [.d (.val (.ref x)), .d (.str t)]) O1 (by lia) ho X.d_init.c (BindsTo.of_eq rfl) rfl SA (fun p hp => .tail _ hp)
    (fun mf h => f1.swap h) (.cons (Rep.val _) (.cons (hv.mono (List.subset_cons_self _ _)) .nil)) (fun y z a ds es e _ => absurd e (hno y a ds)) rfl (by decide) (by decide) (fun C' m' mu' s' Fr _ hmu E0 S0 => ?_) rfl rfl rfl
  have hx0 : (x, instObj clsW dx) ∈ (x, instObj clsW dx) :: fz := .head _
  have hd0 : (dx, dictOf [] 0) ∈ mu' := hmu (.head _)
  -- self.raw
  refine wpAny_execs_cons (setat Fr.ok Fr.cm (d := .str t) X X.s_raw rfl Fr.loc Fr.nc Fr.name E0 S0 hx0 hd0 hmudx (fun _ _ _ => rfl) rfl rfl (by simp) fun fz1 s1 v1 g1 t1 k1 r1 E1 Z1 => ?_)
  have hd1 : (dx, dictOf ([] ++ [⟨g1, .str "raw" t1, v1⟩]) (0 + 1)) ∈ mset mu' dx (dictOf ([] ++ [⟨g1, .str "raw" t1, v1⟩]) (0 + 1)) := mem_mset_self hd0
  have E1 := E1.addkl Z1 hd1 (dict_noml _ _)
  have Z1 := Z1.addkl hd1
  -- S, T
  refine wpAny_execs_cons (SG.run E1 Z1 (S1.swap2 (x := "S") (y := "T") Fr.ok Fr.st Fr.st (EV.tuple (EVs.cons (EV.clsAttr Fr.ok X.c_S (Fr.glob X.g_W)) (EVs.cons (EV.clsAttr Fr.ok X.c_T (Fr.glob X.g_W)) EVs.nil)) (sizes _ (by simp))) (by rw [Fr.en]; rfl)) (fun m2 fz2 mu2 s2 Γ2 k2 hΓ E2 Z2 => ?_))
  subst hΓ
  -- count
  refine wpAny_execs_cons (SG.run E2 Z2 (S1.assignL (N := fun G => ∃ l, G = (((Γg ((["self", "ws"] : List Str).zip [Mine.G.d (.val (.ref x)), .d (.str t)])).set "T" (.str tb)).set "S" (.str sp)).setM "count" l []) Fr.ok Fr.st Fr.nc EVs.nil (by simp) (fun l => ⟨l, rfl⟩)) (fun m3 fz3 mu3 s3 Γ3 k3 hΓ E3 Z3 => ?_))
  obtain ⟨lc, rfl⟩ := hΓ
  -- b = n = nt = 0
  refine wpAny_execs_cons (SG.run E3 Z3 (S1.assign3 (d := .int ((0 : Nat) : Int)) Fr.ok Fr.st Fr.st Fr.st EV.cInt) (fun m4 fz4 mu4 s4 Γ4 k4 hΓ E4 Z4 => ?_))
  subst hΓ
  -- the loop
  have hdv : (dx, dictOf ([] ++ [⟨g1, .str "raw" t1, v1⟩]) (0 + 1)) ∈ mu4 := Z4.kept (.head _)
  obtain ⟨tt, rfl⟩ := r1.str_inv
  refine wpAny_execs_cons (wpAny_For (rawattr Fr.ok X (v := .str t tt) X.a_raw (Fr.name (d := .val (.ref x))) E4 Z4 (k4 (k3 (k2 (k1 hx0)))) hdv rfl rfl fun fz5 s5 k5 E5 Z5 => wpAny_pyIter_ascii ha ?_) (fun _ => rfl))
  have Z5' := Z5.pushM { cls := .type "str_ascii_iterator", data := .fields #[.str t tt, .int 0 0] }
  have hin : ∀ p ∈ (dx, dictOf ([] ++ [⟨g1, .str "raw" t1, .str t tt⟩]) (0 + 1)) :: mu, p.1 ≠ s5.heap.objs.size := fun p hp => Z5.freshM p (Z5.kept hp)
  refine loop_gen (R := fun _ => False) (N := fun G => RW x (scanW t.cps.toList ⟨0, 0, 0, []⟩) G) Fr.ok Fr.st (itr_str Fr.ok (I := s5.heap.objs.size) (x := t) (t := tt))
    (fun i G => ∃ st, scanW (t.cps.toList.drop i) st = scanW t.cps.toList ⟨0, 0, 0, []⟩ ∧ st.b ≤ i ∧ st.cnt.length ≤ i ∧ RW x st G) (fun i G hi hG => ?_) (fun G hG => ?_) (E5.more (List.subset_cons_self _ _)) ⟨⟨0, 0, 0, []⟩, rfl, Nat.le_refl _, Nat.le_refl _, rfl, rfl, rfl, ⟨lc, rfl⟩, rfl, rfl, rfl⟩ Z5' (List.nil_subset _) (.head _) ⟨rfl, rfl⟩ hin
    (fun m6 fz6 mu6 s6 Γ6 k6 hΓ E6 Z6 => ?_) (fun _ _ _ _ _ _ _ h _ _ => h.elim)
  · obtain ⟨st, a1, a2, a3, a4⟩ := hG
    have hi' : i < t.cps.toList.length := by simpa using hi
    have hdr : t.cps.toList.drop i = t.cps.getD i 0 :: t.cps.toList.drop (i + 1) := by
      rw [List.drop_eq_getElem_cons hi']
      congr 1
      simp [Array.getD, hi]
    rw [hdr] at a1
    obtain ⟨b1, b2, b3, b4, b5, b6, b7⟩ := a4
    exact scan_body X.len_ Fr a1 (by lia) a2 a3 ⟨b1, b2, b3, b4, b5, b6, b7⟩ rfl
  · obtain ⟨st, a1, a2, a3, a4⟩ := hG
    have : t.cps.toList.drop t.cps.size = [] := by rw [List.drop_eq_nil_iff]; simp
    rw [this] at a1
    rw [← a1]; exact a4
  generalize hfin : scanW t.cps.toList ⟨0, 0, 0, []⟩ = fin at hΓ
  obtain ⟨b1, b2, b3, ⟨ca, b4⟩, b5, b6, b7⟩ := hΓ
  obtain ⟨vsc, nc, hmc, hrc, hklc, E7, Z7⟩ := E6.freeze Z6 Fr.cm b4
  have hlen : fin.cnt.length ≤ 1000000 := by
    have := scan_len t.cps.toList ⟨0, 0, 0, []⟩ 0 (Nat.le_refl _) (Nat.le_refl _)
    rw [hfin] at this
    have e2 : t.cps.toList.length = t.cps.size := by simp
    lia
  have c7 : (Γ6.set "count" (D.lst (List.map D.int fin.cnt))) "self" = some (.d (.val (.ref x))) := b7
  have ecnt : (fin.cnt.map D.int).length = fin.cnt.length := List.length_map _
  have hd7 := Z7.kept (.head _)
  have hx7 : (x, instObj clsW dx) ∈ (ca, lstObj vsc nc) :: fz6 := .tail _ (k6 (k5 (k4 (k3 (k2 (k1 hx0))))))
  have E7 := E7.unkl
  have Z7 := Z7.unkl
  -- self.n
  refine wpAny_execs_cons (setat Fr.ok Fr.cm (d := .int fin.n) X X.s_n c7 Fr.loc Fr.nc (Fr.name (x := "n") b1) E7 Z7 hx7 hd7 hmudx (fun _ _ _ => rfl) rfl rfl (by simp) fun fz8 s8 v8 g8 t8 k8 r8 E8 Z8 => ?_)
  have hd8 := mem_mset_self (o' := dictOf ([] ++ [⟨g1, .str "raw" t1, .str t tt⟩] ++ [⟨g8, .str "n" t8, v8⟩]) (0 + 1 + 1)) hd7
  -- self.nt
  refine wpAny_execs_cons (setat Fr.ok Fr.cm (d := .int fin.nt) X X.s_nt c7 Fr.loc Fr.nc (Fr.name (x := "nt") b2) E8 Z8 (k8 hx7) hd8 hmudx (fun _ _ _ => rfl) rfl rfl (by simp) fun fz9 s9 v9 g9 t9 k9 r9 E9 Z9 => ?_)
  have hd9 := mem_mset_self (o' := dictOf ([] ++ [⟨g1, .str "raw" t1, .str t tt⟩] ++ [⟨g8, .str "n" t8, v8⟩] ++ [⟨g9, .str "nt" t9, v9⟩]) (0 + 1 + 1 + 1)) hd8
  -- self.norm
  refine wpAny_execs_cons (setat Fr.ok Fr.cm (d := .tup [.tup (fin.cnt.map .int), .int fin.b]) X X.s_norm c7 Fr.loc Fr.nc (EV.tuple (EVs.cons (EV.callT (Fr.boot X.tuple_ boot_tuple) (EVs.cons (Fr.name (d := .lst (fin.cnt.map .int))) EVs.nil) (CallOk.tupleL (by rw [ecnt, sizeLine_eq]; lia))) (EVs.cons (Fr.name (x := "b") b3) EVs.nil)) (sizes _ (by simp))) E9 Z9 (k9 (k8 hx7)) hd9 hmudx (fun _ _ _ => rfl) rfl rfl (by simp) fun fz10 s10 v10 g10 t10 k10 r10 E10 Z10 => ?_)
  have hd10 := mem_mset_self (o' := dictOf ([] ++ [⟨g1, .str "raw" t1, .str t tt⟩] ++ [⟨g8, .str "n" t8, v8⟩] ++ [⟨g9, .str "nt" t9, v9⟩] ++ [⟨g10, .str "norm" t10, v10⟩]) (0 + 1 + 1 + 1 + 1)) hd9
  -- self.is_simple
  refine wpAny_execs_cons (setat Fr.ok Fr.cm (d := .bool (decide ((fin.cnt.length : Int) ≤ 1))) X X.s_simple c7 Fr.loc Fr.nc (EV.cmp BinOk.leI (EV.callB (Fr.boot X.len_ boot_len) (EVs.cons (Fr.name (d := .lst (fin.cnt.map .int))) EVs.nil) (CallOk.lenL' ecnt hlen)) EV.cInt) E10 Z10 (k10 (k9 (k8 hx7))) hd10 hmudx (fun _ _ _ => rfl) rfl rfl (by simp) fun fz11 s11 v11 g11 t11 k11 r11 E11 Z11 => ?_)
  have hd11 := mem_mset_self (o' := dictOf ([] ++ [⟨g1, .str "raw" t1, .str t tt⟩] ++ [⟨g8, .str "n" t8, v8⟩] ++ [⟨g9, .str "nt" t9, v9⟩] ++ [⟨g10, .str "norm" t10, v10⟩] ++ [⟨g11, .str "is_simple" t11, v11⟩]) (0 + 1 + 1 + 1 + 1 + 1)) hd10
  refine wpAny_execs_nil ⟨_, fz11, _, Z11, fun Zb => ⟨rfl, ?_⟩⟩
  have Zc : St C kl m ((dx, dictOf ([] ++ [⟨g1, .str "raw" t1, .str t tt⟩] ++ [⟨g8, .str "n" t8, v8⟩] ++ [⟨g9, .str "nt" t9, v9⟩] ++ [⟨g10, .str "norm" t10, v10⟩] ++ [⟨g11, .str "is_simple" t11, v11⟩]) (0 + 1 + 1 + 1 + 1 + 1)) :: fz11) mu s11 := hS.back Zb.down hd11 Z11.kept hmudx
  have hsub : fz ⊆ fz11 := fun p hp => k11 (k10 (k9 (k8 (.tail _ (k6 (k5 (k4 (k3 (k2 (k1 (.tail _ hp)))))))))))
  have up : fz11 ⊆ (dx, dictOf ([] ++ [⟨g1, .str "raw" t1, .str t tt⟩] ++ [⟨g8, .str "n" t8, v8⟩] ++ [⟨g9, .str "nt" t9, v9⟩] ++ [⟨g10, .str "norm" t10, v10⟩] ++ [⟨g11, .str "is_simple" t11, v11⟩]) (0 + 1 + 1 + 1 + 1 + 1)) :: fz11 := List.subset_cons_self _ _
  refine hQ _ _ _ (fun p hp => .tail _ (hsub hp)) Zc ?_
  have eb : decide ((fin.cnt.length : Int) ≤ 1) = decide (fin.cnt.length ≤ 1) := by
    by_cases h : fin.cnt.length ≤ 1
    · rw [decide_eq_true h, decide_eq_true (by lia)]
    · rw [decide_eq_false h, decide_eq_false (by lia)]
  unfold wspOf
  simp only [hfin]
  rw [← eb]
  exact Rep.ws (.tail _ (k11 (k10 (k9 (k8 hx7))))) (.head _) (r8.mono fun _ h => up (k11 (k10 (k9 h)))) (r9.mono fun _ h => up (k11 (k10 h))) (r10.mono fun _ h => up (k11 h)) (r11.mono up)
end
end Mine
end

section
open PySem PySem.W PyProof.Rows PySem.Calls
set_option maxRecDepth 100000
namespace Mine

noncomputable def run {α : Type} (K : Nat → Int) : KasT α → α
  | .ret a => a
  | .ask i j k => run K (k (decide (K i < K j)))
theorem run_bind {α β : Type} (K : Nat → Int) (f : α → KasT β) : ∀ t : KasT α, run K (t.bind f) = run K (f (run K t))
  | .ret a => rfl
  | .ask i j k => by
    show run K ((k _).bind f) = _
    exact run_bind K f (k _)
/-- by key, then by place -/
noncomputable def Lex (K : Nat → Int) (i j : Nat) : Prop := K i < K j ∨ (K i = K j ∧ i < j)
theorem Lex.trans {K : Nat → Int} {a b c : Nat} (h1 : Lex K a b) (h2 : Lex K b c) : Lex K a c := by
  unfold Lex at *; lia
theorem getD_arr (l : List Nat) (i : Nat) : l.toArray.getD i 0 = l.getD i 0 := by
  rw [List.getD_eq_getElem?_getD]
  simp [Array.getD]
  split <;> simp_all

-- REVERSING A STRETCH
theorem mid_get {A B R : List Nat} {j : Nat} (h1 : A.length ≤ j) (h2 : j < A.length + B.length) : (A ++ B ++ R)[j]? = B[j - A.length]? := by
  rw [List.append_assoc, List.getElem?_append_right h1, List.getElem?_append_left (by lia)]
theorem rev_list (A B R : List Nat) : kas_rev (A ++ B ++ R).toArray A.length (A.length + B.length) = (A ++ B.reverse ++ R).toArray := by
  unfold kas_rev
  apply Array.ext_getElem?
  intro k
  rw [getElem?_mirror_all (by simp)]
  simp only [List.getElem?_toArray]
  by_cases h : A.length ≤ k ∧ k < A.length + B.length
  · rw [if_pos h, mid_get (by omega) (by omega), mid_get (B := B.reverse) h.1 (by rw [List.length_reverse]; exact h.2), List.getElem?_reverse (by grind)]
    congr 1; lia
  · rw [if_neg h]
    by_cases h1 : k < A.length
    · rw [List.append_assoc, List.append_assoc, List.getElem?_append_left h1, List.getElem?_append_left h1]
    · rw [List.getElem?_append_right (by simp; lia), List.getElem?_append_right (by simp; omega)]
      simp
-- MOVING ONE DOWN
theorem bubble_list (A B R : List Nat) (x : Nat) : bubble (A ++ B ++ x :: R).toArray (A.length + B.length) B.length = (A ++ x :: B ++ R).toArray := by
  apply Array.ext_getElem?
  intro k
  rw [getElem?_bubble (by simp) _ (by simp)]
  simp only [List.getElem?_toArray]
  have e : A.length + B.length - B.length = A.length := by simp
  rw [e]
  by_cases h1 : k = A.length
  · subst h1
    rw [if_pos rfl, List.getElem?_append_right (by simp)]
    simp
  · rw [if_neg h1]
    by_cases h2 : A.length < k ∧ k ≤ A.length + B.length
    · rw [if_pos h2, List.append_assoc, List.getElem?_append_right (by omega), List.getElem?_append_left (by omega), List.append_assoc, List.getElem?_append_right (by lia)]
      have e2 : k - A.length = (k - 1 - A.length) + 1 := by grind
      rw [e2, List.cons_append, List.getElem?_cons_succ, List.getElem?_append_left (by omega)]
    · rw [if_neg h2]
      by_cases h3 : k < A.length
      · rw [List.append_assoc, List.append_assoc, List.getElem?_append_left h3, List.getElem?_append_left h3]
      · rw [List.getElem?_append_right (by simp; lia), List.getElem?_append_right (by simp; lia)]
        have e3 : k - (A ++ B).length = (k - (A ++ x :: B).length) + 1 := by simp; lia
        rw [e3, List.getElem?_cons_succ]

section
variable {K : Nat → Int}
structure Good (K : Nat → Int) (P : List Nat) (x : Nat) : Prop where
  perm : P.Perm (List.range x)
  ord : P.Pairwise (Lex K)
theorem Good.len {P : List Nat} {x : Nat} (h : Good K P x) : P.length = x := by rw [h.perm.length_eq, List.length_range]
theorem Good.lt {P : List Nat} {x : Nat} (h : Good K P x) {a : Nat} (ha : a ∈ P) : a < x := List.mem_range.mp (h.perm.mem_iff.mp ha)
theorem getD_mem {L : List Nat} {i : Nat} (h : i < L.length) : L.getD i 0 ∈ L := by
  rw [List.getD_eq_getElem?_getD, List.getElem?_eq_getElem h]; exact List.getElem_mem h
theorem getD_app_r {P R : List Nat} {x : Nat} (h : P.length = x) (y : Nat) : (P ++ y :: R).getD x 0 = y := by
  rw [List.getD_eq_getElem?_getD, List.getElem?_append_right (by simp [*])]
  have : x - P.length = 0 := by simp [*]
  rw [this]; rfl
theorem getD_app_l {P R : List Nat} {i : Nat} (h : i < P.length) : (P ++ R).getD i 0 = P.getD i 0 := by
  rw [List.getD_eq_getElem?_getD, List.getD_eq_getElem?_getD, List.getElem?_append_left h]
theorem le_last {P : List Nat} (h : P.Pairwise (Lex K)) {a : Nat} (ha : a ∈ P) : a = P.getD (P.length - 1) 0 ∨ Lex K a (P.getD (P.length - 1) 0) := by
  obtain ⟨i, hi, rfl⟩ := List.mem_iff_getElem.mp ha
  rw [List.getD_eq_getElem?_getD, List.getElem?_eq_getElem (by omega)]
  by_cases h1 : i = P.length - 1
  · subst h1; exact .inl rfl
  · exact .inr (List.pairwise_iff_getElem.mp h i (P.length - 1) hi (by omega) (by lia))
theorem Good.snoc {P : List Nat} {x : Nat} (h : Good K P x) (h1 : 1 ≤ x) (hk : ¬ K x < K (P.getD (x - 1) 0)) : Good K (P ++ [x]) (x + 1) := by
  refine ⟨?_, ?_⟩
  · rw [List.range_succ]; exact h.perm.append_right _
  · rw [List.pairwise_append]
    refine ⟨h.ord, List.pairwise_singleton _ _, fun a ha b hb => ?_⟩
    rw [List.mem_singleton.mp hb]
    have hl := h.len
    have hy : P.getD (x - 1) 0 < x := h.lt (getD_mem (by (clear hk hb h; (subst_vars; omega))))
    have hlx : Lex K (P.getD (x - 1) 0) x := by unfold Lex; lia
    rcases le_last h.ord ha with e | e
    · rw [hl] at e; rw [e]; exact hlx
    · rw [hl] at e; exact e.trans hlx
theorem asc_good : ∀ (f : Nat) (P : List Nat) (x : Nat), Good K P x → 1 ≤ x → ∃ P', Good K P' (run K (kas_asc (P ++ List.range' x f).toArray f x)) ∧ x ≤ run K (kas_asc (P ++ List.range' x f).toArray f x) ∧ run K (kas_asc (P ++ List.range' x f).toArray f x) ≤ x + f ∧
    P ++ List.range' x f = P' ++ List.range' (run K (kas_asc (P ++ List.range' x f).toArray f x)) (x + f - run K (kas_asc (P ++ List.range' x f).toArray f x)) ∧
    (run K (kas_asc (P ++ List.range' x f).toArray f x) = x + f ∨ K (run K (kas_asc (P ++ List.range' x f).toArray f x)) < K (P'.getD (run K (kas_asc (P ++ List.range' x f).toArray f x) - 1) 0))
  | 0, P, x, h, h1 => by
    have e : run K (kas_asc (P ++ List.range' x 0).toArray 0 x) = x := rfl
    rw [e]
    exact ⟨P, h, Nat.le_refl _, Nat.le_refl _, by simp, .inl rfl⟩
  | f + 1, P, x, h, h1 => by
    have hl := h.len
    have er : List.range' x (f + 1) = x :: List.range' (x + 1) f := rfl
    have e1 : (P ++ List.range' x (f + 1)).toArray.getD x 0 = x := by rw [getD_arr, er, getD_app_r hl]
    have e2 : (P ++ List.range' x (f + 1)).toArray.getD (x - 1) 0 = P.getD (x - 1) 0 := by rw [getD_arr, getD_app_l (by (clear e1 er h; (subst_vars; omega)))]
    have eu : run K (kas_asc (P ++ List.range' x (f + 1)).toArray (f + 1) x) = if K x < K (P.getD (x - 1) 0) then x else run K (kas_asc (P ++ List.range' x (f + 1)).toArray f (x + 1)) := by
      show run K (if decide (K ((P ++ List.range' x (f + 1)).toArray.getD x 0) < K ((P ++ List.range' x (f + 1)).toArray.getD (x - 1) 0)) = true then KasT.ret x else kas_asc (P ++ List.range' x (f + 1)).toArray f (x + 1)) = _
      rw [e1, e2]
      by_cases hc : K x < K (P.getD (x - 1) 0)
      · rw [if_pos (decide_eq_true hc), if_pos hc]; rfl
      · rw [if_neg (by rw [decide_eq_false hc]; exact Bool.false_ne_true), if_neg hc]
    rw [eu]
    by_cases hc : K x < K (P.getD (x - 1) 0)
    · rw [if_pos hc]
      exact ⟨P, h, Nat.le_refl _, by simp, by congr 2; simp, .inr hc⟩
    · rw [if_neg hc]
      have el : P ++ List.range' x (f + 1) = (P ++ [x]) ++ List.range' (x + 1) f := by rw [er]; simp
      rw [el]
      obtain ⟨P', a1, a2, a3, a4, a5⟩ := asc_good f (P ++ [x]) (x + 1) (h.snoc h1 hc) (by simp)
      have e3 : x + (f + 1) = x + 1 + f := by lia
      rw [e3]
      exact ⟨P', a1, by lia, a3, a4, a5⟩

/-- the descending run: A done, B a stretch of equals -/
structure Desc (K : Nat → Int) (A B : List Nat) (x q : Nat) : Prop where
  good : Good K (B ++ A.reverse) x
  len : B.length = q + 1
  eq : ∀ a ∈ B, K a = K (B.getD (B.length - 1) 0)
  lt : ∀ a ∈ A, K (B.getD (B.length - 1) 0) < K a
theorem Desc.total {A B : List Nat} {x q : Nat} (h : Desc K A B x q) : A.length + B.length = x := by
  have := h.good.len
  rw [List.length_append, List.length_reverse] at this; (clear h; (subst_vars; lia))
theorem last_app {A B : List Nat} (hB : 0 < B.length) {R : List Nat} {x : Nat} (hx : A.length + B.length = x) : (A ++ B ++ R).getD (x - 1) 0 = B.getD (B.length - 1) 0 := by
  rw [List.getD_eq_getElem?_getD, List.getD_eq_getElem?_getD, mid_get (by (subst_vars; omega)) (by (subst_vars; omega))]
  congr 2; (subst_vars; lia)
theorem sing_last (x : Nat) : [x].getD ([x].length - 1) 0 = x := rfl
theorem Desc.next {A B : List Nat} {x q : Nat} (h : Desc K A B x q) (hk : K x < K (B.getD (B.length - 1) 0)) : Desc K (A ++ B.reverse) [x] (x + 1) 0 := by
  have hlt : ∀ a ∈ A ++ B.reverse, K x < K a := by
    intro a ha
    rcases List.mem_append.mp ha with ha | ha
    · exact Int.lt_trans hk (h.lt a ha)
    · rw [h.eq a (List.mem_reverse.mp ha)]; exact hk
  refine ⟨⟨?_, ?_⟩, rfl, fun a ha => by rw [List.mem_singleton.mp ha]; rfl, hlt⟩
  · rw [List.range_succ, List.reverse_append, List.reverse_reverse]
    exact (List.perm_append_comm).trans (h.good.perm.append_right _)
  · rw [List.reverse_append, List.reverse_reverse, List.singleton_append, List.pairwise_cons]
    refine ⟨fun a ha => .inl (hlt a ?_), h.good.ord⟩
    rcases List.mem_append.mp ha with ha | ha
    · exact List.mem_append_right _ (List.mem_reverse.mpr ha)
    · exact List.mem_append_left _ (List.mem_reverse.mp ha)
theorem Desc.same {A B : List Nat} {x q : Nat} (h : Desc K A B x q) (hk : K x = K (B.getD (B.length - 1) 0)) : Desc K A (B ++ [x]) (x + 1) (q + 1) := by
  have hl : (B ++ [x]).getD ((B ++ [x]).length - 1) 0 = x := by
    rw [List.length_append]
    exact getD_app_r (R := []) (by simp) x
  have hbx : ∀ a ∈ B, a < x := fun a ha => h.good.lt (List.mem_append_left _ ha)
  refine ⟨⟨?_, ?_⟩, by rw [List.length_append, h.len]; rfl, fun a ha => ?_, fun a ha => ?_⟩
  · rw [List.range_succ, List.append_assoc]
    refine List.Perm.trans ?_ (h.good.perm.append_right _)
    rw [List.append_assoc]
    exact List.perm_append_comm.append_left B
  · have ho := List.pairwise_append.mp h.good.ord
    rw [List.pairwise_append]
    refine ⟨?_, ho.2.1, fun a ha b hb => ?_⟩
    · rw [List.pairwise_append]
      refine ⟨ho.1, List.pairwise_singleton _ _, fun a ha b hb => ?_⟩
      rw [List.mem_singleton.mp hb]
      exact .inr ⟨(h.eq a ha).trans hk.symm, hbx a ha⟩
    · rcases List.mem_append.mp ha with ha | ha
      · exact ho.2.2 a ha b hb
      · rw [List.mem_singleton.mp ha]
        exact .inl (by rw [hk]; exact h.lt b (List.mem_reverse.mp hb))
  · rw [hl]
    rcases List.mem_append.mp ha with ha | ha
    · exact (h.eq a ha).trans hk.symm
    · rw [List.mem_singleton.mp ha]
  · rw [hl, hk]; exact h.lt a ha

theorem desc_good : ∀ (f : Nat) (A B : List Nat) (x q : Nat), Desc K A B x q → ∃ A' B' m q', run K (kas_desc f (A ++ B ++ List.range' x f).toArray x q) = ((A' ++ B' ++ List.range' m (x + f - m)).toArray, m, q') ∧ Desc K A' B' m q' ∧ x ≤ m ∧ m ≤ x + f
  | 0, A, B, x, q, h => ⟨A, B, x, q, by simp [kas_desc, run], h, Nat.le_refl _, Nat.le_refl _⟩
  | f + 1, A, B, x, q, h => by
    have ht := h.total
    have hB : 0 < B.length := by rw [h.len]; simp
    have er : List.range' x (f + 1) = x :: List.range' (x + 1) f := rfl
    have e1 : (A ++ B ++ List.range' x (f + 1)).toArray.getD x 0 = x := by rw [getD_arr, er, getD_app_r (by rw [List.length_append]; exact ht)]
    have e2 : (A ++ B ++ List.range' x (f + 1)).toArray.getD (x - 1) 0 = B.getD (B.length - 1) 0 := by rw [getD_arr]; exact last_app hB ht
    have e3 : x + (f + 1) = x + 1 + f := by lia
    by_cases hc : K x < K (B.getD (B.length - 1) 0)
    · have eu : run K (kas_desc (f + 1) (A ++ B ++ List.range' x (f + 1)).toArray x q) = run K (kas_desc f (A ++ B.reverse ++ [x] ++ List.range' (x + 1) f).toArray (x + 1) 0) := by
        show run K (if decide (K ((A ++ B ++ List.range' x (f + 1)).toArray.getD x 0) < K ((A ++ B ++ List.range' x (f + 1)).toArray.getD (x - 1) 0)) = true then (if q > 0 then kas_desc f (kas_rev (A ++ B ++ List.range' x (f + 1)).toArray (x - (q + 1)) x) (x + 1) 0 else kas_desc f (A ++ B ++ List.range' x (f + 1)).toArray (x + 1) 0) else _) = _
        rw [e1, e2, if_pos (decide_eq_true hc)]
        have es : A ++ B.reverse ++ [x] ++ List.range' (x + 1) f = A ++ B.reverse ++ List.range' x (f + 1) := by rw [er]; simp
        rw [es]
        by_cases hq : q > 0
        · rw [if_pos hq]
          have eA : x - (q + 1) = A.length := by rw [← h.len]; lia
          have eB : x = A.length + B.length := ht.symm
          rw [eA]
          congr 2
          have := rev_list A B (List.range' x (f + 1))
          rw [← eB] at this
          exact this
        · rw [if_neg hq]
          have : B.length = 1 := by rw [h.len]; lia
          match B, this with
          | [b], _ => rfl
      rw [eu, e3]
      obtain ⟨A', B', m, q', a1, a2, a3, a4⟩ := desc_good f (A ++ B.reverse) [x] (x + 1) 0 (h.next hc)
      exact ⟨A', B', m, q', a1, a2, by (clear ht; lia), a4⟩
    · by_cases hd : K (B.getD (B.length - 1) 0) < K x
      · have eu : run K (kas_desc (f + 1) (A ++ B ++ List.range' x (f + 1)).toArray x q) = ((A ++ B ++ List.range' x (f + 1)).toArray, x, q) := by
          show run K (if decide (K ((A ++ B ++ List.range' x (f + 1)).toArray.getD x 0) < K ((A ++ B ++ List.range' x (f + 1)).toArray.getD (x - 1) 0)) = true then _ else KasT.ask ((A ++ B ++ List.range' x (f + 1)).toArray.getD (x - 1) 0) ((A ++ B ++ List.range' x (f + 1)).toArray.getD x 0) _) = _
          rw [e1, e2, if_neg (by rw [decide_eq_false hc]; exact Bool.false_ne_true)]
          show run K (if decide (K (B.getD (B.length - 1) 0) < K x) = true then _ else _) = _
          rw [if_pos (decide_eq_true hd)]; rfl
        exact ⟨A, B, x, q, by rw [eu]; congr 3; congr 1; simp, h, Nat.le_refl _, by simp⟩
      · have eu : run K (kas_desc (f + 1) (A ++ B ++ List.range' x (f + 1)).toArray x q) = run K (kas_desc f (A ++ (B ++ [x]) ++ List.range' (x + 1) f).toArray (x + 1) (q + 1)) := by
          show run K (if decide (K ((A ++ B ++ List.range' x (f + 1)).toArray.getD x 0) < K ((A ++ B ++ List.range' x (f + 1)).toArray.getD (x - 1) 0)) = true then _ else KasT.ask ((A ++ B ++ List.range' x (f + 1)).toArray.getD (x - 1) 0) ((A ++ B ++ List.range' x (f + 1)).toArray.getD x 0) _) = _
          rw [e1, e2, if_neg (by rw [decide_eq_false hc]; exact Bool.false_ne_true)]
          show run K (if decide (K (B.getD (B.length - 1) 0) < K x) = true then _ else _) = _
          rw [if_neg (by rw [decide_eq_false hd]; exact Bool.false_ne_true)]
          have es : A ++ (B ++ [x]) ++ List.range' (x + 1) f = A ++ B ++ List.range' x (f + 1) := by rw [er]; simp
          rw [es]
        rw [eu, e3]
        obtain ⟨A', B', m, q', a1, a2, a3, a4⟩ := desc_good f A (B ++ [x]) (x + 1) (q + 1) (h.same (by lia))
        exact ⟨A', B', m, q', a1, a2, by omega, a4⟩

/-- what counting a run gives -/
noncomputable def RunOk (K : Nat → Int) (n : Nat) (r : Nat × Array Nat) : Prop := ∃ P, r.2 = (P ++ List.range' r.1 (n - r.1)).toArray ∧ Good K P r.1 ∧ 1 ≤ r.1 ∧ r.1 ≤ n
theorem rev0 (A R : List Nat) : kas_rev (A ++ R).toArray 0 A.length = (A.reverse ++ R).toArray := by
  have := rev_list [] A R
  simpa using this
theorem tail3_good {A B : List Nat} {m q n : Nat} (h : Desc K A B m q) (hm : m ≤ n) (h1 : 1 ≤ m) : RunOk K n (run K (kas_tail3 m n (A ++ B.reverse ++ List.range' m (n - m)).toArray)) := by
  have hl : (A ++ B.reverse).length = m := by rw [List.length_append, List.length_reverse]; exact h.total
  have e : kas_rev (A ++ B.reverse ++ List.range' m (n - m)).toArray 0 m = (B ++ A.reverse ++ List.range' m (n - m)).toArray := by
    have := rev0 (A ++ B.reverse) (List.range' m (n - m))
    rw [hl] at this
    rw [this, List.reverse_append, List.reverse_reverse]
  unfold kas_tail3
  rw [run_bind, e]
  obtain ⟨P', a1, a2, a3, a4, a5⟩ := asc_good (n - m) (B ++ A.reverse) m h.good h1
  have en : m + (n - m) = n := by simp [*]
  rw [en] at a3 a4 a5
  refine ⟨P', ?_, a1, Nat.le_trans h1 a2, a3⟩
  show (B ++ A.reverse ++ List.range' m (n - m)).toArray = (P' ++ List.range' (run K (kas_asc (B ++ A.reverse ++ List.range' m (n - m)).toArray (n - m) m)) (n - run K (kas_asc (B ++ A.reverse ++ List.range' m (n - m)).toArray (n - m) m))).toArray
  rw [← a4]
theorem descPart_good {A B : List Nat} {x n : Nat} (h : Desc K A B (x + 1) 0) (hx : x + 1 ≤ n) : RunOk K n (run K (kas_descPart x n (A ++ B ++ List.range' (x + 1) (n - (x + 1))).toArray)) := by
  unfold kas_descPart
  rw [run_bind]
  obtain ⟨A', B', m, q', a1, a2, a3, a4⟩ := desc_good (n - (x + 1)) A B (x + 1) 0 h
  have en : x + 1 + (n - (x + 1)) = n := by simp [*]
  rw [a1, en]
  have ht := a2.total
  show RunOk K n (run K (if q' > 0 then kas_tail3 m n (kas_rev (A' ++ B' ++ List.range' m (n - m)).toArray (m - (q' + 1)) m) else kas_tail3 m n (A' ++ B' ++ List.range' m (n - m)).toArray))
  have key : (if q' > 0 then kas_tail3 m n (kas_rev (A' ++ B' ++ List.range' m (n - m)).toArray (m - (q' + 1)) m) else kas_tail3 m n (A' ++ B' ++ List.range' m (n - m)).toArray) = kas_tail3 m n (A' ++ B'.reverse ++ List.range' m (n - m)).toArray := by
    by_cases hq : q' > 0
    · rw [if_pos hq]
      have eA : m - (q' + 1) = A'.length := by rw [← a2.len]; lia
      rw [eA]
      congr 1
      have := rev_list A' B' (List.range' m (n - m))
      rw [ht] at this
      exact this
    · rw [if_neg hq]
      have : B'.length = 1 := by rw [a2.len]; lia
      match B', this with
      | [b], _ => rfl
  rw [key]
  exact tail3_good a2 (by lia) (by lia)
theorem count_good {n : Nat} (h1 : 1 ≤ n) : RunOk K n (run K (kas_count n (List.toArray (List.range n)))) := by
  have er : List.range n = [0] ++ List.range' 1 (n - 1) := by
    obtain ⟨j, rfl⟩ : ∃ j, n = j + 1 := ⟨n - 1, by simp [*]⟩
    rw [List.range_eq_range']; rfl
  have g0 : Good K [0] 1 := ⟨List.Perm.refl _, List.pairwise_singleton _ _⟩
  obtain ⟨P, a1, a2, a3, a4, a5⟩ := asc_good (n - 1) [0] 1 g0 (Nat.le_refl _)
  unfold kas_count
  rw [run_bind, er]
  generalize hm : run K (kas_asc ([0] ++ List.range' 1 (n - 1)).toArray (n - 1) 1) = m at *
  have en : 1 + (n - 1) = n := by simp [*]
  rw [en] at a3 a4 a5
  by_cases hmn : m = n
  · rw [if_pos (by simpa using hmn)]
    exact ⟨P, by show ([0] ++ List.range' 1 (n - 1)).toArray = (P ++ List.range' m (n - m)).toArray; rw [a4], a1, a2, a3⟩
  · rw [if_neg (by simpa using hmn)]
    have hlt := a5.resolve_left hmn
    have hPl := a1.len
    rw [a4]
    have hsplit : P ++ List.range' m (n - m) = P ++ [m] ++ List.range' (m + 1) (n - (m + 1)) := by
      have : n - m = (n - (m + 1)) + 1 := by lia
      rw [this]
      show P ++ (m :: List.range' (m + 1) (n - (m + 1))) = _
      simp
    have hPkey : (∀ a ∈ P, K a = K (P.getD (m - 1) 0)) → Desc K P.reverse [m] (m + 1) 0 := by
      intro hall
      refine ⟨⟨?_, ?_⟩, rfl, fun a ha => by rw [List.mem_singleton.mp ha]; rfl, fun a ha => ?_⟩
      · rw [List.reverse_reverse, List.range_succ]
        exact List.perm_append_comm.trans (a1.perm.append_right _)
      · rw [List.reverse_reverse, List.singleton_append, List.pairwise_cons]
        exact ⟨fun a ha => .inl (by rw [hall a ha]; exact hlt), a1.ord⟩
      · show K m < K a
        rw [hall a (List.mem_reverse.mp ha)]; exact hlt
    by_cases hgt : m > 1
    · rw [if_pos hgt]
      have e0 : (P ++ List.range' m (n - m)).toArray.getD 0 0 = P.getD 0 0 := by rw [getD_arr, getD_app_l (by lia)]
      have e1 : (P ++ List.range' m (n - m)).toArray.getD (m - 1) 0 = P.getD (m - 1) 0 := by rw [getD_arr, getD_app_l (by (clear hm e0 hgt hPkey hsplit a4 hlt a5; (subst_vars; omega)))]
      show RunOk K n (run K (if decide (K ((P ++ List.range' m (n - m)).toArray.getD 0 0) < K ((P ++ List.range' m (n - m)).toArray.getD (m - 1) 0)) = true then _ else _))
      rw [e0, e1]
      by_cases hr : K (P.getD 0 0) < K (P.getD (m - 1) 0)
      · rw [if_pos (decide_eq_true hr)]
        exact ⟨P, rfl, a1, a2, a3⟩
      · rw [if_neg (by rw [decide_eq_false hr]; exact Bool.false_ne_true)]
        have hmono : ∀ i j, i ≤ j → j < P.length → K (P.getD i 0) ≤ K (P.getD j 0) := by
          intro i j hij hj
          by_cases e : i = j
          · subst e; exact Int.le_refl _
          · have := List.pairwise_iff_getElem.mp a1.ord i j (by (clear hPl e; lia)) hj (by lia)
            rw [List.getD_eq_getElem?_getD, List.getD_eq_getElem?_getD, List.getElem?_eq_getElem (by omega), List.getElem?_eq_getElem hj]
            show K P[i] ≤ K P[j]
            unfold Lex at this; lia
        have hall : ∀ a ∈ P, K a = K (P.getD (m - 1) 0) := by
          intro a ha
          obtain ⟨i, hi, rfl⟩ := List.mem_iff_getElem.mp ha
          have h2 := hmono 0 i (by simp) hi
          have h3 := hmono i (m - 1) (by lia) (by lia)
          have e : P.getD i 0 = P[i] := by rw [List.getD_eq_getElem?_getD, List.getElem?_eq_getElem hi]; rfl
          rw [e] at h2 h3
          lia
        have hrev : kas_rev (P ++ List.range' m (n - m)).toArray 0 m = (P.reverse ++ [m] ++ List.range' (m + 1) (n - (m + 1))).toArray := by
          have := rev0 P (List.range' m (n - m))
          rw [hPl] at this
          rw [this]
          have e2 : n - m = (n - (m + 1)) + 1 := by omega
          rw [e2]
          show (P.reverse ++ (m :: List.range' (m + 1) (n - (m + 1)))).toArray = _
          simp
        show RunOk K n (run K (kas_descPart m n (kas_rev (P ++ List.range' m (n - m)).toArray 0 m)))
        rw [hrev]
        exact descPart_good (hPkey hall) (by lia)
    · rw [if_neg hgt]
      have hm1 : m = 1 := by lia
      have hall : ∀ a ∈ P, K a = K (P.getD (m - 1) 0) := by
        intro a ha
        match P, hPl, ha with
        | [b], _, ha => rw [List.mem_singleton.mp ha, hm1]; rfl
        | [], h, _ => rw [hm1] at h; cases h
        | _ :: _ :: _, h, _ => rw [hm1] at h; simp at h
      rw [hsplit]
      have hP1 : P = P.reverse := by
        match P, hPl with
        | [b], _ => rfl
        | [], h => rfl
        | _ :: _ :: _, h => rw [hm1] at h; simp at h
      rw [hP1]
      exact descPart_good (hPkey hall) (by (clear a2 hm1; lia))

theorem mono_getD {P : List Nat} (h : P.Pairwise (Lex K)) : ∀ i j, i ≤ j → j < P.length → K (P.getD i 0) ≤ K (P.getD j 0) := by
  intro i j hij hj
  by_cases e : i = j
  · subst e; exact Int.le_refl _
  · have := List.pairwise_iff_getElem.mp h i j (by (clear e; lia)) hj (by lia)
    rw [List.getD_eq_getElem?_getD, List.getD_eq_getElem?_getD, List.getElem?_eq_getElem (by omega), List.getElem?_eq_getElem hj]
    show K P[i] ≤ K P[j]
    unfold Lex at this; lia
theorem place_good {P R : List Nat} {x : Nat} (h : Good K P x) : ∀ (f l r : Nat), l ≤ r → r ≤ x → r - l ≤ f → (∀ i < l, ¬ K x < K (P.getD i 0)) → (∀ i, r ≤ i → i < x → K x < K (P.getD i 0)) →
    ∃ m, run K (kas_place (P ++ x :: R).toArray x f l r) = m ∧ m ≤ x ∧ (∀ i < m, ¬ K x < K (P.getD i 0)) ∧ (∀ i, m ≤ i → i < x → K x < K (P.getD i 0))
  | 0, l, r, h1, h2, h3, h4, h5 => by
    have : l = r := by grind
    subst this
    exact ⟨l, rfl, h2, h4, h5⟩
  | f + 1, l, r, h1, h2, h3, h4, h5 => by
    have hl := h.len
    have e1 : (P ++ x :: R).toArray.getD x 0 = x := by rw [getD_arr, getD_app_r hl]
    by_cases hlr : l ≥ r
    · have : l = r := by (apply Nat.le_antisymm <;> omega)
      subst this
      have eu : run K (kas_place (P ++ x :: R).toArray x (f + 1) l l) = l := by unfold kas_place; rw [if_pos (Nat.le_refl _)]; rfl
      exact ⟨l, eu, h2, h4, h5⟩
    · have hmid : (l + r) / 2 < x := by (clear h1; lia)
      have e2 : (P ++ x :: R).toArray.getD ((l + r) / 2) 0 = P.getD ((l + r) / 2) 0 := by rw [getD_arr, getD_app_l (by simp [*])]
      have eu : run K (kas_place (P ++ x :: R).toArray x (f + 1) l r) = run K (if decide (K x < K (P.getD ((l + r) / 2) 0)) = true then kas_place (P ++ x :: R).toArray x f l ((l + r) / 2) else kas_place (P ++ x :: R).toArray x f ((l + r) / 2 + 1) r) := by
        have hk : kas_place (P ++ x :: R).toArray x (f + 1) l r = if l ≥ r then KasT.ret l else KasT.ask ((P ++ x :: R).toArray.getD x 0) ((P ++ x :: R).toArray.getD ((l + r) / 2) 0) fun c => if c = true then kas_place (P ++ x :: R).toArray x f l ((l + r) / 2) else kas_place (P ++ x :: R).toArray x f ((l + r) / 2 + 1) r := rfl
        rw [hk, if_neg hlr, e1, e2]
        rfl
      rw [eu]
      by_cases hc : K x < K (P.getD ((l + r) / 2) 0)
      · rw [if_pos (decide_eq_true hc)]
        refine place_good h f l ((l + r) / 2) (by (clear hlr; lia)) (by lia) (by grind) h4 fun i hi hx => ?_
        exact Int.lt_of_lt_of_le hc (mono_getD h.ord _ _ hi (by simp [*]))
      · rw [if_neg (by rw [decide_eq_false hc]; exact Bool.false_ne_true)]
        refine place_good h f ((l + r) / 2 + 1) r (by (clear h1; lia)) h2 (by grind) (fun i hi hlt => hc ?_) h5
        exact Int.lt_of_lt_of_le hlt (mono_getD h.ord _ _ (by lia) (by simp [*]))
theorem Good.ins {P : List Nat} {x m : Nat} (h : Good K P x) (hm : m ≤ x) (h1 : ∀ i < m, ¬ K x < K (P.getD i 0)) (h2 : ∀ i, m ≤ i → i < x → K x < K (P.getD i 0)) : Good K (P.take m ++ x :: P.drop m) (x + 1) := by
  have hl := h.len
  have hap : P.take m ++ P.drop m = P := List.take_append_drop m P
  have ho : (P.take m ++ P.drop m).Pairwise (Lex K) := by rw [hap]; exact h.ord
  have ho := List.pairwise_append.mp ho
  have a1 : ∀ a ∈ P.take m, Lex K a x := by
    intro a ha
    obtain ⟨i, hi, rfl⟩ := List.mem_iff_getElem.mp ha
    rw [List.length_take] at hi
    have := h1 i (by lia)
    have e : P.getD i 0 = (P.take m)[i] := by rw [List.getD_eq_getElem?_getD, List.getElem?_eq_getElem (by (clear h2 h1 this h; (subst_vars; lia)))]; simp
    rw [e] at this
    have := h.lt (List.mem_of_mem_take ha)
    unfold Lex; lia
  have a2 : ∀ b ∈ P.drop m, Lex K x b := by
    intro b hb
    obtain ⟨i, hi, rfl⟩ := List.mem_iff_getElem.mp hb
    rw [List.length_drop] at hi
    have := h2 (m + i) (by simp) (by (clear hm h2 h1 a1 h; (subst_vars; omega)))
    have e : P.getD (m + i) 0 = (P.drop m)[i] := by rw [List.getD_eq_getElem?_getD, List.getElem?_eq_getElem (by (clear hl; omega))]; simp
    rw [e] at this
    exact .inl this
  refine ⟨?_, ?_⟩
  · rw [List.range_succ]
    have : (P.take m ++ x :: P.drop m).Perm (x :: P) := by
      have := List.perm_middle (a := x) (l₁ := P.take m) (l₂ := P.drop m)
      rw [hap] at this; exact this
    refine this.trans ?_
    exact (List.Perm.cons x h.perm).trans (List.perm_append_comm (l₁ := [x]))
  · rw [List.pairwise_append, List.pairwise_cons]
    refine ⟨ho.1, ⟨a2, ho.2.1⟩, fun a ha b hb => ?_⟩
    rcases List.mem_cons.mp hb with rfl | hb
    · exact a1 a ha
    · exact ho.2.2 a ha b hb
theorem bin_good : ∀ (f : Nat) (P : List Nat) (x : Nat), Good K P x → ∃ P', run K (kas_bin f (P ++ List.range' x f).toArray x) = P'.toArray ∧ Good K P' (x + f)
  | 0, P, x, h => ⟨P, by show (P ++ List.range' x 0).toArray = _; simp, h⟩
  | f + 1, P, x, h => by
    have hl := h.len
    have er : List.range' x (f + 1) = x :: List.range' (x + 1) f := rfl
    obtain ⟨m, e, hm, h1, h2⟩ := place_good (R := List.range' (x + 1) f) h x 0 x (Nat.zero_le _) (Nat.le_refl _) (Nat.le_refl _) (fun i hi => absurd hi (Nat.not_lt_zero i)) (fun i hi hx => absurd hx (by (clear hx; lia)))
    have eb : bubble (P ++ x :: List.range' (x + 1) f).toArray x (x - m) = (P.take m ++ x :: P.drop m ++ List.range' (x + 1) f).toArray := by
      have := bubble_list (P.take m) (P.drop m) (List.range' (x + 1) f) x
      rw [List.take_append_drop, List.length_take, List.length_drop, hl] at this
      have e1 : min m x + (x - m) = x := by simp [*]
      rw [e1] at this
      exact this
    have eu : run K (kas_bin (f + 1) (P ++ List.range' x (f + 1)).toArray x) = run K (kas_bin f (P.take m ++ x :: P.drop m ++ List.range' (x + 1) f).toArray (x + 1)) := by
      show run K ((kas_place (P ++ List.range' x (f + 1)).toArray x x 0 x).bind fun l => kas_bin f (bubble (P ++ List.range' x (f + 1)).toArray x (x - l)) (x + 1)) = _
      rw [run_bind, er, e, eb]
    rw [eu]
    obtain ⟨P', a1, a2⟩ := bin_good f _ (x + 1) (h.ins hm h1 h2)
    exact ⟨P', a1, by have e3 : x + (f + 1) = x + 1 + f := by lia
                      rw [e3]; exact a2⟩
theorem sort_good {n : Nat} (h1 : 1 ≤ n) : ∃ P, run K (kas_sort n) = P.toArray ∧ Good K P n := by
  obtain ⟨P, a1, a2, a3, a4⟩ := count_good (K := K) h1
  unfold kas_sort
  rw [run_bind]
  generalize run K (kas_count n (List.toArray (List.range n))) = r at *
  have hmax : max r.1 1 = r.1 := by simp [*]
  rw [hmax]
  by_cases hlt : r.1 < n
  · rw [if_pos hlt, a1]
    obtain ⟨P', b1, b2⟩ := bin_good (n - r.1) P r.1 a2
    have e : r.1 + (n - r.1) = n := by simp [*]
    rw [e] at b2
    exact ⟨P', b1, b2⟩
  · rw [if_neg hlt]
    have e : r.1 = n := by lia
    refine ⟨P, ?_, by rw [← e]; exact a2⟩
    show r.2 = _
    rw [a1, e]; simp

-- WHAT IS ASKED
noncomputable def AllT {α : Type} (n : Nat) (Pr : α → Prop) : KasT α → Prop
  | .ret a => Pr a
  | .ask i j k => i < n ∧ j < n ∧ ∀ b, AllT n Pr (k b)
theorem AllT.bind {α β : Type} {n : Nat} {Pr : α → Prop} {Pr' : β → Prop} {f : α → KasT β} : ∀ {t : KasT α}, AllT n Pr t → (∀ a, Pr a → AllT n Pr' (f a)) → AllT n Pr' (t.bind f)
  | .ret a, h, hf => hf a h
  | .ask i j k, h, hf => ⟨h.1, h.2.1, fun b => AllT.bind (h.2.2 b) hf⟩
noncomputable def El (n : Nat) (p : Array Nat) : Prop := ∀ i, p.getD i 0 < n
theorem El.perm {n : Nat} {p q : Array Nat} (h : El n p) (hp : q.Perm p) (h0 : 0 < n) : El n q := by
  intro i
  by_cases hi : i < q.size
  · have hm : q[i] ∈ q := Array.getElem_mem hi
    have hm2 : q[i] ∈ p := hp.mem_iff.mp hm
    obtain ⟨j, hj, e⟩ := Array.mem_iff_getElem.mp hm2
    have := h j
    have e1 : q.getD i 0 = q[i] := by simp [Array.getD, hi]
    have e2 : p.getD j 0 = p[j] := by simp [Array.getD, hj]
    rw [e1, ← e, ← e2]; exact this
  · have e1 : q.getD i 0 = 0 := by simp [Array.getD, hi]
    rw [e1]; exact h0
theorem El.rev {n : Nat} {p : Array Nat} (h : El n p) (h0 : 0 < n) (i j : Nat) : El n (kas_rev p i j) := h.perm (mirror_perm _ _ _ _) h0
theorem asc_all {n : Nat} {p : Array Nat} (h : El n p) : ∀ f x, AllT n (fun _ => True) (kas_asc p f x)
  | 0, x => trivial
  | f + 1, x => ⟨h _, h _, fun b => by
    show AllT n _ (if b = true then KasT.ret x else kas_asc p f (x + 1))
    split
    · trivial
    · exact asc_all h f (x + 1)⟩
theorem desc_all {n : Nat} (h0 : 0 < n) : ∀ (f : Nat) (p : Array Nat) (x q : Nat), El n p → AllT n (fun r => El n r.1) (kas_desc f p x q)
  | 0, p, x, q, h => h
  | f + 1, p, x, q, h => ⟨h _, h _, fun b => by
    show AllT n _ (if b = true then (if q > 0 then kas_desc f (kas_rev p (x - (q + 1)) x) (x + 1) 0 else kas_desc f p (x + 1) 0) else KasT.ask (p.getD (x - 1) 0) (p.getD x 0) fun d => if d = true then KasT.ret (p, x, q) else kas_desc f p (x + 1) (q + 1))
    split
    · split
      · exact desc_all h0 f _ _ _ (h.rev h0 _ _)
      · exact desc_all h0 f _ _ _ h
    · refine ⟨h _, h _, fun d => ?_⟩
      show AllT n _ (if d = true then KasT.ret (p, x, q) else kas_desc f p (x + 1) (q + 1))
      split
      · exact h
      · exact desc_all h0 f _ _ _ h⟩
theorem tail3_all {n : Nat} (h0 : 0 < n) {p : Array Nat} (h : El n p) (x r : Nat) : AllT n (fun r => El n r.2) (kas_tail3 x r p) :=
  AllT.bind (asc_all (h.rev h0 0 x) _ _) fun _ _ => h.rev h0 0 x
theorem descPart_all {n : Nat} (h0 : 0 < n) {p : Array Nat} (h : El n p) (x r : Nat) : AllT n (fun r => El n r.2) (kas_descPart x r p) :=
  AllT.bind (desc_all h0 _ _ _ _ h) fun a ha => by
    split
    · exact tail3_all h0 (ha.rev h0 _ _) _ _
    · exact tail3_all h0 ha _ _
theorem count_all {n : Nat} (h0 : 0 < n) {p : Array Nat} (h : El n p) (r : Nat) : AllT n (fun r => El n r.2) (kas_count r p) :=
  AllT.bind (asc_all h _ _) fun a _ => by
    split
    · exact h
    · split
      · refine ⟨h _, h _, fun b => ?_⟩
        show AllT n _ (if b = true then KasT.ret (a, p) else kas_descPart a r (kas_rev p 0 a))
        split
        · exact h
        · exact descPart_all h0 (h.rev h0 _ _) _ _
      · exact descPart_all h0 h _ _
theorem place_all {n : Nat} {p : Array Nat} (h : El n p) (k : Nat) : ∀ f l r, AllT n (fun _ => True) (kas_place p k f l r)
  | 0, l, r => trivial
  | f + 1, l, r => by
    rw [kas_place]
    split
    · trivial
    · exact ⟨h _, h _, fun | true => place_all h k f _ _ | false => place_all h k f _ _⟩
theorem bin_all {n : Nat} (h0 : 0 < n) : ∀ (f : Nat) (p : Array Nat) (k : Nat), El n p → AllT n (fun _ => True) (kas_bin f p k)
  | 0, p, k, h => trivial
  | f + 1, p, k, h => AllT.bind (place_all h k _ _ _) fun l _ => bin_all h0 f _ _ (h.perm (bubble_perm _ _ _) h0)
theorem sort_all {n : Nat} (h0 : 0 < n) : AllT n (fun _ => True) (kas_sort n) :=
  AllT.bind (count_all h0 (fun i => by
    rw [getD_arr]
    by_cases hi : i < n
    · rw [List.getD_eq_getElem?_getD, List.getElem?_range hi]; exact hi
    · rw [List.getD_eq_getElem?_getD, List.getElem?_eq_none (by rw [List.length_range]; lia)]; exact h0) n) fun r hr => by
    split
    · exact bin_all h0 _ _ _ hr
    · trivial
theorem wp_run {α : Type} {K : Nat → Int} {n : Nat} {cmp : Nat → Nat → (Bool → Shared → Prop) → Shared → Prop} {s : Shared} (hc : ∀ i j, i < n → j < n → ∀ C : Bool → Shared → Prop, C (decide (K i < K j)) s → cmp i j C s) {Pr : α → Prop} : ∀ (t : KasT α) (Q : α → Shared → Prop), AllT n Pr t → Q (run K t) s → t.kasWp cmp Q s
  | .ret a, Q, _, h => h
  | .ask i j k, Q, ha, h => hc i j ha.1 ha.2.1 _ (wp_run hc (k _) Q (ha.2.2 _) h)
end
end Mine
end

section
open PySem PySem.W PyProof.Rows PySem.Calls
set_option maxRecDepth 100000
namespace Mine
section
variable {P : Wd} {C : Cx P} {Γ Γ' : GEnv} {k : Nat} {kl : Led} {m : Str → Option Value} {fz mu : Led} {s : Shared}

/-- one entry in front -/
theorem St.front (hS : St C kl m fz mu s) (hcm : C.cm = none) {a : Addr} {o : Obj} (ha : (a, o) ∈ mu) (hk : ∀ p ∈ kl, p.1 ≠ a) : ∃ rest, Fr C.g C.L s.heap m ∧ News C.g C.L s.heap ((a, o) :: rest) ∧ (∀ p ∈ rest, p.1 ≠ a) ∧
    ∀ h' o', Fr C.g C.L h' m → News C.g C.L h' ((a, o') :: rest) → St C kl m fz (mset mu a o') { s with heap := h' } := by
  obtain ⟨⟨mf, f1, F⟩, ⟨tb, T, N, A⟩, kp, wd⟩ := hS
  have em : mf = m := by unfold Fm at f1; rw [hcm] at f1; exact f1
  subst em
  have hrest : ∀ p ∈ fz ++ (mdel mu a ++ tb), p.1 ≠ a := by
    intro p hp
    rcases List.mem_append.mp hp with h | h
    · exact A.2 p h (a, o) (List.mem_append_left _ ha)
    · rcases List.mem_append.mp h with h | h
      · exact (mem_mdel.mp h).2
      · intro q
        have nd := A.1
        rw [List.map_append, List.nodup_append] at nd
        exact nd.2.2 a (List.mem_map_of_mem ha) p.1 (List.mem_map_of_mem h) q.symm
  refine ⟨fz ++ (mdel mu a ++ tb), F, fun p hp => N p ?_, hrest, fun h' o' F' N' => ⟨⟨mf, f1' hcm, F'⟩, ⟨tb, T, fun p hp => ?_, ?_⟩, fun p hp => mem_mset_ne (kp hp) (hk p hp), wd⟩⟩
  · rcases List.mem_cons.mp hp with rfl | hp
    · exact List.mem_append_right _ (List.mem_append_left _ ha)
    · simp only [List.mem_append] at hp ⊢
      rcases hp with h | h | h
      · exact .inl h
      · exact .inr (.inl (mem_mdel.mp h).1)
      · exact .inr (.inr h)
  · refine N' p ?_
    rcases List.mem_append.mp hp with h | h
    · exact .tail _ (List.mem_append_left _ h)
    · rcases List.mem_append.mp h with h | h
      · rcases of_mem_mset h with ⟨rfl, _⟩ | ⟨h1, h2⟩
        · exact .head _
        · exact .tail _ (List.mem_append_right _ (List.mem_append_left _ (mem_mdel.mpr ⟨h1, h2⟩)))
      · exact .tail _ (List.mem_append_right _ (List.mem_append_right _ h))
  · refine ⟨by rw [List.map_append, mset_fst, ← List.map_append]; exact A.1, fun p hp q hq => ?_⟩
    rcases List.mem_append.mp hq with h | h
    · rcases of_mem_mset h with ⟨rfl, _⟩ | ⟨h1, h2⟩
      · exact hrest p (List.mem_append_left _ hp)
      · exact A.2 p hp q (List.mem_append_left _ h1)
    · exact A.2 p hp q (List.mem_append_right _ h)
where f1' (hcm : C.cm = none) {m : Str → Option Value} {mu : Led} : Fm C m mu m := by unfold Fm; rw [hcm]

theorem CxOk.in2 (O : CxOk C k) : CxOk (C.up C.A.in1.in1) (k + 2) := O.in1.in1
theorem EnvRep.up {A : Around} (h : EnvRep C kl m fz mu Γ) : EnvRep (C.up A) kl m fz mu Γ := ⟨h.at_, h.inj, h.cel⟩

/-- the places in sorted order -/
noncomputable def ordK (K : Nat → Int) (n : Nat) : List Nat := (run K (kas_sort n)).toList
theorem ordK_good {K : Nat → Int} {n : Nat} (h : 1 ≤ n) : Good K (ordK K n) n := by
  obtain ⟨P, e, g⟩ := sort_good (K := K) h
  unfold ordK
  rw [e]
  simpa using g
theorem IntsAre.at {vs : List Value} {ns : List Int} (h : IntsAre vs ns) {i : Nat} (hi : i < ns.length) : ∃ t, vs.getD i Value.none = .int (ns.getD i 0) t := by
  induction h generalizing i with
  | nil => simp at hi
  | cons n t r ih =>
    cases i with
    | zero => exact ⟨t, rfl⟩
    | succ i => exact ih (by simpa using hi)
theorem Reps.pick {vs : List Value} {ds : List D} (h : Reps fz vs ds) (l : List Nat) (hl : ∀ i ∈ l, i < ds.length) : Reps fz (l.map fun i => vs.getD i Value.none) (l.map fun i => ds.getD i .none) := by
  induction l with
  | nil => exact .nil
  | cons i l ih =>
    have hi := hl i (.head _)
    obtain ⟨v, e1, e2⟩ := h.get (i := i) (d := ds[i]) (List.getElem?_eq_getElem hi)
    refine .cons ?_ (ih fun j hj => hl j (.tail _ hj))
    show Rep fz (vs.getD i Value.none) (ds.getD i .none)
    rw [List.getD_eq_getElem?_getD, List.getD_eq_getElem?_getD, e1, List.getElem?_eq_getElem hi]
    exact e2

theorem kat_keys_ok (O : CxOk C k) (hcm : C.cm = none) {F : FnD} {K : Nat → Int} {ds : List D} {f : Value} {kS D0 : Addr} {oD : Obj} (hkey : ∀ i d, ds[i]? = some d → CallFn C Γ F [d] (.int (K i))) {Fin : List Value → Nat → Shared → Prop} {mu0 kl : Led} (hk0 : ∀ p ∈ mu0, p.1 ≠ kS) (hkl : ∀ p ∈ kl, p.1 ≠ kS) :
    ∀ (rest : List Value) (i : Nat) (dr : List D) (ks : List Value) (e : Nat) (fz mu : Led) (s : Shared), dr = ds.drop i → Reps fz rest dr → EnvRep C kl m fz mu0 Γ → mu0 ⊆ mu → St C kl m fz mu s → Rep fz f (.fn F) → (kS, seqObj "list" ks.toArray e) ∈ mu → IntsAre ks ((List.range i).map K) → i ≤ ds.length →
      (∀ fz' mu' s' ks' e', fz ⊆ fz' → St C kl m fz' mu' s' → (kS, seqObj "list" ks'.toArray e') ∈ mu' → IntsAre ks' ((List.range ds.length).map K) → mu0 ⊆ mu' → Fin ks' e' s') →
      KatKeys P.prog P.w C.A C.g C.L m kS f Fin rest ks e s
  | [], i, dr, ks, e, fz, mu, s, hd, hr, hE, hmu, hS, hf, hm, hi, hle, hfin => by
    cases hr
    have hn : ds.length ≤ i := by
      have : (ds.drop i).length = 0 := by rw [← hd]; rfl
      rw [List.length_drop] at this; lia
    have : i = ds.length := by (apply Nat.le_antisymm <;> omega)
    subst this
    exact KatKeys.nil (hfin fz mu s ks e (List.Subset.refl _) hS hm hi hmu)
  | v :: rest, i, dr, ks, e, fz, mu, s, hd, hr, hE, hmu, hS, hf, hm, hi, hle, hfin => by
    cases hr with | cons h1 hr =>
    rename_i d dr
    have hi' : ds[i]? = some d := by
      have : (ds.drop i)[0]? = some d := by rw [← hd]; rfl
      rw [List.getElem?_drop] at this
      exact this
    have hlt : i < ds.length := (List.getElem?_eq_some_iff.mp hi').1
    refine KatKeys.cons (hkey i d hi' (hE.more hmu) hS hf (.cons h1 .nil) fun fz1 s1 v1 k1 S1 r1 => ?_)
    obtain ⟨t, rfl⟩ := r1.int_inv
    obtain ⟨rest', F1, N1, hne, back⟩ := S1.front hcm hm hkl
    refine KatBack.intro F1 N1 (UpdF.head hne) fun h' c F' N' => ?_
    have S2 := back h' _ F' N'
    refine kat_keys_ok (D0 := D0) (oD := oD) O hcm hkey hk0 hkl rest (i + 1) dr (ks ++ [.int (K i) t]) c fz1 _ _ ?_ (hr.mono k1) (hE.mono k1) (fun p hp => mem_mset_ne (hmu hp) (hk0 p hp)) S2 (hf.mono k1) (mem_mset_self hm) ?_ hlt fun fz' mu' s' ks' e' k' S' hm' hi'' hmem => hfin fz' mu' s' ks' e' (fun _ h => k' (k1 h)) S' hm' hi'' hmem
    · have := congrArg List.tail hd
      rw [List.tail_drop] at this
      exact this
    · rw [List.range_succ, List.map_append]
      exact ksk_snoc hi

theorem sortKey_ok (O : CxOk C k) (hcm : C.cm = none) {F : FnD} {K : Nat → Int} {ds : List D} (h2 : 2 ≤ ds.length) (h64 : ds.length < 64) (hkey : ∀ i d, ds[i]? = some d → CallFn (C.up C.A.in1.in1) Γ F [d] (.int (K i)))
    (hE : EnvRep C kl m fz mu Γ) (hS : St C kl m fz mu s) {v f : Value} (hv : Rep fz v (.lst ds)) (hf : Rep fz f (.fn F)) {Q : Value → Shared → Prop}
    (hQ : ∀ fz' s' u, fz ⊆ fz' → St C kl m fz' mu s' → Rep fz' u (.lst ((ordK K ds.length).map fun i => ds.getD i .none)) → Q u s') : wpAny (model P.prog P.w) C.A (call (.builtin "sorted") [v] ((["key"] : List Str).zip [f])) Q noE s := by
  obtain ⟨l, vs, n, rfl, hm, hr⟩ := hv.lst_inv
  obtain ⟨q, hq⟩ : ∃ q, f = .ref q := by cases hf; exact ⟨_, rfl⟩
  subst hq
  have hlen := hr.length
  obtain ⟨⟨mf, f1, F0⟩, ⟨tb, T, N, A⟩, kp, wd⟩ := id hS
  have em : mf = m := by unfold Fm at f1; rw [hcm] at f1; exact f1
  subst em
  refine kat_sortedK (b := false) (f := .ref q) (kw := (["key"] : List Str).zip [.ref q]) F0 N (hS.isList hm) (by simp [*]) (by simp [*]) (ksk_s1 _ _) (fun x => ksk_l1 _ _) (fun x => ksk_t1 q x) fun D kS e1 h' F' N' l1 l2 => ?_
  have frD : ∀ p ∈ fz ++ (mu ++ tb), p.1 ≠ D := fun p hp => Nat.ne_of_lt (l2 p hp)
  have frK : ∀ p ∈ fz ++ (mu ++ tb), p.1 ≠ kS := fun p hp => Nat.ne_of_lt (Nat.lt_trans (l2 p hp) l1)
  have S1 : St (C.up C.A.in1.in1) kl mf fz ((kS, seqObj "list" #[] 0) :: (D, seqObj "list" #[] e1) :: mu) { s with heap := h' } := by
    refine ⟨⟨mf, f1.mono (fun p hp => .tail _ (.tail _ hp)), F'⟩, ⟨tb, T, fun p hp => N' p ?_, ?_, fun p hp q hq => ?_⟩, fun p hp => .tail _ (.tail _ (kp hp)), wd⟩
    · simp only [List.mem_append, List.mem_cons] at hp ⊢
      rcases hp with h | (h | h | h) | h
      · exact .inr (.inr (.inl h))
      · exact .inl h
      · exact .inr (.inl h)
      · exact .inr (.inr (.inr (.inl h)))
      · exact .inr (.inr (.inr (.inr h)))
    · rw [List.cons_append, List.cons_append, List.map_cons, List.map_cons, List.nodup_cons, List.nodup_cons]
      refine ⟨fun hmm => ?_, fun hmm => ?_, A.1⟩
      · rcases List.mem_cons.mp hmm with h | h
        · exact Nat.ne_of_gt l1 h
        · obtain ⟨q, hq, e⟩ := List.mem_map.mp h
          exact frK q (List.mem_append_right _ hq) e
      · obtain ⟨q, hq, e⟩ := List.mem_map.mp hmm
        exact frD q (List.mem_append_right _ hq) e
    · rw [List.cons_append, List.cons_append] at hq
      rcases List.mem_cons.mp hq with rfl | hq
      · exact frK p (List.mem_append_left _ hp)
      · rcases List.mem_cons.mp hq with rfl | hq
        · exact frD p (List.mem_append_left _ hp)
        · exact A.2 p hp q hq
  have muK : ∀ p ∈ (D, seqObj "list" #[] e1) :: mu, p.1 ≠ kS := by
    intro p hp
    rcases List.mem_cons.mp hp with rfl | hp
    · exact Nat.ne_of_lt l1
    · exact frK p (List.mem_append_right _ (List.mem_append_left _ hp))
  have klK : ∀ p ∈ kl, p.1 ≠ kS := fun p hp => muK p (.tail _ (kp hp))
  have klD : ∀ p ∈ kl, p.1 ≠ D := fun p hp => frD p (List.mem_append_right _ (List.mem_append_left _ (kp hp)))
  refine kat_keys_ok (C := C.up C.A.in1.in1) (D0 := D) (oD := seqObj "list" #[] e1) (mu0 := (D, seqObj "list" #[] e1) :: mu) (kl := kl) O.in2 hcm hkey muK klK vs 0 ds [] 0 fz _ _ rfl hr ((hE.up).more (List.subset_cons_self _ _)) (List.subset_cons_self _ _) S1 hf (.head _) .nil (Nat.zero_le _) fun fz2 mu2 s2 ks e2 k2 S2 hm2 hi hmem => ?_
  have hk2 : ks.length = ds.length := by rw [hi.length]; simp
  rw [ksk_kind (keys := ks.toArray) (kz := (List.range ds.length).map K) (by simpa using hi) (by rw [List.size_toArray]; (clear hlen; omega))]
  refine wpAny_pure ?_
  rw [hlen]
  refine wp_run (K := K) (n := ds.length) (Pr := fun _ => True) (fun i j hi' hj' C0 h0 => ?_) _ _ (sort_all (by lia)) ?_
  · obtain ⟨ti, e1⟩ := IntsAre.at hi (i := i) (by simpa using hi')
    obtain ⟨tj, e2⟩ := IntsAre.at hi (i := j) (by simpa using hj')
    have ei : ((List.range ds.length).map K).getD i 0 = K i := by rw [List.getD_eq_getElem?_getD, List.getElem?_map, List.getElem?_range hi']; rfl
    have ej : ((List.range ds.length).map K).getD j 0 = K j := by rw [List.getD_eq_getElem?_getD, List.getElem?_map, List.getElem?_range hj']; rfl
    unfold kas_ask katRev
    rw [if_neg Bool.false_ne_true, e1, e2, ei, ej]
    exact kat_lt_int h0
  · have hD2 : (D, seqObj "list" #[] e1) ∈ mu2 := hmem (.head _)
    obtain ⟨rest1, Fa, Na, hna, back1⟩ := S2.front hcm hm2 klK
    refine KatFin.intro Fa Na (UpdF.head hna) fun h3 c3 F3 N3 => ?_
    have S3 := back1 h3 _ F3 N3
    have hD3 := mem_mset_ne (a := kS) (o' := seqObj "list" #[] c3) hD2 (Nat.ne_of_lt l1)
    obtain ⟨rest2, Fb, Nb, hnb, back2⟩ := S3.front hcm hD3 klD
    refine KasFin.intro Fb Nb (UpdF.head hnb) fun h4 c4 F4 N4 => ?_
    have S4 := back2 h4 _ F4 N4
    have hD4 := mem_mset_self (o' := listOf (List.toArray (katRev false ((run K (kas_sort ds.length)).toList.map fun i => (katRev false vs).getD i Value.none))) c4) hD3
    have hmu4 : mu ⊆ mset (mset mu2 kS (seqObj "list" #[] c3)) D (listOf (List.toArray (katRev false ((run K (kas_sort ds.length)).toList.map fun i => (katRev false vs).getD i Value.none))) c4) := by
      intro p hp
      exact mem_mset_ne (mem_mset_ne (hmem (.tail _ hp)) (muK p (.tail _ hp))) (frD p (List.mem_append_right _ (List.mem_append_left _ hp)))
    have S5 := S4.frz hD4 hmu4 hS.nodup (fun p hp => frD p (List.mem_append_right _ (List.mem_append_left _ hp))) kp hcm
    refine hQ _ _ _ (fun p hp => .tail _ (k2 hp)) ⟨S5.F, S5.N, S5.kept, S5.wd⟩ (.lst (n := c4) (vs := (ordK K ds.length).map fun i => vs.getD i Value.none) (.head _) ?_)
    refine ((hr.mono k2).pick _ fun i hi => ?_).mono (List.subset_cons_self _ _)
    exact (ordK_good (K := K) (by lia)).lt hi
end
end Mine
end

section
open PySem PySem.W PyProof.Rows PySem.Calls
set_option maxRecDepth 100000
namespace Mine
section
variable {P : Wd} {C : Cx P} {Γ Γ' : GEnv} {k : Nat} {kl : Led} {m : Str → Option Value} {fz mu : Led} {s : Shared}
/-- sorted lays a list of its own: what is left is to sort that one -/
theorem sorted_own (hcm : C.cm = none) (hS : St C kl m fz mu s) {l : Addr} {vs : List Value} {n : Nat} (hm : (l, lstObj vs n) ∈ fz) (hz : vs.length ≤ 1000) {kw : List (Str × Value)} {Q : Value → Shared → Prop}
    (ok1 : argsOk "sorted" ⟨[.ref l], kw⟩) (ok2 : ∀ x, argsOk "list.sort" ⟨[.ref x], kw⟩)
    (go : ∀ D s', St (C.up C.A.in1.in1) kl m fz ((D, lstObj vs 0) :: mu) s' → (∀ p ∈ mu, p.1 ≠ D) → wpAny (model P.prog P.w) C.A.in1.in1 (Builtin.«list.sort» ⟨[.ref D], kw⟩) (fun r s2 => r = .done (.ret .none) ∧ Q (.ref D) s2) noE s') :
    wpAny (model P.prog P.w) C.A (call (.builtin "sorted") [.ref l] kw) Q noE s := by
  have room : vs.length ≤ sizeLine := by rw [sizeLine_eq]; omega
  have S1 := (hS.pushM (lstObj [] 0)).upd (.head _) (fun p hp => hS.freshM p (hS.kept hp)) (fun q => absurd hcm q) (Heap.SameBut.update _ _ (Obj.mapSeq (· ++ vs.toArray))) (get?_update_seq (Heap.get?_push_size _ rfl) _) s.toks
  have fresh : ∀ p ∈ mu, p.1 ≠ _ := fun p hp => S1.freshM p (mem_mset_ne (.tail _ hp) (hS.freshM p hp))
  have S2 := (S1.pushM (lstObj vs 0)).sub (mu' := (_, lstObj vs 0) :: mu) (kl' := kl) (List.cons_subset_cons _ fun p hp => mem_mset_ne (.tail _ hp) (hS.freshM p hp))
    (List.nodup_cons.mpr ⟨fun hp => let ⟨p, h1, h2⟩ := List.mem_map.mp hp; fresh p h1 h2, hS.nodup⟩) (fun p hp => .tail _ (hS.kept hp)) hcm
  have done := go _ _ S2.up fresh
  refine call_function_entry_kw kind_sorted plain_sorted entry_sorted ok1 ?_
  rw [Builtin.«sorted»]
  refine wpAny_bind (m := checkCount "sorted" 1 1 _) (wpAny_pure (wpAny_bind (collect_list (hS.isList hm) (wpAny_bind (wpAny_newList ?_ room)) room)))
  refine wpAny_bind (wpAny_holding (wpAny_call_entry_kw slot_list_sort ⟨_, S2.atM (.head _), rfl⟩ entry_list_sort (wpAny_mono done (fun r s2 q => ?_) fun _ _ q => q.elim) (ok2 _)))
  exact ⟨_, q.1, wpAny_pure ⟨_, rfl, q.2⟩⟩
/-- list.sort of none or one -/
theorem sort_small (hcm : C.cm = none) (hS : St C kl m fz mu s) {D : Addr} {vs : List Value} {n : Nat} (hD : (D, lstObj vs n) ∈ mu) (hk : ∀ p ∈ kl, p.1 ≠ D) (h2 : vs.length < 2) {Pq : PySem.Fin → Shared → Prop} {E : Value → Shared → Prop}
    (go : ∀ fz' mu' c s', fz ⊆ fz' → (D, lstObj vs c) ∈ mu' → (∀ p ∈ mu, p.1 ≠ D → p ∈ mu') → St C kl m fz' mu' s' → Pq (.done (.ret .none)) s') : wpAny (model P.prog P.w) C.A (Builtin.«list.sort» ⟨[.ref D], []⟩) Pq E s := by
  have few : vs.toArray.size < 2 := h2
  have room : ∀ i, vs.length ≤ sizeLine + i := fun i => by rw [sizeLine_eq]; omega
  have same : (arrOf (SortSt.mk' general' (vs.toArray.zip vs.toArray) #[] 7 none)).map (·.2) = vs.toArray := by
    show (vs.toArray.zip vs.toArray).map Prod.snd = vs.toArray
    cases vs with
    | nil => simp
    | cons v r =>
      cases r with
      | nil => simp
      | cons _ _ => exact absurd h2 (by simp)
  have T1 := Heap.SameBut.update s.heap D (Obj.mapSeq fun _ => (#[] : Array Value))
  have G1 := get?_update_seq (hS.atM hD) fun _ => (#[] : Array Value)
  generalize (if (#[] : Array Value).size == vs.toArray.size then n else n + 1) = c1 at G1
  have S1 := hS.upd (o' := lstObj [] c1) hD hk (fun q => absurd hcm q) T1 G1 s.toks
  have S2 := (S1.push (tupObj vs 0)).push (lstObj [] 0)
  have m2 : (D, lstObj [] c1) ∈ mset mu D (lstObj [] c1) := mem_mset_self hD
  have G3 := get?_update_seq (S2.atM m2) fun _ => vs.toArray
  have S3 := S2.upd m2 hk (fun q => absurd hcm q) (Heap.SameBut.update _ _ (Obj.mapSeq fun _ => vs.toArray)) G3 s.toks
  have last := go _ _ _ _ (fun p hp => .tail _ (.tail _ hp)) (mem_mset_self m2) (fun p hp q => mem_mset_ne (mem_mset_ne hp q) q) S3
  rw [list_sort_plain]
  refine wpAny_bind (listItems_at (hS.atM hD) rfl (wpAny_bind (listUpdate_at (hS.atM hD) rfl ?_ (room 0) (Nat.zero_le _))))
  refine wpAny_bind (seqEpoch_at (S1.atM m2) rfl (wpAny_bind (wpAny_newTuple (wpAny_bind (wpAny_newList (wpAny_holding ?_) (Nat.zero_le _))) (room 0))))
  simp only [if_pos few, StateT.run_pure]
  refine wpAny_bind (wpAny_pure (wpAny_bind (wpAny_pure ?_)))
  simp only [same]
  refine wpAny_bind (seqEpoch_at (S2.atM m2) rfl (wpAny_bind (listUpdate_at (S2.atM m2) rfl ?_ (Nat.zero_le _) (room 1))))
  simp only [bne_self_eq_false, Bool.false_eq_true, if_false]
  exact wpAny_pure last

theorem Reps.one {vs : List Value} {d : D} (h : Reps fz vs [d]) : ∃ v, vs = [v] ∧ Rep fz v d := h.c1

/-- sorted with a key, one item -/
theorem sortKey1_ok (O : CxOk C k) (hcm : C.cm = none) {F : FnD} {n0 : Int} {d : D} (hkey : CallFn (C.up C.A.in1.in1) Γ F [d] (.int n0))
    (hE : EnvRep C kl m fz mu Γ) (hS : St C kl m fz mu s) {v f : Value} (hv : Rep fz v (.lst [d])) (hf : Rep fz f (.fn F)) {Q : Value → Shared → Prop}
    (hQ : ∀ fz' s' u, fz ⊆ fz' → St C kl m fz' mu s' → Rep fz' u (.lst [d]) → Q u s') : wpAny (model P.prog P.w) C.A (call (.builtin "sorted") [v] ((["key"] : List Str).zip [f])) Q noE s := by
  obtain ⟨l, vs, n, rfl, hm, hr⟩ := hv.lst_inv
  obtain ⟨x, rfl, hx⟩ := hr.c1
  obtain ⟨q, hq⟩ : ∃ q, f = .ref q := by cases hf; exact ⟨_, rfl⟩
  subst hq
  refine sorted_own hcm hS hm (by simp) (ksk_s1 _ _) (fun x => ksk_l1 _ _) fun D s0 S0 hDmu => ?_
  show wpAny _ _ (Builtin.«list.sort» ⟨[.ref D], [(Str.ofString "key", .ref q)]⟩) _ _ _
  rw [ksk_t1]
  have ho := S0.atM (.head _)
  have hDkl : ∀ p ∈ kl, p.1 ≠ D := fun p hp => hDmu p (hS.kept hp)
  have s1 := Heap.SameBut.update s0.heap D (Obj.mapSeq fun _ => (#[] : Array Value))
  have ho1 := get?_update_seq ho fun _ => (#[] : Array Value)
  generalize (if (#[] : Array Value).size == [x].toArray.size then 0 else 0 + 1) = e1 at ho1
  have S1 := S0.upd (o' := seqObj "list" #[] e1) (.head _) hDkl (fun q => absurd hcm q) s1 ho1 s0.toks
  unfold ksk_tree
  refine wpAny_bind (listItems_at ho rfl ?_)
  refine wpAny_bind (listUpdate_at ho rfl ?_ (by simp [sizeLine_eq]) (Nat.zero_le _))
  refine wpAny_bind (seqEpoch_at ho1 rfl ?_)
  refine wpAny_bind (wpAny_newTuple ?_ (by simp [sizeLine_eq]))
  have S2 := S1.push (seqObj "tuple" [x].toArray 0)
  refine wpAny_bind (wpAny_newList ?_ (Nat.zero_le _))
  have S3 := S2.pushM (seqObj "list" #[] 0)
  refine wpAny_holding ?_
  generalize hs3 : ({ s0 with heap := ((s0.heap.update D (Obj.mapSeq fun _ => (#[] : Array Value))).push (seqObj "tuple" [x].toArray 0)).push (seqObj "list" #[] 0) } : Shared) = s3 at S3 ⊢
  generalize hkS : ((s0.heap.update D (Obj.mapSeq fun _ => (#[] : Array Value))).push (seqObj "tuple" [x].toArray 0)).objs.size = kS at S3 ⊢
  have hfr := S2.freshM
  have hkSm : ∀ p ∈ mset ((D, seqObj "list" [x].toArray 0) :: mu) D (seqObj "list" #[] e1), p.1 ≠ kS := fun p hp => by rw [← hkS]; exact hfr p hp
  have hDm : (D, seqObj "list" #[] e1) ∈ mset ((D, seqObj "list" [x].toArray 0) :: mu) D (seqObj "list" #[] e1) := mem_mset_self (.head _)
  have hmum : mu ⊆ mset ((D, seqObj "list" [x].toArray 0) :: mu) D (seqObj "list" #[] e1) := fun p hp => mem_mset_ne (.tail _ hp) (hDmu p hp)
  generalize mset ((D, seqObj "list" [x].toArray 0) :: mu) D (seqObj "list" #[] e1) = mu3 at *
  obtain ⟨fz2, hfz2, S3b⟩ : ∃ fz2, fz ⊆ fz2 ∧ St (C.up C.A.in1.in1) kl m fz2 ((kS, seqObj "list" #[] 0) :: mu3) s3 := ⟨_, List.subset_cons_self _ _, S3⟩
  have hkk : ∀ p ∈ kl, p.1 ≠ kS := fun p hp => hkSm p (hmum (hS.kept hp))
  have hDk : D ≠ kS := hkSm _ hDm
  unfold ksk_rest
  refine wpAny_bind (wpAny_rule ?_)
  rw [List.forIn_toArray]
  refine wpAny_bind (ksk_fold (fun i s' => if i = 0 then s' = s3 else ∃ fz' t c mu', fz ⊆ fz' ∧ St (C.up C.A.in1.in1) kl m fz' mu' s' ∧ (kS, seqObj "list" #[.int n0 t] c) ∈ mu' ∧ (D, seqObj "list" #[] e1) ∈ mu' ∧ mu ⊆ mu') [x] 0 s3 rfl ?step ?done)
  case step =>
    rintro j y s' hy hJ
    have hj : j = 0 := by
      have := (List.getElem?_eq_some_iff.mp hy).1
      simp at this; exact this
    subst hj
    simp only [Nat.zero_add, if_pos] at hJ
    subst hJ
    have hyx : y = x := by simpa using hy.symm
    subst hyx
    have E3 : EnvRep (C.up C.A.in1.in1) kl m fz2 ((kS, seqObj "list" #[] 0) :: mu3) Γ := ((hE.mono hfz2).more (fun p hp => .tail _ (hmum hp))).up
    refine wpAny_bind (wpAny_attempt (wpAny_mono (hkey E3 S3b (hf.mono hfz2) (.cons (hx.mono hfz2) .nil) fun fz1 s1 v1 k1 S4 r1 => ?_) (fun _ _ q => q) fun _ _ hF => hF.elim))
    obtain ⟨t, rfl⟩ := r1.int_inv
    try dsimp only
    have nk := S4.atM (.head _)
    have u1 := Heap.SameBut.update s1.heap kS (Obj.mapSeq (·.push (.int n0 t)))
    obtain ⟨c2, hc2⟩ : ∃ c2, (s1.heap.update kS (Obj.mapSeq (·.push (.int n0 t)))).get? kS = some (seqObj "list" ((#[] : Array Value).push (.int n0 t)) c2) := ⟨_, get?_update_seq nk (·.push (.int n0 t))⟩
    have S5 := S4.upd (o' := seqObj "list" #[.int n0 t] c2) (.head _) hkk (fun q => absurd hcm q) u1 hc2 s1.toks
    refine wpAny_bind (listUpdate_at nk rfl ?_ (by simp [sizeLine_eq]) (by simp [sizeLine_eq]))
    refine wpAny_pure ⟨rfl, ?_⟩
    rw [if_neg (by decide)]
    exact ⟨fz1, t, c2, _, fun p hp => k1 (hfz2 hp), S5, mem_mset_self (.head _), mem_mset_ne (.tail _ hDm) hDk, fun p hp => mem_mset_ne (.tail _ (hmum hp)) (hkSm p (hmum hp))⟩
  case done =>
    rintro s' hJ
    rw [if_neg (by simp)] at hJ
    obtain ⟨fz1, t, c, mu4, k1, S4, m1, m2, m3⟩ := hJ
    try dsimp only
    refine wpAny_bind (listItems_at (S4.atM m1) rfl ?_)
    obtain ⟨⟨mf, f1, F4⟩, ⟨tb, T, N, A⟩, kp, wd⟩ := id S4
    have em : mf = m := by
      unfold Fm at f1
      rw [show (C.up C.A.in1.in1).cm = none from hcm] at f1
      exact f1
    subst em
    have nd := A.1
    rw [List.map_append, List.nodup_append] at nd
    have nK : ∀ p ∈ fz1 ++ (mdel (mdel mu4 kS) D ++ tb), p.1 ≠ kS := by
      intro p hp
      rcases List.mem_append.mp hp with h | h
      · exact A.2 p h _ (List.mem_append_left _ m1)
      · rcases List.mem_append.mp h with h | h
        · exact (mem_mdel.mp (mem_mdel.mp h).1).2
        · exact fun q => nd.2.2 kS (List.mem_map_of_mem m1) p.1 (List.mem_map_of_mem h) q.symm
    have nD : ∀ p ∈ fz1 ++ (mdel (mdel mu4 kS) D ++ tb), p.1 ≠ D := by
      intro p hp
      rcases List.mem_append.mp hp with h | h
      · exact A.2 p h _ (List.mem_append_left _ m2)
      · rcases List.mem_append.mp h with h | h
        · exact (mem_mdel.mp h).2
        · exact fun q => nd.2.2 D (List.mem_map_of_mem m2) p.1 (List.mem_map_of_mem h) q.symm
    have N2 : News C.g C.L s'.heap ((fz1 ++ (mdel (mdel mu4 kS) D ++ tb)) ++ [(kS, seqObj "list" #[.int n0 t] c), (D, seqObj "list" #[] e1)]) := by
      intro p hp
      refine N p ?_
      rcases List.mem_append.mp hp with hp | hp
      · rcases List.mem_append.mp hp with h | h
        · exact List.mem_append_left _ h
        · rcases List.mem_append.mp h with h | h
          · exact List.mem_append_right _ (List.mem_append_left _ (mem_mdel.mp (mem_mdel.mp h).1).1)
          · exact List.mem_append_right _ (List.mem_append_right _ h)
      · rcases List.mem_cons.mp hp with rfl | hp
        · exact List.mem_append_right _ (List.mem_append_left _ m1)
        · rw [List.mem_singleton.mp hp]
          exact List.mem_append_right _ (List.mem_append_left _ m2)
    refine ksk_end_ (b := false) (vs := [x]) (kz := [n0]) (news := fz1 ++ (mdel (mdel mu4 kS) D ++ tb)) F4 N2 (Ne.symm hDk) nK nD (.cons n0 t .nil) rfl (by simp) fun h4 tk4 out c4 F5 N5 ko => ⟨rfl, ?_⟩
    obtain ⟨ps, p1, p2, p3⟩ := ko
    have p1 : ps = [(n0, x)] := List.perm_singleton.mp p1
    rw [p1] at p2
    have hmk : ∀ p ∈ mu, p ∈ mdel (mdel mu4 kS) D := fun p hp => mem_mdel.mpr ⟨mem_mdel.mpr ⟨m3 hp, hkSm p (hmum hp)⟩, hDmu p hp⟩
    refine hQ ((D, lstObj [x] c4) :: fz1) _ _ (fun p hp => .tail _ (k1 hp)) ⟨⟨mf, ?_, F5⟩, ⟨tb, T.mono (List.subset_cons_self _ _), fun p hp => ?_, ?_⟩, hS.kept, wd⟩ (.lst (n := c4) (.head _) ((Reps.cons hx .nil).mono fun p hp => .tail _ (k1 hp)))
    · unfold Fm; rw [hcm]
    · have eo : out = [x].toArray := by
        apply Array.toList_inj.mp
        rw [p2]; rfl
      subst eo
      refine N5 p ?_
      rcases List.mem_append.mp hp with h | h
      · rcases List.mem_cons.mp h with rfl | h
        · exact .head _
        · exact .tail _ (List.mem_append_left _ h)
      · rcases List.mem_append.mp h with h | h
        · exact .tail _ (List.mem_append_right _ (List.mem_append_left _ (hmk p h)))
        · exact .tail _ (List.mem_append_right _ (List.mem_append_right _ h))
    · refine ⟨?_, fun p hp q hq => ?_⟩
      · rw [List.map_append, List.nodup_append]
        refine ⟨hS.nodup, nd.2.1, fun a ha b hb => nd.2.2 a ?_ b hb⟩
        obtain ⟨p, hp, rfl⟩ := List.mem_map.mp ha
        exact List.mem_map_of_mem (m3 hp)
      · have hq' : q ∈ mdel (mdel mu4 kS) D ++ tb := by
          rcases List.mem_append.mp hq with h | h
          · exact List.mem_append_left _ (hmk q h)
          · exact List.mem_append_right _ h
        rcases List.mem_cons.mp hp with rfl | hp
        · exact fun e => nD q (List.mem_append_right _ hq') e.symm
        · refine A.2 p hp q ?_
          rcases List.mem_append.mp hq with h | h
          · exact List.mem_append_left _ (m3 h)
          · exact List.mem_append_right _ h
end
end Mine
end

section
open PySem PySem.W PyProof.Rows PySem.Calls
set_option maxRecDepth 100000
namespace Mine
noncomputable def sortD (K : Nat → Int) (ds : List D) : List D := if 2 ≤ ds.length then (ordK K ds.length).map fun i => ds.getD i .none else ds
theorem boot_sorted : bootBuiltins "sorted" = some (.builtin "sorted") := by boot_fast
section
variable {P : Wd} {C : Cx P} {Γ Γ' : GEnv} {k : Nat} {kl : Led} {m : Str → Option Value} {fz mu : Led} {s : Shared}
theorem sortKey0_ok (O : CxOk C k) (hcm : C.cm = none) {F : FnD} (hS : St C kl m fz mu s) {v f : Value} (hv : Rep fz v (.lst [])) (hf : Rep fz f (.fn F)) {Q : Value → Shared → Prop}
    (hQ : ∀ fz' s' u, fz ⊆ fz' → St C kl m fz' mu s' → Rep fz' u (.lst []) → Q u s') : wpAny (model P.prog P.w) C.A (call (.builtin "sorted") [v] ((["key"] : List Str).zip [f])) Q noE s := by
  obtain ⟨l, vs, n, rfl, hm, hr⟩ := hv.lst_inv
  cases hr
  obtain ⟨q, hq⟩ : ∃ q, f = .ref q := by cases hf; exact ⟨_, rfl⟩
  subst hq
  obtain ⟨mf, news, F0, N, n1, n2, c1, c2, c3⟩ := hS.opn
  refine ksk_sorted (b := false) (kz := []) (vs := []) (f := .ref q) (kw := (["key"] : List Str).zip [.ref q]) F0 N (hS.isList hm) rfl (by simp) (ksk_s1 _ _) (fun x => ksk_l1 _ _) (fun x => ksk_t1 q x) (fun i v k hi => by simp at hi) fun D h' tk out c F' N' lt ko => ?_
  obtain ⟨ps, p1, p2, p3⟩ := ko
  have p1 : ps = [] := List.perm_nil.mp p1
  rw [p1] at p2
  have eo : out = #[] := Array.toList_inj.mp p2
  subst eo
  exact hQ _ _ _ (List.subset_cons_self _ _) (c2 h' tk D _ F' N' lt) (.lst (vs := []) (n := c) (.head _) .nil)
theorem EV.sortedKey (O : CxOk C k) (hcm : C.cm = none) {f e ke : Expr} {pos kp : Pos} {ds : List D} {F : FnD} {K : Nat → Int} (hf : EV C Γ f (.val (.builtin "sorted"))) (he : EV C Γ e (.lst ds)) (hke : EV C Γ ke (.fn F)) (h64 : ds.length < 64)
    (hkey : ∀ i d, ds[i]? = some d → CallFn (C.up C.A.in1.in1) Γ F [d] (.int (K i)))
    (hst : ∀ env, starEach [e] env = [(false, eval e env)] := by intro _; rfl)
    (hv : ∀ env, eval (.Call f [e] [⟨some "key", ke, kp⟩] pos) env = (do callWith pos (← eval f env) [] (backTo pos (starEach [e] env)) (backToKw pos (keywordEach [⟨some "key", ke, kp⟩] env))) := by intro _; rfl) :
    EV C Γ (.Call f [e] [⟨some "key", ke, kp⟩] pos) (.lst (sortD K ds)) := by
  intro kl m fz mu s Q hE hS hQ
  rw [hv]
  refine wpAny_bind (hf hE hS fun fz1 s1 v1 k1 S1 r1 => ?_)
  obtain rfl := r1.val_inv
  have hs : EVs C Γ [e] [.lst ds] := EVs.cons he EVs.nil (fun env => hst env)
  refine callWith_builtin_kwB (by rw [hst]; rfl) rfl (evalArgs_kw2 rfl (hs pos (hE.mono k1) S1 fun fz2 s2 vs k2 S2 r2 => kwAll_cons (hke ((hE.mono k1).mono k2) S2 fun fz3 s3 v3 k3 S3 r3 => kwAll_nil ?_)) (hst _))
  obtain ⟨v2, rfl, r2v⟩ := r2.c1
  have hfin : ∀ fz' s' u, fz3 ⊆ fz' → St C kl m fz' mu s' → Rep fz' u (.lst (sortD K ds)) → Q u s' := fun fz' s' u k' S' r' => hQ _ _ _ (fun _ h => k' (k3 (k2 (k1 h)))) S' r'
  have E3 := ((hE.mono k1).mono k2).mono k3
  show wpAny _ _ (call (.builtin "sorted") [v2] ((["key"] : List Str).zip [v3])) Q noE s3
  by_cases h2 : 2 ≤ ds.length
  · have es : sortD K ds = (ordK K ds.length).map fun i => ds.getD i .none := by unfold sortD; rw [if_pos h2]
    rw [es] at hfin
    exact sortKey_ok O hcm h2 h64 hkey E3 S3 (r2v.mono k3) r3 hfin
  · have es : sortD K ds = ds := by unfold sortD; rw [if_neg h2]
    rw [es] at hfin
    match ds, h2, hkey, r2v, hfin with
    | [], _, _, r2v, hfin => exact sortKey0_ok O hcm S3 (r2v.mono k3) r3 hfin
    | [d], _, hkey, r2v, hfin => exact sortKey1_ok O hcm (hkey 0 d rfl) E3 S3 (r2v.mono k3) r3 hfin
    | _ :: _ :: _, h2, _, _, _ => exact absurd (by simp) h2

-- ROWS OF INTS
/-- rows sorted by their first -/
noncomputable def sortT (rows : List (List Int)) : List (List Int) := if 2 ≤ rows.length then (ordK (fun i => (rows.getD i []).headD 0) rows.length).map fun i => rows.getD i [] else rows
theorem few_ok (hcm : C.cm = none) {ds : List D} (h2 : ds.length < 2) : CallOk C (.builtin "sorted") [.lst ds] (.lst ds) := by
  intro kl m fz mu s Q vs hS hr hQ
  obtain ⟨v, rfl, hv⟩ := hr.c1
  obtain ⟨l, vs, n, rfl, hm, hr⟩ := hv.lst_inv
  have hlen := hr.length
  refine sorted_own hcm hS hm (by omega) (args_sorted1 _) (fun x => args_list_sort (.ref x)) fun D s1 S1 hD => ?_
  refine sort_small (C := C.up C.A.in1.in1) hcm S1 (.head _) (fun p hp => hD p (hS.kept hp)) (by omega) fun fz' mu' c s2 k2 m2 hmu S2 => ⟨rfl, ?_⟩
  exact hQ _ _ _ (fun p hp => .tail _ (k2 hp)) (S2.down.frz m2 (fun p hp => hmu p (.tail _ hp) (hD p hp)) hS.nodup hD hS.kept hcm) (.lst (n := c) (.head _) (hr.mono fun p hp => .tail _ (k2 hp)))

theorem lex_same {prog : Program} {w : World} {A : Around} {b fin : Bool} {Q : Bool → Shared → Prop} {s : Shared} : ∀ {xs : List Value} {ns : List Int}, IntsAre xs ns → ∀ i, Q fin s → KatLex prog w A b fin Q (xs.zip xs) i s
  | _, _, .nil, i, h => kat_nil h
  | _, _, .cons n t r, i, h => by
    rw [List.zip_cons_cons]
    refine kat_cons (wpAny_eqBool_int ?_)
    have e : (n == n) = true := by simp
    rw [e]
    exact kat_yes (lex_same r (i + 1) h)
theorem lex_head {prog : Program} {w : World} {A : Around} {fin : Bool} {Q : Bool → Shared → Prop} {s : Shared} {a c : Int} {t u : Tok} {r : List (Value × Value)} (hac : a ≠ c) (h : Q (decide (a < c)) s) : KatLex prog w A true fin Q ((.int a t, .int c u) :: r) 0 s := by
  refine kat_cons (wpAny_eqBool_int ?_)
  have e : (a == c) = false := by simpa using hac
  rw [e]
  exact kat_no (oneLt_int h)
theorem tups_kat (hS : St C kl m fz mu s) : ∀ {vs : List Value} {rows : List (List Int)}, (∀ r ∈ rows, r ≠ []) → Reps fz vs (rows.map fun r => D.tup (r.map .int)) → ∃ fs, KatTups s.heap vs fs ∧ fs.length = rows.length ∧ ∀ f ∈ fs, ∃ n t, f = Value.int n t
  | _, [], _, h => by cases h; exact ⟨[], .nil, rfl, fun f hf => by cases hf⟩
  | _, r :: rows, hne, h => by
    cases h with | cons h1 h2 =>
    obtain ⟨fs, a1, a2, a3⟩ := tups_kat hS (fun r hr => hne r (.tail _ hr)) h2
    obtain ⟨a, ws, n, rfl, hm, q⟩ := h1.tup_inv
    match r, hne r (.head _), q with
    | x :: r', _, q =>
      cases q with | cons q1 q2 =>
      obtain ⟨t, rfl⟩ := q1.int_inv
      refine ⟨.int x t :: fs, KatTups.cons (hS.at_ hm) rfl rfl (by simp) a1, by simp [a2], fun f hf => ?_⟩
      rcases List.mem_cons.mp hf with rfl | hf
      · exact ⟨x, t, rfl⟩
      · exact a3 f hf
theorem tup_at {vs : List Value} {rows : List (List Int)} (h : Reps fz vs (rows.map fun r => D.tup (r.map .int))) {i : Nat} (hi : i < rows.length) : ∃ a ws n, vs.getD i Value.none = .ref a ∧ (a, tupObj ws n) ∈ fz ∧ Reps fz ws ((rows.getD i []).map .int) := by
  obtain ⟨v, e1, e2⟩ := h.get (i := i) (d := D.tup ((rows.getD i []).map .int)) (by
    rw [List.getElem?_map, List.getD_eq_getElem?_getD, List.getElem?_eq_getElem hi]; rfl)
  obtain ⟨a, ws, n, rfl, hm, q⟩ := e2.tup_inv
  exact ⟨a, ws, n, by rw [List.getD_eq_getElem?_getD, e1]; rfl, hm, q⟩

theorem head_ne {rows : List (List Int)} (hd : (rows.map (·.headD 0)).Nodup) {i j : Nat} (hi : i < rows.length) (hj : j < rows.length) (hij : i ≠ j) : (rows.getD i []).headD 0 ≠ (rows.getD j []).headD 0 := by
  intro e
  have e1 : (rows.map (·.headD 0))[i]'(by simpa using hi) = (rows.map (·.headD 0))[j]'(by simpa using hj) := by
    rw [List.getElem_map, List.getElem_map]
    rw [List.getD_eq_getElem?_getD, List.getD_eq_getElem?_getD, List.getElem?_eq_getElem hi, List.getElem?_eq_getElem hj] at e
    exact e
  exact hij ((List.getElem_inj hd).mp e1)
theorem sortT_ok (O : CxOk C k) (hcm : C.cm = none) {rows : List (List Int)} (hne : ∀ r ∈ rows, r ≠ []) (hd : (rows.map (·.headD 0)).Nodup) (h64 : rows.length < 64) : CallOk C (.builtin "sorted") [D.tups rows] (D.tups (sortT rows)) := by
  by_cases h2 : 2 ≤ rows.length
  · have es : sortT rows = (ordK (fun i => (rows.getD i []).headD 0) rows.length).map fun i => rows.getD i [] := by unfold sortT; rw [if_pos h2]
    rw [es]
    intro kl m fz mu s Q vs hS hr hQ
    obtain ⟨v, rfl, hv⟩ := hr.c1
    obtain ⟨l, vs, n, rfl, hm, hr⟩ := hv.lst_inv
    have hlen : vs.length = rows.length := by rw [hr.length, List.length_map]
    obtain ⟨⟨mf, f1, F0⟩, ⟨tb, T, N, A⟩, kp, wd⟩ := id hS
    have em : mf = m := by unfold Fm at f1; rw [hcm] at f1; exact f1
    subst em
    refine kat_sorted F0 N (hS.isList hm) (by simp [*]) (by simp [*]) fun D e1 h' F' N' l2 => ?_
    have frD : ∀ p ∈ fz ++ (mu ++ tb), p.1 ≠ D := fun p hp => Nat.ne_of_lt (l2 p hp)
    have S1 : St (C.up C.A.in1.in1) kl mf fz ((D, seqObj "list" #[] e1) :: mu) { s with heap := h' } := by
      refine ⟨⟨mf, f1.mono (fun p hp => .tail _ hp), F'⟩, ⟨tb, T, fun p hp => N' p ?_, ?_, fun p hp q hq => ?_⟩, fun p hp => .tail _ (kp hp), wd⟩
      · simp only [List.mem_append, List.mem_cons] at hp ⊢
        rcases hp with h | (h | h) | h
        · exact .inr (.inl h)
        · exact .inl h
        · exact .inr (.inr (.inl h))
        · exact .inr (.inr (.inr h))
      · rw [List.cons_append, List.map_cons, List.nodup_cons]
        refine ⟨fun hmm => ?_, A.1⟩
        obtain ⟨q, hq, e⟩ := List.mem_map.mp hmm
        exact frD q (List.mem_append_right _ hq) e
      · rw [List.cons_append] at hq
        rcases List.mem_cons.mp hq with rfl | hq
        · exact frD p (List.mem_append_left _ hp)
        · exact A.2 p hp q hq
    obtain ⟨fs, t1, t2, t3⟩ := tups_kat S1 hne hr
    refine kat_kind (T := .type "int") t1 (by lia) (fun f hf => ?_) (by rfl) ?_
    · obtain ⟨n, t, rfl⟩ := t3 f hf
      exact fun A Q E s _ q => wpAny_of_eq (show typeOf (.int n t) = pure (.type "int") from rfl) q
    rw [show ((Value.type "int") != Value.type "tuple") = true from rfl]
    rw [hlen]
    refine wp_run (K := fun i => (rows.getD i []).headD 0) (n := rows.length) (Pr := fun _ => True) (fun i j hi hj C0 h0 => ?_) _ _ (sort_all (by lia)) ?_
    · obtain ⟨a, ws, na, ea, ma, qa⟩ := tup_at hr hi
      obtain ⟨c, us, nc, ec, mc, qc⟩ := tup_at hr hj
      unfold kas_ask
      rw [ea, ec]
      refine kat_lt (S1.at_ ma) rfl (S1.at_ mc) rfl ?_
      by_cases hij : i = j
      · subst hij
        have hac : a = c := by rw [ea] at ec; cases ec; rfl
        subst hac
        have hww : lstObj ws 0 = lstObj us 0 := by
          have h1 := S1.at_ ma
          rw [S1.at_ mc] at h1
          have h2 := congrArg Obj.data (Option.some.inj h1)
          simp only [tupObj] at h2
          injection h2 with h3 h4
          have h5 : us = ws := by simpa using h3
          rw [h5]
        have hwu : ws = us := by
          have h2 := congrArg Obj.data hww
          injection h2 with h3 h4
          simpa using h3
        subst hwu
        rw [List.toList_toArray]
        refine lex_same qa.ints 0 ?_
        rw [decide_eq_false (Nat.lt_irrefl _)]
        rw [decide_eq_false (Int.lt_irrefl _)] at h0
        exact h0
      · have hk := head_ne hd hi hj hij
        have hri : rows.getD i [] ∈ rows := by rw [List.getD_eq_getElem?_getD, List.getElem?_eq_getElem hi]; exact List.getElem_mem hi
        have hrj : rows.getD j [] ∈ rows := by rw [List.getD_eq_getElem?_getD, List.getElem?_eq_getElem hj]; exact List.getElem_mem hj
        generalize rows.getD i [] = ri at *
        generalize rows.getD j [] = rj at *
        match ri, rj, hne ri hri, hne rj hrj, qa, qc, hk, h0 with
        | x :: _, y :: _, _, _, qa, qc, hk, h0 =>
          cases qa with | cons q1 q2 =>
          cases qc with | cons q3 q4 =>
          obtain ⟨t1, rfl⟩ := q1.int_inv
          obtain ⟨t2, rfl⟩ := q3.int_inv
          exact lex_head hk h0
    · have klD : ∀ p ∈ kl, p.1 ≠ D := fun p hp => frD p (List.mem_append_right _ (List.mem_append_left _ (kp hp)))
      obtain ⟨rest2, Fb, Nb, hnb, back2⟩ := S1.front hcm (.head _) klD
      refine KasFin.intro Fb Nb (UpdF.head hnb) fun h4 c4 F4 N4 => ?_
      have S4 := back2 h4 _ F4 N4
      have hD4 := mem_mset_self (o' := listOf (List.toArray ((run (fun i => (rows.getD i []).headD 0) (kas_sort rows.length)).toList.map fun i => vs.getD i Value.none)) c4) (List.mem_cons_self (a := (D, seqObj "list" #[] e1)) (l := mu))
      have S5 := S4.frz hD4 (fun p hp => mem_mset_ne (.tail _ hp) (frD p (List.mem_append_right _ (List.mem_append_left _ hp)))) hS.nodup (fun p hp => frD p (List.mem_append_right _ (List.mem_append_left _ hp))) kp hcm
      refine hQ _ _ _ (List.subset_cons_self _ _) ⟨S5.F, S5.N, S5.kept, S5.wd⟩ (.lst (n := c4) (vs := (ordK (fun i => (rows.getD i []).headD 0) rows.length).map fun i => vs.getD i Value.none) (.head _) ?_)
      have hp := hr.pick (ordK (fun i => (rows.getD i []).headD 0) rows.length) fun i hi => by
        rw [List.length_map]; exact (ordK_good (by lia)).lt hi
      have e2 : ((ordK (fun i => (rows.getD i []).headD 0) rows.length).map fun i => rows.getD i []).map (fun r => Mine.D.tup (r.map .int)) = (ordK (fun i => (rows.getD i []).headD 0) rows.length).map fun i => (rows.map fun r => Mine.D.tup (r.map .int)).getD i .none := by
        rw [List.map_map]
        refine List.map_congr_left fun i hi => ?_
        have hi' := (ordK_good (K := fun i => (rows.getD i []).headD 0) (n := rows.length) (by omega)).lt hi
        show Mine.D.tup ((rows.getD i []).map .int) = _
        rw [List.getD_eq_getElem?_getD, List.getD_eq_getElem?_getD, List.getElem?_map, List.getElem?_eq_getElem hi']
        rfl
      rw [e2]
      exact hp.mono (List.subset_cons_self _ _)
  · have es : sortT rows = rows := by unfold sortT; rw [if_neg h2]
    rw [es]
    exact few_ok hcm (by rw [List.length_map]; lia)
end
end Mine
end

section
open PySem PySem.W PyProof.Rows PySem.Calls
set_option maxRecDepth 100000
namespace Mine
/-- an item of the wheel -/
structure It where
  h : UInt64
  n : Int
  r : Int
  g : Int
  b : Int
noncomputable def It.d (t : It) : D := .lst [.flt t.h, .int t.n, .int t.r, .int t.g, .int t.b]
noncomputable def It.col (t : It) (k : Nat) : Int := [t.r, t.g, t.b].getD k 0
noncomputable def rowsP (items : List It) (k j : Nat) (most : Int) : List (List Int) := (items.filter fun t => decide (t.n ≤ most)).map fun t => [t.n, t.col k, t.col j]

structure KR (K : Frag) : Prop where
  sorted_ : nsIn K mainGlobals "sorted" = some Option.none
  d_rows : IsDef K 183 "_law_rows" "_law_rows" (stm 19) .none .none (.ref 182)
  d_pair : IsDef K 190 "_law_pair" "_law_pair" (stm 20) .none .none (.ref 189)
  d_order : IsDef K 166 "_law_order" "_law_order" (stm 16) .none .none (.ref 165)
  g_rows : nsIn K mainGlobals "_law_rows" = some (some (.ref 183))
  g_place : nsIn K mainGlobals "_law_place" = some (some (.ref 159))
  g_spread : nsIn K mainGlobals "_law_spread" = some (some (.ref 152))

section
variable {P : Wd} {C : Cx P} {Γ Γ' : GEnv} {k : Nat}
theorem item_at (t : It) {i : Nat} (hi : i < 3) : ([D.flt t.h, .int t.n, .int t.r, .int t.g, .int t.b] : List D)[(2 + (i : Int)).toNat]? = some (.int (t.col i)) := by
  have : i = 0 ∨ i = 1 ∨ i = 2 := by lia
  rcases this with rfl | rfl | rfl <;> rfl
theorem rows_ok (X : KR P.K) (O : CxOk C k) (hr : k < 880) {items : List It} {i j : Nat} {most : Int} (hi : i < 3) (hj : j < 3) (hd : (items.map (·.n)).Nodup) (hl : items.length < 64) :
    CallOk C (.ref 183) [.lst (items.map It.d), .int i, .int j, .int most] (D.tups (sortT (rowsP items i j most))) := by
  refine CallOk.dfn O (by lia) X.d_rows (names := ["items", "k", "j", "most"]) (fun C' F _ => ?_) (fun vs doc pm an ct h => ?_) rfl rfl (by decide) (by decide)
  · have hlf := List.length_filter_le (fun t : It => decide (t.n ≤ most)) items
    have hnd : ((rowsP items i j most).map (·.headD 0)).Nodup := by
      unfold rowsP
      rw [List.map_map]
      exact hd.sublist ((List.filter_sublist).map _)
    refine SS.cons (N1 := fun _ => False) (S1.ret (EV.callB (F.boot X.sorted_ boot_sorted) (EVs.cons (d := D.tups (rowsP items i j most)) ?_ EVs.nil) (sortT_ok F.ok F.cm (fun r hr => ?_) hnd (by unfold rowsP; rw [List.length_map]; lia))) rfl) (fun _ h => h.elim)
    · unfold rowsP D.tups
      rw [List.map_map]
      refine EV.compF F.ok F.cm (F.comp _) items It.d _ (fun t => decide (t.n ≤ most)) F.name (by lia) (fun C2 B t ht => ?_) (fun C2 B t ht _ => ?_)
      · exact TV.cmp BinOk.leI (EV.item (ds := [.flt t.h, .int t.n, .int t.r, .int t.g, .int t.b]) (d := .int t.n) (B.name F) EV.cInt (by decide) (by decide) rfl) (B.cell F (d := .int most) rfl)
      · exact EV.tuple (EVs.cons (EV.item (ds := [.flt t.h, .int t.n, .int t.r, .int t.g, .int t.b]) (d := .int t.n) (B.name F) EV.cInt (by decide) (by decide) rfl) (EVs.cons (EV.item (ds := [.flt t.h, .int t.n, .int t.r, .int t.g, .int t.b]) (i := 2 + (i : Int)) (d := .int (t.col i)) (B.name F) (EV.bin BinOk.addI EV.cInt (B.cell F (d := .int i) rfl)) (by lia) (by lia) (item_at t hi))
          (EVs.cons (EV.item (ds := [.flt t.h, .int t.n, .int t.r, .int t.g, .int t.b]) (i := 2 + (j : Int)) (d := .int (t.col j)) (B.name F) (EV.bin BinOk.addI EV.cInt (B.cell F (d := .int j) rfl)) (by lia) (by lia) (item_at t hj)) EVs.nil))) (sizes _ (by simp))
    · unfold rowsP at hr
      obtain ⟨t, _, rfl⟩ := List.mem_map.mp hr
      simp
  · obtain ⟨a1, a2, a3, a4, rfl⟩ := len4 h; rfl

noncomputable def nlwP (w v : Wsp) : List (List Int) := wit (fun a b => decide (b ≤ a)) w.lvl v.lvl (max w.lon v.lon + 1).toNat
noncomputable def newP (w v : Wsp) : List (List Int) := wit (fun a b => a != b) w.lvl v.lvl (max w.lon v.lon + 1).toNat
noncomputable def eqW (w v : Wsp) : Bool := decide (w.cnt = v.cnt ∧ w.b = v.b)
noncomputable def pairB (w v : Wsp) (less more alike : List It) (i j : Nat) (most : Int) : Bool :=
  if nlwP w v ≠ sortT (rowsP (more ++ alike) i j most) then false
  else if nlwP v w ≠ sortT (rowsP (less ++ alike) j i most) then false
  else if newP w v ≠ sortT (rowsP (less ++ more) i j most) then false
  else decide ([lessB w v, lessB v w, eqW w v] = [(more ++ alike).isEmpty, (less ++ alike).isEmpty, (less ++ more).isEmpty])
structure ItsOk (l : List It) : Prop where
  nd : (l.map (·.n)).Nodup
  len : l.length < 64
theorem pair_ok (X : KR P.K) (XW : KW P.K) (O : CxOk C k) (hr : k < 860) {ws : List Wsp} {w v : Wsp} {less more alike : List It} {i j : Nat} {most : Int} (hi : i < 3) (hj : j < 3) (hlen : ws.length ≤ 100) (hw : ws[i]? = some w) (hv : ws[j]? = some v) (sw : w.Sm) (sv : v.Sm)
    (h1 : ItsOk (more ++ alike)) (h2 : ItsOk (less ++ alike)) (h3 : ItsOk (less ++ more)) :
    CallOk C (.ref 190) [.lst (ws.map .ws), .int i, .int j, .int most, .lst [.lst (less.map It.d), .lst (more.map It.d), .lst (alike.map It.d)]] (.bool (pairB w v less more alike i j most)) := by
  have wi : (ws.map D.ws)[((i : Nat) : Int).toNat]? = some (.ws w) := by
    have : ((i : Nat) : Int).toNat = i := by simp
    rw [this, List.getElem?_map, hw]; rfl
  have vj : (ws.map D.ws)[((j : Nat) : Int).toNat]? = some (.ws v) := by
    have : ((j : Nat) : Int).toNat = j := by simp
    rw [this, List.getElem?_map, hv]; rfl
  have ll : less.length < 64 := by have := h2.len; rw [List.length_append] at this; lia
  have lm : more.length < 64 := by have := h1.len; rw [List.length_append] at this; lia
  have la : alike.length < 64 := by have := h1.len; rw [List.length_append] at this; lia
  have addE : ∀ a b : List It, BinOk C (binaryOp .Add) (.lst (a.map It.d)) (.lst (b.map It.d)) (.lst ((a ++ b).map It.d)) → True := fun _ _ _ => trivial
  refine CallOk.dfn O (by lia) X.d_pair (names := ["spaces", "k", "j", "most", "cut"]) (fun C' F _ => ?_) (fun vs doc pm an ct h => ?_) rfl rfl (by decide) (by decide)
  · have plus : ∀ {a b : List It}, a.length < 64 → b.length < 64 → BinOk C' (binaryOp .Add) (.lst (a.map It.d)) (.lst (b.map It.d)) (.lst ((a ++ b).map It.d)) := by
      intro a b ha hb
      rw [List.map_append]
      exact BinOk.addL (by rw [List.length_map, List.length_map, sizeLine_eq]; lia)
    refine SS.one (S1.unpackL F.ok (xs := [("less", _), ("more", _), ("alike", _)]) rfl (fun x hx => ?_) F.name rfl) ?_
    · simp only [List.mem_cons, List.not_mem_nil, or_false] at hx
      rcases hx with rfl | rfl | rfl <;> exact F.st
    refine SS.one (S1.assign F.ok F.st (EV.item F.name F.name (by simp) (by lia) wi)) ?_
    refine SS.one (S1.assign F.ok F.st (EV.item F.name F.name (by simp) (by lia) vj)) ?_
    refine SS.cons (N1 := fun G => G = _ ∧ nlwP w v = sortT (rowsP (more ++ alike) i j most)) (S1.ite (TV.cmp (BinOk.neP F.ok (by lia) (pl_tups _) (pl_tups _) (eqv_tups _ _)) (EV.meth F.ok XW.m_nless (by decide) (F.name (d := .ws w)) (EVs.cons (F.name (d := .ws v)) EVs.nil) (nless_ok XW F.ok (by lia) sw sv))
      (EV.callK F.ok X.d_rows.k (F.glob X.g_rows) (EVs.cons (EV.bin (plus lm la) F.name F.name) (EVs.cons F.name (EVs.cons F.name (EVs.cons F.name EVs.nil)))) (rows_ok X F.ok (by omega) hi hj h1.nd h1.len)))
      (fun hb => SS.cons (N1 := fun _ => False) (S1.ret EV.cBool ?_) (fun _ h => h.elim)) (fun hb => SS.nil ⟨rfl, ?_⟩)) (fun G hG => ?_)
    · have hb' : nlwP w v ≠ sortT (rowsP (more ++ alike) i j most) := by simpa [nlwP] using hb
      unfold pairB; rw [if_pos hb']
    · have hb' : nlwP w v = sortT (rowsP (more ++ alike) i j most) := by simpa [nlwP] using hb
      exact hb'
    obtain ⟨rfl, e1⟩ := hG
    refine SS.cons (N1 := fun G => G = _ ∧ nlwP v w = sortT (rowsP (less ++ alike) j i most)) (S1.ite (TV.cmp (BinOk.neP F.ok (by omega) (pl_tups _) (pl_tups _) (eqv_tups _ _)) (EV.meth F.ok XW.m_nless (by decide) (F.name (d := .ws v)) (EVs.cons (F.name (d := .ws w)) EVs.nil) (nless_ok XW F.ok (by omega) sv sw))
      (EV.callK F.ok X.d_rows.k (F.glob X.g_rows) (EVs.cons (EV.bin (plus ll la) F.name F.name) (EVs.cons F.name (EVs.cons F.name (EVs.cons F.name EVs.nil)))) (rows_ok X F.ok (by omega) hj hi h2.nd h2.len)))
      (fun hb => SS.cons (N1 := fun _ => False) (S1.ret EV.cBool ?_) (fun _ h => h.elim)) (fun hb => SS.nil ⟨rfl, ?_⟩)) (fun G hG => ?_)
    · have hb' : nlwP v w ≠ sortT (rowsP (less ++ alike) j i most) := by simpa [nlwP] using hb
      unfold pairB; rw [if_neg (by simp [e1]), if_pos hb']
    · have hb' : nlwP v w = sortT (rowsP (less ++ alike) j i most) := by simpa [nlwP] using hb
      exact hb'
    obtain ⟨rfl, e2⟩ := hG
    refine SS.cons (N1 := fun G => G = _ ∧ newP w v = sortT (rowsP (less ++ more) i j most)) (S1.ite (TV.cmp (BinOk.neP F.ok (by omega) (pl_tups _) (pl_tups _) (eqv_tups _ _)) (EV.meth F.ok XW.m_neq (by decide) (F.name (d := .ws w)) (EVs.cons (F.name (d := .ws v)) EVs.nil) (neq_ok XW F.ok (by omega) sw sv))
      (EV.callK F.ok X.d_rows.k (F.glob X.g_rows) (EVs.cons (EV.bin (plus ll lm) F.name F.name) (EVs.cons F.name (EVs.cons F.name (EVs.cons F.name EVs.nil)))) (rows_ok X F.ok (by omega) hi hj h3.nd h3.len)))
      (fun hb => SS.cons (N1 := fun _ => False) (S1.ret EV.cBool ?_) (fun _ h => h.elim)) (fun hb => SS.nil ⟨rfl, ?_⟩)) (fun G hG => ?_)
    · have hb' : newP w v ≠ sortT (rowsP (less ++ more) i j most) := by simpa [newP] using hb
      unfold pairB; rw [if_neg (by simp [e1]), if_neg (by simp [e2]), if_pos hb']
    · have hb' : newP w v = sortT (rowsP (less ++ more) i j most) := by simpa [newP] using hb
      exact hb'
    obtain ⟨rfl, e3⟩ := hG
    have emp : ∀ a : List It, (a.map It.d).isEmpty = a.isEmpty := fun a => by cases a <;> rfl
    have ed : pairB w v less more alike i j most = decide ([lessB w v, lessB v w, eqW w v] = [(more ++ alike).isEmpty, (less ++ alike).isEmpty, (less ++ more).isEmpty]) := by
      unfold pairB; rw [if_neg (by simp [e1]), if_neg (by simp [e2]), if_neg (by simp [e3])]
    rw [ed]
    refine SS.one (S1.assign F.ok F.st (d := D.bools [(more ++ alike).isEmpty, (less ++ alike).isEmpty, (less ++ more).isEmpty]) ?_) ?_
    · rw [← emp (more ++ alike), ← emp (less ++ alike), ← emp (less ++ more)]
      exact EV.list (EVs.cons (EV.cmp (BinOk.eqNil F.ok (by omega)) (EV.bin (plus lm la) F.name F.name) (EV.list EVs.nil (sizes _ (by simp)))) (EVs.cons (EV.cmp (BinOk.eqNil F.ok (by omega)) (EV.bin (plus ll la) F.name F.name) (EV.list EVs.nil (sizes _ (by simp)))) (EVs.cons (EV.cmp (BinOk.eqNil F.ok (by omega)) (EV.bin (plus ll lm) F.name F.name) (EV.list EVs.nil (sizes _ (by simp)))) EVs.nil))) (sizes _ (by simp))
    · exact SS.cons (N1 := fun _ => False) (S1.ret (EV.cmp (BinOk.eqP F.ok (by omega) (pl_bools [lessB w v, lessB v w, eqW w v]) (pl_bools _) (eqv_bools _ _)) (EV.list (EVs.cons (EV.meth F.ok XW.m_less (by decide) (F.name (d := .ws w)) (EVs.cons (F.name (d := .ws v)) EVs.nil) (less_ok XW F.ok (by omega) sw sv))
        (EVs.cons (EV.meth F.ok XW.m_less (by decide) (F.name (d := .ws v)) (EVs.cons (F.name (d := .ws w)) EVs.nil) (less_ok XW F.ok (by omega) sv sw)) (EVs.cons (EV.meth F.ok XW.m_equal (by decide) (F.name (d := .ws w)) (EVs.cons (F.name (d := .ws v)) EVs.nil) (equal_ok XW F.ok (by lia))) EVs.nil))) (sizes _ (by simp))) F.name) rfl) (fun _ h => h.elim)
  · obtain ⟨a1, a2, a3, a4, a5, rfl⟩ := len5 h; rfl
end
end Mine
end

section
open PySem PySem.W PyProof.Rows PySem.Calls
set_option maxRecDepth 100000
namespace Mine
/-- a row of columns -/
structure Rw where
  n : Int
  r : Int
  g : Int
  b : Int
noncomputable def Rw.d (t : Rw) : D := .lst [.int t.n, .int t.r, .int t.g, .int t.b]
noncomputable def Rw.spr (t : Rw) : Int := Mine.spr t.r t.g t.b
structure Rw.Sm (t : Rw) : Prop where
  r : 0 ≤ t.r ∧ t.r ≤ 1000
  g : 0 ≤ t.g ∧ t.g ≤ 1000
  b : 0 ≤ t.b ∧ t.b ≤ 1000
noncomputable def wholeP : List Rw → Int
  | l => l.foldl (fun a t => a * t.spr) 1
noncomputable def Rw.place (t : Rw) (whole : Int) : Int := placeI t.r t.g t.b whole
structure TabsP (P : Wd) : Prop where
  order : (165, 161, ("_law_order.<locals>.<lambda>" : Str)) ∈ P.tabs
  wheel : (170, 168, ("_law_wheel.<locals>.<lambda>" : Str)) ∈ P.tabs
  cut : (177, 173, ("_law_cut.<locals>.<lambda>" : Str)) ∈ P.tabs

theorem mulOkR {a b : Int} (h : b.natAbs < 2 ^ 62) : IntMulOk a b := by
  refine IntMulOk.of_right ?_
  unfold Builtin.Int.intBits
  split
  · simp
  · rename_i h0
    have h0' : b.natAbs ≠ 0 := by
      intro e
      exact h0 (by simp [Int.natAbs_eq_zero.mp e])
    have := (Nat.log2_lt h0').mpr h
    lia

section
variable {P : Wd} {C : Cx P} {Γ Γ' : GEnv} {k : Nat}
theorem order_ok (X : KR P.K) (XD : KD P.K) (XT : TabsP P) (O : CxOk C k) (hr : k < 860) {rows : List Rw} (hs : ∀ t ∈ rows, t.Sm ∧ 1 ≤ t.spr) (hlen : rows.length < 64) :
    CallOk C (.ref 166) [.lst (rows.map Rw.d)] (.lst (sortD (fun i => ((rows[i]?).elim 0 fun t => t.place (wholeP rows))) (rows.map Rw.d))) := by
  refine CallOk.dfn O (by lia) X.d_order (names := ["rows"]) (fun C' F _ => ?_) (fun vs doc pm an ct h => ?_) rfl rfl (by decide) (by decide)
  · refine SS.one (S1.assign F.ok F.stC EV.cInt) ?_
    refine SS.cons (N1 := fun G => G "whole" = some (.d (.int (wholeP rows))) ∧ G "rows" = some (.d (.lst (rows.map Rw.d))))
      (S1.forI F.ok F.st (IT.lst F.ok F.name) (fun i G => G "whole" = some (.d (.int (wholeP (rows.take i)))) ∧ G "rows" = some (.d (.lst (rows.map Rw.d)))) ⟨rfl, rfl⟩ (fun i G hi hG => ?_) (fun G hG => ?_)) (fun G hG => ?_)
    · obtain ⟨g1, g2⟩ := hG
      have hi' : i < rows.length := by simpa using hi
      have hd : (rows.map Rw.d).getD i .none = Rw.d rows[i] := map_getD rows Rw.d i _ (List.getElem?_eq_getElem hi')
      rw [hd]
      have hsi := hs rows[i] (List.getElem_mem hi')
      refine SS.one (S1.augMul F.ok F.stC (a := wholeP (rows.take i)) (b := rows[i].spr) (c := C'.L + 1) g1 (by rw [F.kindOf]; rfl) (by rw [F.cells]; rfl) (EV.callK F.ok XD.d_spread.k (F.glob X.g_spread) (EVs.cons F.name EVs.nil) (spread_ok XD F.ok (by lia))) (mulOkR ?_)) (SS.nil ⟨?_, g2⟩)
      · have hb := spr_bd hsi.1.r hsi.1.g hsi.1.b
        show (Mine.spr rows[i].r rows[i].g rows[i].b).natAbs < 2 ^ 62
        clear hsi
        lia
      · rw [List.take_add_one, List.getElem?_eq_getElem hi']
        show _ = some (Mine.G.d (D.int (wholeP (rows.take i ++ [rows[i]]))))
        unfold wholeP
        rw [List.foldl_append]
        rfl
    · obtain ⟨g1, g2⟩ := hG
      rw [List.length_map, List.take_length] at g1
      exact ⟨g1, g2⟩
    · obtain ⟨g1, g2⟩ := hG
      refine SS.cons (N1 := fun _ => False) (S1.ret (EV.sortedKey F.ok F.cm (F.boot X.sorted_ boot_sorted) (F.name g2) (EV.lam F.ok F.cm F.en XT.order (by rw [F.en]; show (("_law_order" : Str) ++ ".<locals>.") ++ "<lambda>" = _; decide +kernel) (clos := [("whole", C'.L + 1)]) (by rw [F.en]; rfl) (by rw [F.en]; rfl)) (by rw [List.length_map]; exact hlen) (fun i d hd => ?_)) rfl) (fun _ h => h.elim)
      rw [List.getElem?_map] at hd
      cases hq : rows[i]? with
      | none => rw [hq] at hd; cases hd
      | some t =>
        rw [hq] at hd
        cases hd
        have ht := hs t (List.mem_of_getElem? hq)
        refine CallFn.of F.ok.in2 (by lia) (names := ["row"]) (fun vs pm c ctv h => ?_) rfl ?_ ?_ ?_ ?_ (fun C2 O2 hcm2 hen => ?_) rfl rfl rfl
        · obtain ⟨a1, rfl⟩ := len1 h; rfl
        · intro y hy
          rw [List.mem_singleton.mp hy]; rfl
        · show ∀ x ∈ ([("row", .local), ("whole", .free), ("_law_place", .globalImplicit)] : List (Str × NameKind)), x.2 ≠ .cell
          decide
        · intro y c e
          have hm := PySem.mem_of_lookup e
          have hm : (y, c) = (("whole" : Str), C'.L + 1) := List.mem_singleton.mp hm
          cases hm
          exact ⟨rfl, by show C'.env.cells.lookup _ = _; rw [F.cells]; rfl⟩
        · simp
        · obtain ⟨f2, c2, en2⟩ := hen
          have hk : ∀ y, C2.env.kindOf y = ([("row", .local), ("whole", .free), ("_law_place", .globalImplicit)] : List (Str × NameKind)).lookup y := fun y => by unfold Env.kindOf; rw [en2]
          have hcl : C2.env.cells = [(("whole" : Str), C'.L + 1)] := by rw [en2]
          have hw : (fun y => match Γof ((["row"] : List Str).zip [Rw.d t]) y with | some g => some g | none => Γcl G [("whole", C'.L + 1)] y) "whole" = some (.d (.int (wholeP rows))) := Γcl_at g1
          exact EV.callK O2 XD.d_place.k (EV.glob O2 X.g_place (by rw [hk]; rfl)) (EVs.cons (EV.name O2 (d := Rw.d t) rfl (by rw [hk]; rfl) (by rw [hcl]; rfl)) (EVs.cons (EV.nameF O2 (d := .int (wholeP rows)) (c := C'.L + 1) hw (by rw [hk]; rfl) (by rw [hcl]; rfl)) EVs.nil)) (place_ok XD O2 (by lia) ht.1.r ht.1.g ht.1.b ht.2)
  · obtain ⟨a1, rfl⟩ := len1 h; rfl
end
end Mine
end

section
open PySem PySem.W PyProof.Rows PySem.Calls
set_option maxRecDepth 100000
namespace Mine
theorem bis_ge (p : Nat → Bool) : ∀ (f lo hi : Nat), lo ≤ bis p f lo hi
  | 0, lo, hi => Nat.le_refl _
  | f + 1, lo, hi => by
    unfold bis
    split
    · split
      · exact bis_ge p f _ _
      · exact Nat.le_trans (by lia) (bis_ge p f _ _)
    · exact Nat.le_refl _
structure KU (K : Frag) : Prop where
  g_bisL : nsIn K mainGlobals "bisect_left" = some (some (.ref 107))
  d_cut : IsDef K 178 "_law_cut" "_law_cut" (stm 18) .none .none (.ref 177)
noncomputable def hueAt (items : List It) (i : Nat) : UInt64 := (items[i]?).elim 0 It.h
noncomputable def fracF (a b : Int) : UInt64 := Float64.ofFrac (decide (a < 0) != decide (b < 0)) a.natAbs b.natAbs
structure Cut where
  a : Nat
  b : Nat
  c : Nat
  d : Nat
noncomputable def cutP (items : List It) (low high : UInt64) : Cut :=
  let n := items.length
  let a := bis (kvL low (hueAt items)) (n - 0) 0 n
  let b := bis (kvR low (hueAt items)) (n - a) a n
  let c := bis (kvL high (hueAt items)) (n - b) b n
  let d := bis (kvR high (hueAt items)) (n - c) c n
  ⟨a, b, c, d⟩
noncomputable def Cut.inner (q : Cut) (items : List It) : List It := (items.drop q.b).take (q.c - q.b)
noncomputable def Cut.outer (q : Cut) (items : List It) : List It := items.take q.a ++ items.drop q.d
noncomputable def Cut.alike (q : Cut) (items : List It) : List It := (items.drop q.a).take (q.b - q.a) ++ (items.drop q.c).take (q.d - q.c)
section
variable {P : Wd} {C : Cx P} {Γ Γ' : GEnv} {k : Nat}
/-- the key: the first of an item -/
theorem key_ok {F : FnD} {t : It} {p1 p2 p3 : Pos} {kk : Nat} (hbd : F.body = .Subscript (.Name "one" p1) (.Constant (.int 0) kk p2) p3) (hn : F.scope.names = [(("one" : Str), .local)]) (hc : F.clos = [])
    (hb : ∀ (v : Value) (pm c ctv : Value), bindArgs (kla_fn "<lambda>" F.qual F.params F.body F.scope F.clos pm c ctv) ⟨[v], []⟩ = pure [(("one" : Str), v)])
    (h1 : F.scope.isCoroutine = false) (h2 : F.scope.isGenerator = false) (h3 : F.scope.kind = .function) : KeyOk P F t.d t.h := by
  intro C k Γ O hk
  refine CallFn.of O (by lia) (names := ["one"]) (fun vs pm c ctv h => ?_) rfl (fun y hy => ?_) (fun x hx => ?_) (fun y c e => ?_) ?_ (fun C2 O2 hcm2 hen => ?_) h1 h2 h3
  · obtain ⟨v, rfl⟩ := len1 h; exact hb v pm c ctv
  · rw [List.mem_singleton.mp hy, hn]; rfl
  · rw [hn] at hx
    rw [List.mem_singleton.mp hx]
    intro q; cases q
  · rw [hc] at e; cases e
  · rw [hc]; exact List.nodup_nil
  · obtain ⟨f2, c2, en2⟩ := hen
    rw [hbd]
    refine EV.item (ds := [.flt t.h, .int t.n, .int t.r, .int t.g, .int t.b]) (d := .flt t.h) (EV.name O2 (d := It.d t) rfl ?_ ?_) EV.cInt (by decide) (by decide) rfl
    · unfold Env.kindOf; rw [en2]; show F.scope.names.lookup _ = _; rw [hn]; rfl
    · rw [en2]; show F.clos.lookup _ = _; rw [hc]; rfl
theorem hue_at {items : List It} {i : Nat} {d : D} (h : (items.map It.d)[i]? = some d) : ∃ t, d = It.d t ∧ hueAt items i = t.h := by
  rw [List.getElem?_map] at h
  cases q : items[i]? with
  | none => rw [q] at h; cases h
  | some t =>
    rw [q] at h; cases h
    exact ⟨t, rfl, by unfold hueAt; rw [q]; rfl⟩
theorem cut_ok (X : KU P.K) (XB : KB P.K) (XT : TabsP P) (O : CxOk C k) (hr : k < 850) {items : List It} {corner : Int} (hlen : items.length < 64) (hi1 : ¬ Float64.isInf (fracF (corner.fmod 3) 6) = true) (hi2 : ¬ Float64.isInf (fracF (corner.fmod 3 + 3) 6) = true) :
    CallOk C (.ref 178) [.lst (items.map It.d), .int corner] (if corner < 3 then .tup [.lst (((cutP items (fracF (corner.fmod 3) 6) (fracF (corner.fmod 3 + 3) 6)).inner items).map It.d), .lst (((cutP items (fracF (corner.fmod 3) 6) (fracF (corner.fmod 3 + 3) 6)).outer items).map It.d), .lst (((cutP items (fracF (corner.fmod 3) 6) (fracF (corner.fmod 3 + 3) 6)).alike items).map It.d)]
      else .tup [.lst (((cutP items (fracF (corner.fmod 3) 6) (fracF (corner.fmod 3 + 3) 6)).outer items).map It.d), .lst (((cutP items (fracF (corner.fmod 3) 6) (fracF (corner.fmod 3 + 3) 6)).inner items).map It.d), .lst (((cutP items (fracF (corner.fmod 3) 6) (fracF (corner.fmod 3 + 3) 6)).alike items).map It.d)]) := by
  generalize hlow : fracF (corner.fmod 3) 6 = low at *
  generalize hhigh : fracF (corner.fmod 3 + 3) 6 = high at *
  have ln : (items.map It.d).length = items.length := List.length_map _
  generalize hq : cutP items low high = q at *
  obtain ⟨a, b, c, d⟩ := q
  have ha : bis (kvL low (hueAt items)) ((items.map It.d).length - 0) 0 (items.map It.d).length = a := by rw [ln]; exact congrArg Cut.a hq
  have hb : bis (kvR low (hueAt items)) ((items.map It.d).length - a) a (items.map It.d).length = b := by have := congrArg Cut.b hq; rw [ln] at ha ⊢; rw [← ha]; exact this
  have hc : bis (kvL high (hueAt items)) ((items.map It.d).length - b) b (items.map It.d).length = c := by have := congrArg Cut.c hq; rw [ln] at ha hb ⊢; rw [← hb, ← ha]; exact this
  have hd : bis (kvR high (hueAt items)) ((items.map It.d).length - c) c (items.map It.d).length = d := by have := congrArg Cut.d hq; rw [ln] at ha hb hc ⊢; rw [← hc, ← hb, ← ha]; exact this
  have l1 : a ≤ items.length := by rw [← ha, ln]; exact bis_le _ _ _ _ (Nat.zero_le _)
  have l2 : a ≤ b := by rw [← hb]; exact bis_ge _ _ _ _
  have l3 : b ≤ items.length := by rw [← hb, ln]; exact bis_le _ _ _ _ l1
  have l4 : b ≤ c := by rw [← hc]; exact bis_ge _ _ _ _
  have l5 : c ≤ items.length := by rw [← hc, ln]; exact bis_le _ _ _ _ l3
  have l6 : c ≤ d := by rw [← hd]; exact bis_ge _ _ _ _
  have l7 : d ≤ items.length := by rw [← hd, ln]; exact bis_le _ _ _ _ l5
  refine CallOk.dfn O (by lia) X.d_cut (names := ["wheel", "corner"]) (fun C' F _ => ?_) (fun vs doc pm an ct h => ?_) rfl rfl (by decide) (by decide)
  · have K : ∀ (L : FnD), (∀ t : It, KeyOk P L t.d t.h) → ∀ i d, (items.map It.d)[i]? = some d → KeyOk P L d (hueAt items i) := by
      intro L hL i d hd
      obtain ⟨t, rfl, e⟩ := hue_at hd
      rw [e]; exact hL t
    refine SS.one (S1.assign F.ok F.st (d := .flt low) (by rw [← hlow]; exact EV.bin (BinOk.divII (by decide) (by rw [← hlow] at hi1; exact hi1)) (EV.bin (BinOk.modI (by decide)) F.name EV.cInt) EV.cInt)) ?_
    refine SS.one (S1.assign F.ok F.st (d := .flt high) (by rw [← hhigh]; exact EV.bin (BinOk.divII (by decide) (by rw [← hhigh] at hi2; exact hi2)) (EV.bin BinOk.addI (EV.bin (BinOk.modI (by decide)) F.name EV.cInt) EV.cInt) EV.cInt)) ?_
    refine SS.one (S1.assign F.ok F.st (d := .int a) (EV.callKw F.ok XB.d_bisL.k (F.glob X.g_bisL) (EVs.cons F.name (EVs.cons F.name EVs.nil)) (EV.lam F.ok F.cm F.en XT.cut (by rw [F.en]; show (("_law_cut" : Str) ++ ".<locals>.") ++ "<lambda>" = _; decide +kernel) (clos := []) (by rw [F.en]; rfl) (by rw [F.en]; rfl)) (bisL2_ok XB F.ok (by lia) (by lia) (K _ fun t => key_ok rfl rfl rfl (fun _ _ _ _ => rfl) rfl rfl rfl) ha))) ?_
    refine SS.one (S1.assign F.ok F.st (d := .int b) (EV.callKw F.ok XB.d_bisR.k (F.glob XB.g_bisR) (EVs.cons F.name (EVs.cons F.name (EVs.cons F.name EVs.nil))) (EV.lam F.ok F.cm F.en XT.cut (by rw [F.en]; show (("_law_cut" : Str) ++ ".<locals>.") ++ "<lambda>" = _; decide +kernel) (clos := []) (by rw [F.en]; rfl) (by rw [F.en]; rfl)) (bisR3_ok XB F.ok (by omega) (by omega) (by simp [*]) (K _ fun t => key_ok rfl rfl rfl (fun _ _ _ _ => rfl) rfl rfl rfl) hb))) ?_
    refine SS.one (S1.assign F.ok F.st (d := .int c) (EV.callKw F.ok XB.d_bisL.k (F.glob X.g_bisL) (EVs.cons F.name (EVs.cons F.name (EVs.cons F.name EVs.nil))) (EV.lam F.ok F.cm F.en XT.cut (by rw [F.en]; show (("_law_cut" : Str) ++ ".<locals>.") ++ "<lambda>" = _; decide +kernel) (clos := []) (by rw [F.en]; rfl) (by rw [F.en]; rfl)) (bisL3_ok XB F.ok (by omega) (by omega) (by simp [*]) (K _ fun t => key_ok rfl rfl rfl (fun _ _ _ _ => rfl) rfl rfl rfl) hc))) ?_
    refine SS.one (S1.assign F.ok F.st (d := .int d) (EV.callKw F.ok XB.d_bisR.k (F.glob XB.g_bisR) (EVs.cons F.name (EVs.cons F.name (EVs.cons F.name EVs.nil))) (EV.lam F.ok F.cm F.en XT.cut (by rw [F.en]; show (("_law_cut" : Str) ++ ".<locals>.") ++ "<lambda>" = _; decide +kernel) (clos := []) (by rw [F.en]; rfl) (by rw [F.en]; rfl)) (bisR3_ok XB F.ok (by omega) (by omega) (by simp [*]) (K _ fun t => key_ok rfl rfl rfl (fun _ _ _ _ => rfl) rfl rfl rfl) hd))) ?_
    have e1 : ∀ {x y : Nat}, x ≤ y → y ≤ items.length → pickD (items.map It.d) (some (x : Int)) (some (y : Int)) none = ((items.drop x).take (y - x)).map It.d := by
      intro x y h1 h2
      rw [pick_run _ h1 (by rw [ln]; exact h2), ← List.map_drop, ← List.map_take]
    have e2 : pickD (items.map It.d) none (some (a : Int)) none = (items.take a).map It.d := by rw [pick_upto _ (by rw [ln]; exact l1), ← List.map_take]
    have e3 : pickD (items.map It.d) (some (d : Int)) none none = (items.drop d).map It.d := by rw [pick_from _ (by rw [ln]; exact l7), ← List.map_drop]
    have plus : ∀ {x y : List It}, x.length ≤ 64 → y.length ≤ 64 → BinOk C' (binaryOp .Add) (.lst (x.map It.d)) (.lst (y.map It.d)) (.lst ((x ++ y).map It.d)) := by
      intro x y h1 h2
      rw [List.map_append]
      exact BinOk.addL (by rw [List.length_map, List.length_map, sizeLine_eq]; lia)
    have tk : ∀ x y : Nat, ((items.drop x).take y).length ≤ 64 := fun x y => by rw [List.length_take, List.length_drop]; lia
    refine SS.one (S1.assign F.ok F.st (EV.sliceE (e1 l4 l5) F.name (.so F.name) (.so F.name) .no (by simp) (by lia))) ?_
    refine SS.one (S1.assign F.ok F.st (EV.bin (plus (by rw [List.length_take]; lia) (by rw [List.length_drop]; grind)) (EV.sliceE e2 F.name .no (.so F.name) .no (by simp) (by omega)) (EV.sliceE e3 F.name (.so F.name) .no .no (by simp) (by omega)))) ?_
    refine SS.one (S1.assign F.ok F.st (EV.bin (plus (tk _ _) (tk _ _)) (EV.sliceE (e1 l2 l3) F.name (.so F.name) (.so F.name) .no (by simp) (by omega)) (EV.sliceE (e1 l6 l7) F.name (.so F.name) (.so F.name) .no (by simp) (by omega)))) ?_
    refine SS.cons (N1 := fun G => G = _ ∧ ¬ corner < 3) (S1.ite (TV.cmp BinOk.ltI F.name EV.cInt) (fun hb => SS.cons (N1 := fun _ => False) (S1.ret (EV.tuple (EVs.cons F.name (EVs.cons F.name (EVs.cons F.name EVs.nil))) (sizes3 _ _ _)) ?_) (fun _ h => h.elim)) (fun hb => SS.nil ⟨rfl, of_decide_eq_false hb⟩)) (fun G hG => ?_)
    · rw [if_pos (of_decide_eq_true hb)]; rfl
    · obtain ⟨rfl, hn⟩ := hG
      refine SS.cons (N1 := fun _ => False) (S1.ret (EV.tuple (EVs.cons F.name (EVs.cons F.name (EVs.cons F.name EVs.nil))) (sizes3 _ _ _)) ?_) (fun _ h => h.elim)
      rw [if_neg hn]; rfl
  · obtain ⟨a1, a2, rfl⟩ := len2 h; rfl
end
end Mine
end

section
open PySem PySem.W PyProof.Rows PySem.Calls
set_option maxRecDepth 100000
namespace Mine
section
variable {P : Wd} {C : Cx P} {Γ Γ' : GEnv} {k : Nat} {kl : Led} {m : Str → Option Value} {fz mu : Led} {s : Shared} {N : GEnv → Prop} {R : D → Prop} {B : GEnv → Prop}
/-- insort_right(x, e, key=lambda) as a statement -/
theorem S1.insortS (XB : KB P.K) (O : CxOk C k) (hr : k < 850) (hcm : C.cm = none) {f : Expr} {x : Str} {xp cp kp pos : Pos} {e ke : Expr} {a : Addr} {ds : List D} {d : D} {u : UInt64} {L : FnD} {kv : Nat → UInt64} {r : Nat} (hx : Γ x = some (.ml a ds)) (hk : C.env.kindOf x = some .local) (hl : C.env.cells.lookup x = none)
    (hf : EV C Γ f (.val (.ref 89))) (he : EV C Γ e d) (hke : EV C Γ ke (.fn L)) (hlen : ds.length ≤ 100000) (hkey : ∀ i d, ds[i]? = some d → KeyOk P L d (kv i)) (hku : KeyOk P L d u) (hres : bis (kvR u kv) (ds.length - 0) 0 ds.length = r)
    (hst : ∀ env, starEach [.Name x xp, e] env = [(false, eval (.Name x xp) env), (false, eval e env)] := by intro _; rfl) (hst2 : ∀ env, starEach [e] env = [(false, eval e env)] := by intro _; rfl)
    (hv : ∀ env, eval (.Call f [.Name x xp, e] [⟨some "key", ke, kp⟩] cp) env = (do callWith cp (← eval f env) [] (backTo cp (starEach [.Name x xp, e] env)) (backToKw cp (keywordEach [⟨some "key", ke, kp⟩] env))) := by intro _; rfl)
    (hs : ∀ env, swapsWith (.Call f [.Name x xp, e] [⟨some "key", ke, kp⟩] cp) none pos.line env = pure false := by intro _; rfl) (hd : (x == ("__debug__" : Str)) = false := by decide) :
    S1 C Γ (.Expr (.Call f [.Name x xp, e] [⟨some "key", ke, kp⟩] cp) pos) (fun g => g = Γ.setM x a (insD ds r d)) R B := by
  intro kl m fz mu s Q hE hS q1 q2 q3
  refine wpAny_Expr ?_ (notInteractive O) (hs _)
  rw [hv]
  refine wpAny_bind (hf hE hS fun fz1 s1 v1 k1 S1 r1 => ?_)
  obtain rfl := r1.val_inv
  have hst' : ∀ env, starEach (.Name x xp :: [e]) env = (false, eval (.Name x xp) env) :: starEach [e] env := fun env => by rw [hst2]; exact hst env
  have hargs : EVs C Γ (.Name x xp :: [e]) [.val (.ref a), d] := EVs.cons (EV.nameM O hx hk hl hd) (EVs.cons he EVs.nil (fun env => by rw [hst2]; rfl)) hst'
  have hpl : ((backTo cp (starEach (.Name x xp :: [e]) C.env)).any (·.1) || (backToKw cp (keywordEach [⟨some "key", ke, kp⟩] C.env)).any (·.1.isNone)) = false := by
    rw [hst, ]; rfl
  refine callWith_KW (h₀ := C.g) O.X XB.d_insort.k rfl (hargs cp (hE.mono k1) S1 fun fz2 s2 vs k2 S2 r2 => kwAll_cons (hke ((hE.mono k1).mono k2) S2 fun fz3 s3 v3 k3 S3 r3 => kwAll_nil ⟨O.X.keeps S3.keep, ?_⟩)) hpl (hst' _)
  obtain ⟨w1, w2, rfl, h1, h2⟩ := r2.c2
  obtain rfl := h1.val_inv
  obtain ⟨v0, h0, _, hkl, vs, n, hm, hrr⟩ := hE.at_ x _ hx
  refine insort_ok XB O (by lia) hcm hlen hkey hku hres S3 hm hkl (((hrr.mono k1).mono k2).mono k3) (h2.mono k3) r3 fun fz4 s4 vs4 n4 k4 S4 r4 => ?_
  exact q1 _ _ _ _ _ (fun _ h => k4 (k3 (k2 (k1 h)))) rfl (((((hE.mono k1).mono k2).mono k3).mono k4).turn S3 hx r4) S4

structure KV (K : Frag) : Prop where
  g_rgb : nsIn K mainGlobals "rgb_to_hsv" = some (some (.ref 114))
  g_hsv : nsIn K mainGlobals "hsv_to_rgb" = some (some (.ref 121))
  g_insort : nsIn K mainGlobals "insort_right" = some (some (.ref 89))
  range_ : nsIn K mainGlobals "range" = some Option.none
  int_ : nsIn K mainGlobals "int" = some Option.none
  k_rgb : keepIn K (.ref 114) = true
  k_hsv : keepIn K (.ref 121) = true
  d_wheel : IsDef K 171 "_law_wheel" "_law_wheel" (stm 17) .none .none (.ref 170)
/-- a float made an int -/
noncomputable def fin? (x : UInt64) : Bool := match Float64.decode x with
  | .fin _ _ _ => true
  | _ => false
noncomputable def truncF (x : UInt64) : Int := match Float64.decode x with
  | .fin sg mm e => Float64.truncOf sg mm e
  | _ => 0
theorem fin_dec {x : UInt64} (h : fin? x = true) : ∃ sg mm e, Float64.decode x = .fin sg mm e ∧ truncF x = Float64.truncOf sg mm e := by
  unfold fin? at h
  unfold truncF
  cases q : Float64.decode x with
  | fin sg mm e => exact ⟨sg, mm, e, rfl, rfl⟩
  | nan => rw [q] at h; cases h
  | inf b => rw [q] at h; cases h
noncomputable def backF (x : UInt64) : UInt64 := Float64.add (Float64.mul x (Float64.ofInt 64)) Fhalf
/-- what the colours of one size give -/
structure SizeOk (l0 l1 l2 : Int) (t : It) (grey : Bool) : Prop where
  i0 : ¬ Float64.isInf (fracF l0 64) = true
  i1 : ¬ Float64.isInf (fracF l1 64) = true
  i2 : ¬ Float64.isInf (fracF l2 64) = true
  hm : ¬ (Float64.cmp (fmin3 (fracF l0 64) (fracF l1 64) (fracF l2 64)) (fmax3 (fracF l0 64) (fracF l1 64) (fracF l2 64)) == some .eq) = true → ¬ Float64.isZero (fmax3 (fracF l0 64) (fracF l1 64) (fracF l2 64)) = true ∧ ¬ Float64.isZero (Float64.sub (fmax3 (fracF l0 64) (fracF l1 64) (fracF l2 64)) (fmin3 (fracF l0 64) (fracF l1 64) (fracF l2 64))) = true
  ex : ∃ share value x0 x1 x2, hsvC (fracF l0 64) (fracF l1 64) (fracF l2 64) = [t.h, share, value] ∧ grey = (Float64.cmp share F0 == some .eq) ∧
    (¬ (Float64.cmp share F0 == some .eq) = true → fin? (Float64.mul t.h F6) = true ∧ ¬ Float64.isInf (Float64.ofInt (truncF (Float64.mul t.h F6))) = true) ∧ fin? (Float64.mul t.h F6) = true ∧
    rgbC t.h share value (truncF (Float64.mul t.h F6)) = [x0, x1, x2] ∧ (∀ x ∈ [x0, x1, x2], fin? (backF x) = true) ∧ truncF (backF x0) = t.r ∧ truncF (backF x1) = t.g ∧ truncF (backF x2) = t.b
noncomputable def insI (w : List It) (t : It) : List It := w.take (bis (kvR t.h (hueAt w)) (w.length - 0) 0 w.length) ++ t :: w.drop (bis (kvR t.h (hueAt w)) (w.length - 0) 0 w.length)
noncomputable def wheelTo (its : Nat → It) (gr : Nat → Bool) : Nat → List It × List It
  | 0 => ([], [])
  | i + 1 => if gr i = true then ((wheelTo its gr i).1, (wheelTo its gr i).2 ++ [its i]) else (insI (wheelTo its gr i).1 (its i), (wheelTo its gr i).2)
theorem insI_len (w : List It) (t : It) : (insI w t).length = w.length + 1 := by
  unfold insI
  rw [List.length_append, List.length_cons, List.length_take, List.length_drop]; grind
theorem wheelTo_g {its : Nat → It} {gr : Nat → Bool} {i : Nat} (h : gr i = true) : wheelTo its gr (i + 1) = ((wheelTo its gr i).1, (wheelTo its gr i).2 ++ [its i]) := if_pos h
theorem wheelTo_w {its : Nat → It} {gr : Nat → Bool} {i : Nat} (h : gr i = false) : wheelTo its gr (i + 1) = (insI (wheelTo its gr i).1 (its i), (wheelTo its gr i).2) := if_neg (by rw [h]; exact Bool.false_ne_true)
theorem wheelTo_len (its : Nat → It) (gr : Nat → Bool) : ∀ n, (wheelTo its gr n).1.length + (wheelTo its gr n).2.length = n
  | 0 => rfl
  | n + 1 => by
    have := wheelTo_len its gr n
    unfold wheelTo
    split
    · show (wheelTo its gr n).1.length + ((wheelTo its gr n).2 ++ [its n]).length = n + 1
      rw [List.length_append, List.length_singleton]; lia
    · show (insI (wheelTo its gr n).1 (its n)).length + (wheelTo its gr n).2.length = n + 1
      rw [insI_len]; lia
theorem insD_ins (w : List It) (t : It) : insD (w.map It.d) ((bis (kvR t.h (hueAt w)) (w.length - 0) 0 w.length : Nat) : Int) t.d = (insI w t).map It.d := by
  have hle := bis_le (kvR t.h (hueAt w)) (w.length - 0) 0 w.length (Nat.zero_le _)
  unfold insD insI
  rw [if_neg (by simp), List.length_map]
  have e : min ((bis (kvR t.h (hueAt w)) (w.length - 0) 0 w.length : Nat) : Int).toNat w.length = bis (kvR t.h (hueAt w)) (w.length - 0) 0 w.length := by lia
  rw [e, List.map_append, List.map_cons, List.map_take, List.map_drop]

theorem wheel_ok (X : KV P.K) (XB : KB P.K) (XC : KC P.K) (XW : KW P.K) (XT : TabsP P) (O : CxOk C k) (hr : k < 830) {w0 w1 w2 : Wsp} (s0 : w0.Sm) (s1 : w1.Sm) (s2 : w2.Sm) {top : Int} {n : Nat} (hn : (top + 1 - 1).toNat = n) (htop : top ≤ 60) {its : Nat → It} {gr : Nat → Bool}
    (hs : ∀ i < n, (its i).n = 1 + (i : Int) ∧ SizeOk (w0.lvl (1 + (i : Int))) (w1.lvl (1 + (i : Int))) (w2.lvl (1 + (i : Int))) (its i) (gr i)) (h0 : 0 ≤ top) :
    CallOk C (.ref 171) [.lst (([w0, w1, w2] : List Wsp).map .ws), .int top] (.tup [.lst ((wheelTo its gr n).1.map It.d), .lst ((wheelTo its gr n).2.map It.d)]) := by
  refine CallOk.dfn O (by lia) X.d_wheel (names := ["spaces", "top"]) (fun C' F _ => ?_) (fun vs doc pm an ct h => ?_) rfl rfl (by decide) (by decide)
  · refine SS.cons (N1 := fun G => ∃ a, G = (Γof ((["spaces", "top"] : List Str).zip [.lst (([w0, w1, w2] : List Wsp).map .ws), .int top])).setM "wheel" a []) (S1.assignL F.ok F.st F.nc EVs.nil (by simp) (fun l => ⟨l, rfl⟩)) (fun G hG => ?_)
    obtain ⟨a1, rfl⟩ := hG
    refine SS.cons (N1 := fun G => ∃ a, G = ((Γof ((["spaces", "top"] : List Str).zip [.lst (([w0, w1, w2] : List Wsp).map .ws), .int top])).setM "wheel" a1 []).setM "greys" a []) (S1.assignL F.ok F.st F.nc EVs.nil (by simp) (fun l => ⟨l, rfl⟩)) (fun G hG => ?_)
    obtain ⟨a2, rfl⟩ := hG
    refine SS.cons (N1 := fun G => G "wheel" = some (.ml a1 ((wheelTo its gr n).1.map It.d)) ∧ G "greys" = some (.ml a2 ((wheelTo its gr n).2.map It.d)))
      (S1.forI F.ok F.stC (IT.rng (a := 1) (b := top + 1) F.ok (small_one (by simp) (by simp) (by lia) (by lia)) (EV.callT (F.boot X.range_ boot_range) (EVs.cons EV.cInt (EVs.cons (EV.bin BinOk.addI F.name EV.cInt) EVs.nil)) CallOk.range2))
        (fun i G => G "wheel" = some (.ml a1 ((wheelTo its gr i).1.map It.d)) ∧ G "greys" = some (.ml a2 ((wheelTo its gr i).2.map It.d)) ∧ G "spaces" = some (.d (.lst (([w0, w1, w2] : List Wsp).map .ws)))) ⟨rfl, rfl, rfl⟩ (fun i G hi hG => ?_) (fun G hG => ?_)) (fun G hG => ?_)
    · obtain ⟨g1, g2, g3⟩ := hG
      obtain ⟨hn1, i0, i1, i2, hm, share, value, x0, x1, x2, e1, eg, d1, d0, er, xf, t0, t1, t2⟩ := hs i (by (clear hs; (subst_vars; omega)))
      obtain ⟨sg, mm, e, f1, f2⟩ := fin_dec d0
      have hin : (i : Int) < top := by lia
      refine SS.one (S1.unpackL F.ok (xs := [("r", _), ("g", _), ("b", _)]) (ds := [.flt (fracF (w0.lvl (1 + (i : Int))) 64), .flt (fracF (w1.lvl (1 + (i : Int))) 64), .flt (fracF (w2.lvl (1 + (i : Int))) 64)]) rfl (by intro x hx; simp only [List.mem_cons, List.not_mem_nil, or_false] at hx; rcases hx with rfl | rfl | rfl <;> exact F.st) ?_ rfl) ?_
      · refine EV.compL F.ok F.cm (F.comp [("size", C'.L + 1)]) [w0, w1, w2] .ws (fun w => .flt (fracF (w.lvl (1 + (i : Int))) 64)) (F.name g3) (by simp) (fun C2 B w hw => ?_)
        have q : w.Sm ∧ ¬ Float64.isInf (fracF (w.lvl (1 + (i : Int))) 64) = true := by
          simp only [List.mem_cons, List.not_mem_nil, or_false] at hw
          rcases hw with rfl | rfl | rfl
          · exact ⟨s0, i0⟩
          · exact ⟨s1, i1⟩
          · exact ⟨s2, i2⟩
        exact EV.bin (BinOk.divII (by decide) q.2) (EV.meth B.ok XW.m_indent (by decide) (B.name F) (EVs.cons (B.cell F (d := .int (1 + (i : Int))) rfl) EVs.nil) (indent_ok XW B.ok (by lia) q.1 (by lia) (by lia))) EV.cInt
      have hrgb := rgb_ok XC F.ok (by omega) hm
      rw [e1] at hrgb
      refine SS.one (S1.unpackT F.ok (xs := [("hue", _), ("share", _), ("value", _)]) rfl (by intro x hx; simp only [List.mem_cons, List.not_mem_nil, or_false] at hx; rcases hx with rfl | rfl | rfl <;> exact F.st) (EV.callK F.ok X.k_rgb (F.glob X.g_rgb) (EVs.cons F.name (EVs.cons F.name (EVs.cons F.name EVs.nil))) hrgb) rfl) ?_
      have hhsv := hsv_ok (P := P) (C := C') XC F.ok (by omega) (h := (its i).h) (s := share) (v := value) (sg := sg) (mm := mm) (e := e) (fun hh => ⟨f1, by have := (d1 hh).2; rw [f2] at this; exact this⟩)
      rw [← f2, er] at hhsv
      refine SS.one (S1.assign F.ok F.st (d := (its i).d) (EV.bin (d1 := .lst [.flt (its i).h, .int (1 + (i : Int))]) (d2 := .lst ([x0, x1, x2].map fun x => .int (truncF (backF x)))) ?_ (EV.list (EVs.cons F.name (EVs.cons F.nameC EVs.nil)) (sizes _ (by simp))) ?_)) ?_
      · have hd : (its i).d = .lst ([.flt (its i).h, .int (1 + (i : Int))] ++ ([x0, x1, x2].map fun x => .int (truncF (backF x)))) := by
          unfold It.d
          rw [hn1, ← t0, ← t1, ← t2]; rfl
        rw [hd]
        exact BinOk.addL (sizes _ (by simp))
      · refine EV.compT F.ok F.cm (F.comp []) [x0, x1, x2] .flt _ (EV.callK F.ok X.k_hsv (F.glob X.g_hsv) (EVs.cons F.name (EVs.cons F.name (EVs.cons F.name EVs.nil))) hhsv) (by simp) (fun C2 B x hx => ?_)
        obtain ⟨sg', mm', e', f1', f2'⟩ := fin_dec (xf x hx)
        rw [f2']
        exact EV.callT (B.boot F X.int_ boot_int) (EVs.cons (EV.bin BinOk.addF (EV.bin (BinOk.mulFI (by decide +kernel)) (B.name F) EV.cInt) EV.cFlt) EVs.nil) (CallOk.intF f1')
      have hl := wheelTo_len its gr i
      refine SS.cons (N1 := fun G' => G' "wheel" = some (.ml a1 ((wheelTo its gr (i + 1)).1.map It.d)) ∧ G' "greys" = some (.ml a2 ((wheelTo its gr (i + 1)).2.map It.d)) ∧ G' "spaces" = some (.d (.lst (([w0, w1, w2] : List Wsp).map .ws)))) (S1.ite (b := gr i) (by rw [eg]; exact TV.cmp BinOk.eqF F.name EV.cFlt) (fun hb => ?_) (fun hb => ?_)) (fun G hG => SS.nil hG)
      · refine SS.one (S1.append F.ok (x := "greys") g2 F.loc F.nc F.name (by rw [List.length_map]; lia) F.cm) (SS.nil ?_)
        rw [wheelTo_g hb]
        refine ⟨g1, ?_, g3⟩
        show some _ = some _
        rw [List.map_append]; rfl
      · refine SS.one (S1.insortS XB F.ok (by lia) F.cm (x := "wheel") g1 F.loc F.nc (F.glob X.g_insort) (F.name (d := (its i).d) rfl) (EV.lam F.ok F.cm F.en XT.wheel (by rw [F.en]; show (("_law_wheel" : Str) ++ ".<locals>.") ++ "<lambda>" = _; decide +kernel) (clos := []) (by rw [F.en]; rfl) (by rw [F.en]; rfl)) (by rw [List.length_map]; lia) (kv := hueAt (wheelTo its gr i).1) (fun j d hd => ?_) (key_ok rfl rfl rfl (fun _ _ _ _ => rfl) rfl rfl rfl) rfl) (SS.nil ?_)
        · obtain ⟨t, rfl, e⟩ := hue_at hd
          rw [e]; exact key_ok rfl rfl rfl (fun _ _ _ _ => rfl) rfl rfl rfl
        · rw [wheelTo_w hb]
          refine ⟨?_, g2, g3⟩
          show some _ = some _
          rw [← insD_ins, List.length_map]
    · obtain ⟨g1, g2, g3⟩ := hG
      rw [hn] at g1 g2
      exact ⟨g1, g2⟩
    · obtain ⟨g1, g2⟩ := hG
      refine SG.freeze F.cm g1 (SG.freeze F.cm (x := "greys") g2 ?_)
      exact SS.cons (N1 := fun _ => False) (S1.ret (EV.tuple (EVs.cons F.name (EVs.cons F.name EVs.nil)) (sizes _ (by simp))) rfl) (fun _ h => h.elim)
  · obtain ⟨a1, a2, rfl⟩ := len2 h; rfl
end
end Mine
end

section
open PySem PySem.W PyProof.Rows PySem.Calls
set_option maxRecDepth 100000
namespace Mine
/-- a lead -/
structure Ld where
  runs : List Int
  b : Int
noncomputable def Ld.d (l : Ld) : D := D.lead l.runs l.b
noncomputable def Ld.w (l : Ld) : Wsp := wspOf (textL l.runs l.b)
noncomputable def Ld.col (l : Ld) (s : Int) : Int := colP l.runs l.b s
noncomputable def Ld.mx (l : Ld) : Int := l.runs.foldr max l.b
noncomputable def It.row (t : It) : List Int := [t.n, t.r, t.g, t.b]
noncomputable def Rw.row (t : Rw) : List Int := [t.n, t.r, t.g, t.b]
theorem foldr_mx : ∀ (rs : List Int) (b : Int), rs.foldr max b ∈ rs ++ [b] ∧ ∀ a ∈ rs ++ [b], a ≤ rs.foldr max b
  | [], b => by simp
  | r :: rs, b => by
    obtain ⟨h1, h2⟩ := foldr_mx rs b
    rw [List.foldr_cons]
    constructor
    · rcases Int.le_total r (rs.foldr max b) with h | h
      · rw [Int.max_eq_right h]; exact .tail _ h1
      · rw [Int.max_eq_left h]; exact .head _
    · intro a ha
      rcases List.mem_cons.mp ha with rfl | ha
      · exact Int.le_max_left _ _
      · exact Int.le_trans (h2 a ha) (Int.le_max_right _ _)
/-- order of the rows -/
noncomputable def sortR (K : Nat → Int) (l : List Rw) : List Rw := if 2 ≤ l.length then (ordK K l.length).filterMap (l[·]?) else l
theorem sortR_d (K : Nat → Int) (l : List Rw) : sortD K (l.map Rw.d) = (sortR K l).map Rw.d := by
  unfold sortD sortR
  rw [List.length_map]
  split
  · rename_i h2
    have hg := ordK_good (K := K) (n := l.length) (by lia)
    have hlt : ∀ i ∈ ordK K l.length, i < l.length := fun i hi => by have := hg.1.mem_iff.mp hi; simpa using this
    generalize ordK K l.length = o at hlt
    clear hg
    induction o with
    | nil => rfl
    | cons i o ih =>
      have hi := hlt i (.head _)
      rw [List.map_cons, List.filterMap_cons, List.getElem?_eq_getElem hi]
      show _ = Rw.d l[i] :: _
      rw [← ih fun j hj => hlt j (.tail _ hj), map_getD l Rw.d i _ (List.getElem?_eq_getElem hi)]
  · rfl
noncomputable def cutL (items : List It) (corner : Int) : List It × List It × List It :=
  let q := cutP items (fracF (corner.fmod 3) 6) (fracF (corner.fmod 3 + 3) 6)
  if corner < 3 then (q.inner items, q.outer items, q.alike items) else (q.outer items, q.inner items, q.alike items)
theorem textP_asc (rs : List Int) (b : Int) : (textP rs b).cps.all (· < 128) = true := by
  rw [← Array.all_toList, textP_cps]
  rw [List.all_eq_true]
  intro c hc
  unfold textL at hc
  have : c = 32 ∨ c = 9 ∨ c = 120 := by
    simp only [List.mem_append, List.mem_flatMap, List.mem_replicate, List.mem_cons, List.not_mem_nil, or_false] at hc
    rcases hc with ⟨r, _, h | h⟩ | h | h | h | h
    · exact .inl h.2
    · exact .inr (.inl h)
    · exact .inl h.2
    · exact .inr (.inr h)
    · exact .inl h
    · exact .inr (.inl h)
  rcases this with rfl | rfl | rfl <;> decide
structure KA (K : Frag) : Prop where
  max_ : nsIn K mainGlobals "max" = some Option.none
  range_ : nsIn K mainGlobals "range" = some Option.none
  g_text : nsIn K mainGlobals "_law_text" = some (some (.ref 138))
  g_column : nsIn K mainGlobals "_law_column" = some (some (.ref 145))
  g_spread : nsIn K mainGlobals "_law_spread" = some (some (.ref 152))
  g_wheel : nsIn K mainGlobals "_law_wheel" = some (some (.ref 171))
  g_order : nsIn K mainGlobals "_law_order" = some (some (.ref 166))
  g_cut : nsIn K mainGlobals "_law_cut" = some (some (.ref 178))
  g_pair : nsIn K mainGlobals "_law_pair" = some (some (.ref 190))
  d_agrees : IsDef K 195 "_law_agrees" "_law_agrees" (stm 21) .none .none (.ref 194)
noncomputable def rowAt (l0 l1 l2 : Ld) (i : Nat) : Rw := ⟨1 + (i : Int), l0.col (1 + (i : Int)), l1.col (1 + (i : Int)), l2.col (1 + (i : Int))⟩
noncomputable def rowsTo (l0 l1 l2 : Ld) (n : Nat) : List Rw := (List.range n).map (rowAt l0 l1 l2)
noncomputable def ldAt (l0 l1 l2 : Ld) (i : Nat) : Ld := [l0, l1, l2].getD i l0
noncomputable def colored (l0 l1 l2 : Ld) (n : Nat) : List Rw := (rowsTo l0 l1 l2 n).filter fun t => decide (0 < t.spr)
/-- what the law asks of three leads -/
structure AgreeF (l0 l1 l2 : Ld) (M : Int) (n : Nat) (its : Nat → It) (gr : Nat → Bool) : Prop where
  sm : ∀ l ∈ [l0, l1, l2], LeadSm l.runs l.b ∧ l.w.Sm
  mem : M ∈ [l0.mx, l1.mx, l2.mx]
  top : ∀ a ∈ [l0.mx, l1.mx, l2.mx], a ≤ M
  m0 : 0 ≤ M
  m1 : M ≤ 50
  hn : (M + 1).toNat = n
  size : ∀ i < n, (its i).n = 1 + (i : Int) ∧ SizeOk (l0.w.lvl (1 + (i : Int))) (l1.w.lvl (1 + (i : Int))) (l2.w.lvl (1 + (i : Int))) (its i) (gr i)
  rows : ∀ t ∈ rowsTo l0 l1 l2 n, t.Sm
  greys : (wheelTo its gr n).2.map It.row = ((rowsTo l0 l1 l2 n).filter fun t => decide (t.spr = 0)).map Rw.row
  wheel : (wheelTo its gr n).1.map It.row = (sortR (fun i => (((colored l0 l1 l2 n)[i]?).elim 0 fun t => t.place (wholeP (colored l0 l1 l2 n)))) (colored l0 l1 l2 n)).map Rw.row
  pair : ∀ i : Nat, i < 3 → ItsOk ((cutL (wheelTo its gr n).1 (2 * (i : Int) + 1)).2.1 ++ ((cutL (wheelTo its gr n).1 (2 * (i : Int) + 1)).2.2 ++ (wheelTo its gr n).2)) ∧
    ItsOk ((cutL (wheelTo its gr n).1 (2 * (i : Int) + 1)).1 ++ ((cutL (wheelTo its gr n).1 (2 * (i : Int) + 1)).2.2 ++ (wheelTo its gr n).2)) ∧
    ItsOk ((cutL (wheelTo its gr n).1 (2 * (i : Int) + 1)).1 ++ (cutL (wheelTo its gr n).1 (2 * (i : Int) + 1)).2.1) ∧
    pairB (ldAt l0 l1 l2 i).w (ldAt l0 l1 l2 ((i + 1) % 3)).w (cutL (wheelTo its gr n).1 (2 * (i : Int) + 1)).1 (cutL (wheelTo its gr n).1 (2 * (i : Int) + 1)).2.1 ((cutL (wheelTo its gr n).1 (2 * (i : Int) + 1)).2.2 ++ (wheelTo its gr n).2) i ((i + 1) % 3) (max (ldAt l0 l1 l2 i).mx (ldAt l0 l1 l2 ((i + 1) % 3)).mx + 1) = true
structure AgE (l0 l1 l2 : Ld) (W gs : List It) (G : GEnv) : Prop where
  le : G "leads" = some (.d (.lst (([l0, l1, l2] : List Ld).map Ld.d)))
  sp : G "spaces" = some (.d (.lst (([l0.w, l1.w, l2.w] : List Wsp).map .ws)))
  lo : G "longest" = some (.d (D.ints [l0.mx, l1.mx, l2.mx]))
  wh : G "wheel" = some (.d (.lst (W.map It.d)))
  gr : G "greys" = some (.d (.lst (gs.map It.d)))
section
variable {P : Wd} {C : Cx P} {Γ Γ' : GEnv} {k : Nat}
theorem BinOk.neRows (O : CxOk C k) (h : k < 980) (gs : List It) (rs : List Rw) : BinOk C (compareOp .NotEq) (.lst (gs.map fun t => .lst (t.row.map .int))) (.lst (rs.map Rw.d)) (.bool (!decide (gs.map It.row = rs.map Rw.row))) := by
  have e1 : D.rows (gs.map It.row) = .lst (gs.map fun t => .lst (t.row.map .int)) := by unfold D.rows; rw [List.map_map]; rfl
  have e2 : D.rows (rs.map Rw.row) = .lst (rs.map Rw.d) := by unfold D.rows; rw [List.map_map]; rfl
  rw [← e1, ← e2]
  exact BinOk.neP O h (pl_rows _) (pl_rows _) (eqv_rows _ _)
theorem cutL_ok (X : KU P.K) (XB : KB P.K) (XT : TabsP P) (O : CxOk C k) (hr : k < 850) {items : List It} {i : Nat} (hi : i < 3) (hlen : items.length < 64) :
    CallOk C (.ref 178) [.lst (items.map It.d), .int (2 * (i : Int) + 1)] (.tup [.lst ((cutL items (2 * (i : Int) + 1)).1.map It.d), .lst ((cutL items (2 * (i : Int) + 1)).2.1.map It.d), .lst ((cutL items (2 * (i : Int) + 1)).2.2.map It.d)]) := by
  have h : ¬ Float64.isInf (fracF ((2 * (i : Int) + 1).fmod 3) 6) = true ∧ ¬ Float64.isInf (fracF ((2 * (i : Int) + 1).fmod 3 + 3) 6) = true := by
    have : i = 0 ∨ i = 1 ∨ i = 2 := by lia
    rcases this with rfl | rfl | rfl <;> decide +kernel
  have := cut_ok X XB XT O hr hlen h.1 h.2
  unfold cutL
  by_cases hc : 2 * (i : Int) + 1 < 3
  · rw [if_pos hc] at this; simp only [if_pos hc]; exact this
  · rw [if_neg hc] at this; simp only [if_neg hc]; exact this
theorem agrees_ok (X : KA P.K) (XV : KV P.K) (XU : KU P.K) (XI : KI P.K) (XTx : KT P.K) (XD : KD P.K) (XR : KR P.K) (XB : KB P.K) (XC : KC P.K) (XW : KW P.K) (XT : TabsP P) (O : CxOk C k) (hr : k < 800) {l0 l1 l2 : Ld} {M : Int} {n : Nat} {its : Nat → It} {gr : Nat → Bool}
    (A : AgreeF l0 l1 l2 M n its gr) : CallOk C (.ref 195) [.lst (([l0, l1, l2] : List Ld).map Ld.d)] (.bool true) := by
  have hM := A.m0
  have hM1 := A.m1
  have hn := A.hn
  have hwl := wheelTo_len its gr n
  refine CallOk.dfn O (by lia) X.d_agrees (names := ["leads"]) (fun C' F _ => ?_) (fun vs doc pm an ct h => ?_) rfl rfl (by decide) (by decide)
  · refine SS.one (S1.assignComp F.ok F.st (F.comp []) [l0, l1, l2] Ld.d (fun _ => true) (fun l => .ws l.w) (IT.lst F.ok (ds := [l0, l1, l2].map Ld.d) (F.name (x := "leads"))) (map_getD [l0, l1, l2] Ld.d) (by simp) (fun C2 B l hl => IfsOk.nil) (fun C2 B l hl _ => ?_) (by rw [F.en]; rfl)) ?_
    · have hs := A.sm l hl
      have hz := textL_len hs.1
      have he : (textP l.runs l.b).cps.toList = textL l.runs l.b := textP_cps _ _
      have hi := init_ok (P := P) (C := C2) (k := k + 1) XI B.ok (by lia) (t := textP l.runs l.b) (textP_asc _ _) (by rw [← Array.length_toList, he]; lia)
      rw [he] at hi
      exact EV.callK B.ok XI.k_W (B.glob F XI.g_W) (EVs.cons (EV.callK B.ok XTx.d_text.k (B.glob F X.g_text) (EVs.cons (B.name F (d := Ld.d l)) EVs.nil) (text_ok XTx B.ok (by lia) hs.1)) EVs.nil) hi
    refine SS.one (S1.assignComp F.ok F.st (F.comp []) [l0, l1, l2] Ld.d (fun _ => true) (fun l => .int l.mx) (IT.lst F.ok (ds := [l0, l1, l2].map Ld.d) (F.name (x := "leads"))) (map_getD [l0, l1, l2] Ld.d) (by simp) (fun C2 B l hl => IfsOk.nil) (fun C2 B l hl _ => ?_) (by rw [F.en]; rfl)) ?_
    · have hs := A.sm l hl
      have hlen := hs.1.len
      have hx := foldr_mx l.runs l.b
      refine EV.callB (B.boot F X.max_ boot_max) (EVs.cons (EV.bin (d1 := D.ints l.runs) (d2 := .lst [.int l.b]) (d := D.ints (l.runs ++ [l.b])) ?_ (EV.item (ds := [D.ints l.runs, .int l.b]) (B.name F) EV.cInt (by decide) (by decide) rfl) (EV.list (EVs.cons (EV.item (ds := [D.ints l.runs, .int l.b]) (B.name F) EV.cInt (by decide) (by decide) rfl) EVs.nil) (sizes _ (by simp)))) EVs.nil) (CallOk.maxL B.ok hx.1 hx.2)
      unfold D.ints
      rw [List.map_append]
      exact BinOk.addL (sizes _ (by simp; lia))
    have emax : ∀ {Γ : GEnv}, Γ "longest" = some (.d (D.ints [l0.mx, l1.mx, l2.mx])) → ∀ {p1 p2 p3 : Pos}, EV C' Γ (.Call (.Name "max" p1) [.Name "longest" p2] [] p3) (.int M) := fun hx _ _ _ =>
      EV.callB (F.boot X.max_ boot_max) (EVs.cons (F.name hx) EVs.nil) (CallOk.maxL F.ok A.mem A.top)
    have hwh := wheel_ok (P := P) (C := C') (k := k + 1) XV XB XC XW XT F.ok (by lia) (A.sm l0 (by simp)).2 (A.sm l1 (by simp)).2 (A.sm l2 (by simp)).2 (top := M + 1) (n := n) (by simp [*]) (by lia) (its := its) (gr := gr) A.size (by lia)
    refine SS.one (S1.unpackT F.ok (xs := [("wheel", _), ("greys", _)]) rfl (by intro x hx; simp only [List.mem_cons, List.not_mem_nil, or_false] at hx; rcases hx with rfl | rfl <;> exact F.st) (EV.callK F.ok XV.d_wheel.k (F.glob X.g_wheel) (EVs.cons F.name (EVs.cons (EV.bin BinOk.addI (emax rfl) EV.cInt) EVs.nil)) hwh) rfl) ?_
    have hgrey := A.greys
    have hwheel := A.wheel
    have hpair := A.pair
    have hrows := A.rows
    have hsm := A.sm
    clear hwh
    generalize (wheelTo its gr n).1 = W at *
    generalize (wheelTo its gr n).2 = gs at *
    refine SS.cons (N1 := fun G => ∃ a, G "rows" = some (.ml a []) ∧ AgE l0 l1 l2 W gs G) (S1.assignL F.ok F.st F.nc EVs.nil (by simp) (fun l => ⟨l, rfl, rfl, rfl, rfl, rfl, rfl⟩)) (fun G hG => ?_)
    obtain ⟨a, g1, hE⟩ := hG
    refine SS.cons (N1 := fun G => G "rows" = some (.ml a ((rowsTo l0 l1 l2 n).map Rw.d)) ∧ AgE l0 l1 l2 W gs G)
      (S1.forI F.ok F.stC (IT.rng (a := 1) (b := M + 2) F.ok (small_one (by simp) (by simp) (by lia) (by lia)) (EV.callT (F.boot X.range_ boot_range) (EVs.cons EV.cInt (EVs.cons (EV.bin BinOk.addI (emax hE.lo) EV.cInt) EVs.nil)) CallOk.range2))
        (fun i G => G "rows" = some (.ml a ((rowsTo l0 l1 l2 i).map Rw.d)) ∧ AgE l0 l1 l2 W gs G) ⟨g1, hE⟩ (fun i G hi hG => ?_) (fun G hG => ?_)) (fun G hG => ?_)
    · obtain ⟨b1, bE⟩ := hG
      have hi' : (i : Int) < M + 1 := by grind
      refine SS.one (S1.append F.ok (x := "rows") b1 F.loc F.nc (d := (rowAt l0 l1 l2 i).d) (EV.bin (d1 := .lst [.int (1 + (i : Int))]) (d2 := .lst (([l0, l1, l2] : List Ld).map fun l => .int (l.col (1 + (i : Int))))) (BinOk.addL (sizes _ (by simp))) (EV.list (EVs.cons F.nameC EVs.nil) (sizes _ (by simp)))
        (EV.compL F.ok F.cm (F.comp [("size", C'.L + 1)]) [l0, l1, l2] Ld.d _ (F.name bE.le) (by simp) (fun C2 B l hl => EV.callK B.ok XD.d_column.k (B.glob F X.g_column) (EVs.cons (B.name F (d := Ld.d l)) (EVs.cons (B.cell F (d := .int (1 + (i : Int))) rfl) EVs.nil)) (column_ok XD B.ok (by lia) (hsm l hl).1 (by lia) (by lia))))) ?_ F.cm) (SS.nil ⟨?_, bE.le, bE.sp, bE.lo, bE.wh, bE.gr⟩)
      · unfold rowsTo; simp; lia
      · show some _ = some _
        unfold rowsTo
        rw [List.range_succ, List.map_append, List.map_append]; rfl
    · have e : (M + 2 - 1).toNat = n := by lia
      rw [e] at hG
      exact hG
    obtain ⟨b1, bE⟩ := hG
    refine SG.freeze F.cm b1 ?_
    have bE' : AgE l0 l1 l2 W gs (G.set "rows" (.lst ((rowsTo l0 l1 l2 n).map Rw.d))) := ⟨bE.le, bE.sp, bE.lo, bE.wh, bE.gr⟩
    have bR : (G.set "rows" (.lst ((rowsTo l0 l1 l2 n).map Rw.d))) "rows" = some (.d (.lst ((rowsTo l0 l1 l2 n).map Rw.d))) := rfl
    generalize (G.set "rows" (.lst ((rowsTo l0 l1 l2 n).map Rw.d))) = G1 at *
    have hlen : (rowsTo l0 l1 l2 n).length = n := by unfold rowsTo; simp
    have eq1 : (fun t : Rw => decide (t.spr = 0)) = fun t => t.spr == 0 := by funext t; rfl
    rw [eq1] at hgrey
    refine SS.cons (N1 := fun G => G = G1) (S1.ite (TV.cmp (BinOk.neRows F.ok (by lia) gs ((rowsTo l0 l1 l2 n).filter fun t : Rw => t.spr == 0))
      (EV.compL F.ok F.cm (F.comp []) gs It.d _ (F.name bE'.gr) (by grind) (fun C2 B t ht => EV.sliceE (ds := [.flt t.h, .int t.n, .int t.r, .int t.g, .int t.b]) (pick_from _ (a := 1) (by simp)) (B.name F (d := It.d t)) (.so EV.cInt) .no .no (by simp) (by simp)))
      (EV.compF F.ok F.cm (F.comp []) (rowsTo l0 l1 l2 n) Rw.d Rw.d (fun t => t.spr == 0) (F.name bR) (by grind)
          (fun C2 B t ht => TV.cmp BinOk.eqI (EV.callK B.ok XD.d_spread.k (B.glob F X.g_spread) (EVs.cons (B.name F (d := Rw.d t)) EVs.nil) (spread_ok XD B.ok (by lia))) EV.cInt) (fun C2 B t ht _ => B.name F)))
      (fun hb => ?_) (fun hb => SS.nil rfl)) (fun G hG => ?_)
    · rw [hgrey] at hb; simp at hb
    subst hG
    have hcs : ∀ t ∈ colored l0 l1 l2 n, t.Sm ∧ 1 ≤ t.spr := by
      intro t ht
      unfold colored at ht
      obtain ⟨h1, h2⟩ := List.mem_filter.mp ht
      exact ⟨hrows t h1, by have := of_decide_eq_true h2; assumption⟩
    have hcl : (colored l0 l1 l2 n).length ≤ n := by
      unfold colored
      exact Nat.le_trans (List.length_filter_le _ _) (by simp [*])
    have hord := order_ok (P := P) (C := C') (k := k + 1) XR XD XT F.ok (by lia) (rows := colored l0 l1 l2 n) hcs (by grind)
    rw [sortR_d] at hord
    refine SS.cons (N1 := fun G' => G' = G) (S1.ite (TV.cmp (BinOk.neRows F.ok (by omega) W (sortR (fun i => (((colored l0 l1 l2 n)[i]?).elim 0 fun t => t.place (wholeP (colored l0 l1 l2 n)))) (colored l0 l1 l2 n)))
      (EV.compL F.ok F.cm (F.comp []) W It.d _ (F.name bE'.wh) (by grind) (fun C2 B t ht => EV.sliceE (ds := [.flt t.h, .int t.n, .int t.r, .int t.g, .int t.b]) (pick_from _ (a := 1) (by simp)) (B.name F (d := It.d t)) (.so EV.cInt) .no .no (by simp) (by simp)))
      (EV.callK F.ok XR.d_order.k (F.glob X.g_order) (EVs.cons (EV.compF F.ok F.cm (F.comp []) (rowsTo l0 l1 l2 n) Rw.d Rw.d (fun t => decide (0 < t.spr)) (F.name bR) (by omega)
          (fun C2 B t ht => TV.cmp BinOk.gtI (EV.callK B.ok XD.d_spread.k (B.glob F X.g_spread) (EVs.cons (B.name F (d := Rw.d t)) EVs.nil) (spread_ok XD B.ok (by omega))) EV.cInt) (fun C2 B t ht _ => B.name F)) EVs.nil) hord))
      (fun hb => ?_) (fun hb => SS.nil rfl)) (fun G' hG => ?_)
    · rw [hwheel] at hb; simp at hb
    subst hG
    refine SS.cons (N1 := fun G => True)
      (S1.forI F.ok F.st (IT.rng (a := 0) (b := 3) F.ok (small_one (by simp) (by simp) (by simp) (by simp)) (EV.callT (F.boot X.range_ boot_range) (EVs.cons EV.cInt EVs.nil) CallOk.range1))
        (fun i G => AgE l0 l1 l2 W gs G) bE' (fun i G hi hG => ?_) (fun G hG => trivial)) (fun G hG => SS.cons (N1 := fun _ => False) (S1.ret EV.cBool rfl) (fun _ h => h.elim))
    have hi3 : i < 3 := by assumption
    obtain ⟨p1, p2, p3, p4⟩ := hpair i hi3
    rw [Int.zero_add]
    have ej : ((i : Int) + 1).fmod 3 = (((i + 1) % 3 : Nat) : Int) := by
      rw [Int.fmod_eq_emod_of_nonneg _ (by simp)]; rfl
    have hj3 : (i + 1) % 3 < 3 := Nat.mod_lt _ (by simp)
    have lmx : ∀ i : Nat, i < 3 → ([l0.mx, l1.mx, l2.mx].map D.int)[((i : Nat) : Int).toNat]? = some (.int (ldAt l0 l1 l2 i).mx) := by
      intro i hi
      have : i = 0 ∨ i = 1 ∨ i = 2 := by lia
      rcases this with rfl | rfl | rfl <;> rfl
    have lw : ∀ i : Nat, i < 3 → ([l0.w, l1.w, l2.w] : List Wsp)[i]? = some (ldAt l0 l1 l2 i).w := by
      intro i hi
      have : i = 0 ∨ i = 1 ∨ i = 2 := by omega
      rcases this with rfl | rfl | rfl <;> rfl
    have lsm : ∀ i : Nat, i < 3 → (ldAt l0 l1 l2 i).w.Sm := by
      intro i hi
      have : i = 0 ∨ i = 1 ∨ i = 2 := by omega
      rcases this with rfl | rfl | rfl
      · exact (hsm l0 (by simp)).2
      · exact (hsm l1 (by simp)).2
      · exact (hsm l2 (by simp)).2
    refine SS.one (S1.assign F.ok F.st (d := .int (((i + 1) % 3 : Nat) : Int)) (by rw [← ej]; exact EV.bin (BinOk.modI (by decide)) (EV.bin BinOk.addI F.name EV.cInt) EV.cInt)) ?_
    refine SS.one (S1.unpackT F.ok (xs := [("less", _), ("more", _), ("alike", _)]) rfl (by intro x hx; simp only [List.mem_cons, List.not_mem_nil, or_false] at hx; rcases hx with rfl | rfl | rfl <;> exact F.st)
      (EV.callK F.ok XU.d_cut.k (F.glob X.g_cut) (EVs.cons (F.name hG.wh) (EVs.cons (EV.bin BinOk.addI (EV.bin (BinOk.mulI (mulOk (by decide))) EV.cInt F.name) EV.cInt) EVs.nil)) (cutL_ok XU XB XT F.ok (by lia) hi3 (by grind))) rfl) ?_
    refine SS.one (S1.assign F.ok F.st (EV.bin BinOk.addI (EV.callB (F.boot X.max_ boot_max) (EVs.cons (EV.item (F.name hG.lo) F.name (by simp) (by (clear hi; lia)) (lmx i hi3)) (EVs.cons (EV.item (F.name hG.lo) F.name (by grind) (by grind) (lmx _ hj3)) EVs.nil)) (CallOk.max2 F.ok)) EV.cInt)) ?_
    generalize hcut : cutL W (2 * (i : Int) + 1) = q at *
    obtain ⟨ls, mo, al⟩ := q
    have lal : al.length < 64 := by have := p1.len; simp only [List.length_append] at this; (clear hn; lia)
    refine SS.cons (N1 := fun G => AgE l0 l1 l2 W gs G) (S1.ite (b := false) (by
      have hp := pair_ok (P := P) (C := C') (k := k + 1) XR XW F.ok (by lia) hi3 hj3 (by simp) (lw i hi3) (lw _ hj3) (lsm i hi3) (lsm _ hj3) p1 p2 p3 (most := max (ldAt l0 l1 l2 i).mx (ldAt l0 l1 l2 ((i + 1) % 3)).mx + 1)
      rw [p4] at hp
      exact TV.not (b := true) (TV.value (EV.callK F.ok XR.d_pair.k (F.glob X.g_pair) (EVs.cons (F.name hG.sp) (EVs.cons F.name (EVs.cons F.name (EVs.cons F.name (EVs.cons (EV.list (EVs.cons F.name (EVs.cons F.name (EVs.cons (EV.bin (d1 := .lst (al.map It.d)) (d2 := .lst (gs.map It.d)) (by rw [List.map_append]; exact BinOk.addL (by rw [List.length_map, List.length_map, sizeLine_eq]; grind)) F.name (F.name hG.gr)) EVs.nil))) (sizes _ (by simp))) EVs.nil))))) hp)))
      (fun hb => by cases hb) (fun hb => SS.nil ⟨hG.le, hG.sp, hG.lo, hG.wh, hG.gr⟩)) (fun G hG => SS.nil hG)
  · obtain ⟨a1, rfl⟩ := len1 h; rfl
end
end Mine
end

section
open PySem PySem.W PyProof.Rows PySem.Calls
set_option maxRecDepth 100000
namespace Mine
/-- the script's list, older than the run -/
noncomputable def Scr (g : Heap) (a : Addr) (ns : List Int) : Prop := ∃ vs : List Value, g.IsList a vs.toArray ∧ IntsAre vs ns
theorem Scr.keeps {g g' : Heap} {a : Addr} {ns : List Int} (h : Scr g a ns) (k : ∀ b o, g.get? b = some o → g'.get? b = some o) : Scr g' a ns := by
  obtain ⟨vs, ⟨o, e, r⟩, i⟩ := h
  exact ⟨vs, ⟨o, k _ _ e, r⟩, i⟩
theorem IntsAre.getI {vs : List Value} {ns : List Int} (h : IntsAre vs ns) {i : Nat} (hi : i < ns.length) : ∃ t, vs[i]? = some (.int (ns.getD i 0) t) := by
  obtain ⟨t, e⟩ := Mine.IntsAre.at h hi
  refine ⟨t, ?_⟩
  have hl : vs.length = ns.length := by
    have := (IntsAre.reps (fz := []) h).length
    rw [this, List.length_map]
  rw [List.getD_eq_getElem?_getD, List.getElem?_eq_getElem (by simp [*])] at e
  rw [List.getElem?_eq_getElem (by omega)]
  exact congrArg some e
theorem IntsAre.len {vs : List Value} {ns : List Int} (h : IntsAre vs ns) : vs.length = ns.length := by
  have := (IntsAre.reps (fz := []) h).length
  rw [this, List.length_map]
noncomputable def drawTo (ns : List Int) : Nat → List Int
  | 0 => [3092, 136, 2]
  | i + 1 => (drawTo ns i).set (i % 3) ((drawTo ns i).getD (i % 3) 0 + ns.getD i 0)
theorem drawTo_len (ns : List Int) : ∀ i, (drawTo ns i).length = 3
  | 0 => rfl
  | i + 1 => by rw [drawTo, List.length_set, drawTo_len ns i]
structure KL (K : Frag) : Prop where
  min_ : nsIn K mainGlobals "min" = some Option.none
  len_ : nsIn K mainGlobals "len" = some Option.none
  range_ : nsIn K mainGlobals "range" = some Option.none
  g_draws : nsIn K mainGlobals "_law_draws" = some (some (.ref 128))
  g_lead : nsIn K mainGlobals "_law_lead" = some (some (.ref 133))
  g_agrees : nsIn K mainGlobals "_law_agrees" = some (some (.ref 195))
  d_draws : IsDef K 128 "_law_draws" "_law_draws" (stm 10) .none .none (.ref 127)
section
variable {P : Wd} {C : Cx P} {Γ Γ' : GEnv} {k : Nat} {kl : Led} {m : Str → Option Value} {fz mu : Led} {s : Shared} {N : GEnv → Prop} {R : D → Prop} {B : GEnv → Prop}
theorem CallOk.lenV {a : Addr} {ns : List Int} (h : Scr C.g a ns) (hz : ns.length ≤ 1000) : CallOk C (.builtin "len") [.val (.ref a)] (.int ns.length) := by
  intro kl m fz mu s Q vs hS r hQ
  obtain ⟨v, rfl, r1⟩ := r.c1
  obtain rfl := r1.val_inv
  obtain ⟨vs, hl, hi⟩ := h.keeps hS.keep
  refine PyProof.Rows.len_list hl (by rw [List.size_toArray, IntsAre.len hi]; lia) (hQ _ _ _ (List.Subset.refl _) (hS.tok _) ?_)
  rw [List.size_toArray, IntsAre.len hi]; exact .int _ _
theorem EV.itemV {a : Addr} {ns : List Int} (h : Scr C.g a ns) {e sl : Expr} {pos : Pos} {i : Nat} (h1 : EV C Γ e (.val (.ref a))) (h2 : EV C Γ sl (.int i)) (hi : i < ns.length) (hz : ns.length ≤ 1000)
    (hs : SubOk sl := by intro _ _ _; with_unfolding_all rfl) (hg : LetGo e := by intro _ _; with_unfolding_all rfl) : EV C Γ (.Subscript e sl pos) (.int (ns.getD i 0)) := by
  intro kl m fz mu s Q hE hS hQ
  refine Subscript_ (h1 hE hS fun fz1 s1 v1 k1 S1 r1 => h2 (hE.mono k1) S1 fun fz2 s2 v2 k2 S2 r2 => ?_)
  obtain rfl := r1.val_inv
  obtain ⟨u, rfl⟩ := r2.int_inv
  obtain ⟨vs, hl, hv⟩ := h.keeps S2.keep
  obtain ⟨t, ht⟩ := IntsAre.getI hv hi
  exact item_list hl (by omega) (by omega) (by have : ((i : Nat) : Int).toNat = i := by omega
                                               rw [this]; simpa using ht) (hQ _ _ _ (fun _ hp => k2 (k1 hp)) S2 (.int _ _)) (hs _ _ _) (hg _)
theorem draws_ok (X : KL P.K) (O : CxOk C k) (hr : k < 880) {a : Addr} {ns : List Int} (h : Scr C.g a ns) (hz : ns.length ≤ 63) : CallOk C (.ref 128) [.val (.ref a)] (D.ints (drawTo ns ns.length)) := by
  refine CallOk.dfn O (by lia) X.d_draws (names := ["script"]) (fun C' F kp => ?_) (fun vs doc pm an ct h => ?_) rfl rfl (by decide) (by decide)
  · have h' := h.keeps kp
    refine SS.cons (N1 := fun G => ∃ b, G "draws" = some (.ml b (([3092, 136, 2] : List Int).map .int)) ∧ G "script" = some (.d (.val (.ref a)))) (S1.assignL F.ok F.st F.nc (EVs.cons EV.cInt (EVs.cons EV.cInt (EVs.cons EV.cInt EVs.nil))) (sizes _ (by simp)) (fun l => ⟨l, rfl, rfl⟩)) (fun G hG => ?_)
    obtain ⟨b, g1, g2⟩ := hG
    refine SS.cons (N1 := fun G => G "draws" = some (.ml b ((drawTo ns ns.length).map .int)))
      (S1.forI F.ok F.st (IT.rng (a := 0) (b := min 63 ns.length) F.ok (small_one (by simp) (by simp) (by lia) (by lia)) (EV.callT (F.boot X.range_ boot_range) (EVs.cons (EV.callB (F.boot X.min_ boot_min) (EVs.cons EV.cInt (EVs.cons (EV.callB (F.boot X.len_ boot_len) (EVs.cons (F.name g2) EVs.nil) (CallOk.lenV h' (by lia))) EVs.nil)) (CallOk.min2 F.ok)) EVs.nil) CallOk.range1))
        (fun i G => G "draws" = some (.ml b ((drawTo ns i).map .int)) ∧ G "script" = some (.d (.val (.ref a)))) ⟨g1, g2⟩ (fun i G hi hG => ?_) (fun G hG => ?_)) (fun G hG => ?_)
    · obtain ⟨b1, b2⟩ := hG
      rw [Int.zero_add]
      have hi' : i < ns.length := by grind
      have hm3 : i % 3 < 3 := Nat.mod_lt _ (by simp)
      have hdl := drawTo_len ns i
      have ei : (i : Int).fmod 3 = ((i % 3 : Nat) : Int) := by rw [Int.fmod_eq_emod_of_nonneg _ (by simp)]; rfl
      refine SS.one (S1.augItem F.ok (x := "draws") (c := (drawTo ns i).getD (i % 3) 0) (i := ((i % 3 : Nat) : Int)) b1 F.loc F.nc F.cm (by rw [← ei]; exact EV.bin (BinOk.modI (by decide)) F.name EV.cInt) (by grind) ?_ (EV.itemV h' (F.name b2) F.name hi' (by lia)) (by rw [List.length_map]; simp [*])) (SS.nil ⟨?_, b2⟩)
      · have : ((i % 3 : Nat) : Int).toNat = i % 3 := by rfl
        rw [this, List.getElem?_map, List.getD_eq_getElem?_getD, List.getElem?_eq_getElem (by simp [*])]; rfl
      · have : ((i % 3 : Nat) : Int).toNat = i % 3 := by omega
        show some _ = some _
        rw [this, drawTo, List.map_set]
    · have e : (min 63 (ns.length : Int) - 0).toNat = ns.length := by lia
      rw [e] at hG
      exact hG.1
    · exact SG.freeze F.cm hG (SS.cons (N1 := fun _ => False) (S1.ret F.name rfl) (fun _ h => h.elim))
  · obtain ⟨a1, rfl⟩ := len1 h; rfl
noncomputable def Ld.of (p : List Int × Int) : Ld := ⟨p.1, p.2⟩
noncomputable def firstL (ns : List Int) : Ld := Ld.of (leadP ((drawTo ns ns.length).getD 0 0) [2, 0] 1)
noncomputable def secondL (ns : List Int) : Ld := Ld.of (leadP ((drawTo ns ns.length).getD 1 0) (firstL ns).runs (firstL ns).b)
noncomputable def thirdL (ns : List Int) : Ld := Ld.of (leadP ((drawTo ns ns.length).getD 2 0) (secondL ns).runs (secondL ns).b)
theorem law_body (X : KL P.K) (XA : KA P.K) (XV : KV P.K) (XU : KU P.K) (XI : KI P.K) (XTx : KT P.K) (XD : KD P.K) (XR : KR P.K) (XB : KB P.K) (XC : KC P.K) (XW : KW P.K) (XT : TabsP P) {qual : Str} {f : Addr} {cd : Value} (F : Fd C k qual (scD (stm 22)) f cd) (hr : k < 700) {a : Addr} {ns : List Int} (h : Scr C.g a ns) (hz : ns.length ≤ 63)
    (h1 : (firstL ns).runs.length ≤ 3) (h2 : (secondL ns).runs.length ≤ 3) {M : Int} {n : Nat} {its : Nat → It} {gr : Nat → Bool} (A : AgreeF (firstL ns) (secondL ns) (thirdL ns) M n its gr) :
    SS C (Γof ((["script"] : List Str).zip [.val (.ref a)])) (bodyD (stm 22)) (fun _ => False) (fun d => d = .bool true) (fun _ => False) := by
  have hdl := drawTo_len ns ns.length
  have dat : ∀ i : Nat, i < 3 → ((drawTo ns ns.length).map D.int)[((i : Nat) : Int).toNat]? = some (.int ((drawTo ns ns.length).getD i 0)) := by
    intro i hi
    have : ((i : Nat) : Int).toNat = i := by simp
    rw [this, List.getElem?_map, List.getD_eq_getElem?_getD, List.getElem?_eq_getElem (by simp [*])]; rfl
  refine SS.one (S1.assign F.ok F.st (EV.callK F.ok X.d_draws.k (F.glob X.g_draws) (EVs.cons F.name EVs.nil) (draws_ok X F.ok (by lia) h hz))) ?_
  refine SS.one (S1.assign F.ok F.st (d := (firstL ns).d) (EV.callK F.ok XD.d_lead.k (F.glob X.g_lead) (EVs.cons (EV.item (i := 0) F.name EV.cInt (by decide) (by decide) (dat 0 (by decide))) (EVs.cons (d := D.ints [2, 0]) (EV.list (EVs.cons EV.cInt (EVs.cons EV.cInt EVs.nil)) (sizes _ (by simp))) (EVs.cons EV.cInt EVs.nil))) (lead_ok XD F.ok (by omega) (by simp)))) ?_
  refine SS.one (S1.assign F.ok F.st (d := (secondL ns).d) (EV.callK F.ok XD.d_lead.k (F.glob X.g_lead) (EVs.cons (EV.item (i := 1) F.name EV.cInt (by decide) (by decide) (dat 1 (by decide))) (EVs.cons (EV.item (ds := [D.ints (firstL ns).runs, .int (firstL ns).b]) F.name EV.cInt (by decide) (by decide) rfl) (EVs.cons (EV.item (ds := [D.ints (firstL ns).runs, .int (firstL ns).b]) F.name EV.cInt (by decide) (by decide) rfl) EVs.nil))) (lead_ok XD F.ok (by omega) h1))) ?_
  refine SS.one (S1.assign F.ok F.st (d := (thirdL ns).d) (EV.callK F.ok XD.d_lead.k (F.glob X.g_lead) (EVs.cons (EV.item (i := 2) F.name EV.cInt (by decide) (by decide) (dat 2 (by decide))) (EVs.cons (EV.item (ds := [D.ints (secondL ns).runs, .int (secondL ns).b]) F.name EV.cInt (by decide) (by decide) rfl) (EVs.cons (EV.item (ds := [D.ints (secondL ns).runs, .int (secondL ns).b]) F.name EV.cInt (by decide) (by decide) rfl) EVs.nil))) (lead_ok XD F.ok (by omega) h2))) ?_
  exact SS.cons (N1 := fun _ => False) (S1.ret (EV.callK F.ok XA.d_agrees.k (F.glob X.g_agrees) (EVs.cons (EV.list (EVs.cons F.name (EVs.cons F.name (EVs.cons F.name EVs.nil))) (sizes _ (by simp))) EVs.nil) (agrees_ok XA XV XU XI XTx XD XR XB XC XW XT F.ok (by lia) A)) rfl) (fun _ h => h.elim)
end
end Mine
end

section
open PySem PySem.W
set_option maxRecDepth 100000
namespace Mine
open Float64 (decode val V dist Right infMag pack sgn)

theorem grid {q : Nat} (hq : q ≤ 2 ^ 53) (k : Nat) (hk : 100 ≤ k) : ∃ t, V t = q * 2 ^ k := by
  by_cases h0 : q = 0
  · exact ⟨0, by rw [h0, Float64.V_zero, Nat.zero_mul]⟩
  by_cases h1 : 2 ^ 52 ≤ q
  · exact ⟨_, Float64.V_at (k := k) hq (.inl h1)⟩
  · have hl : q.log2 < 52 := (Nat.log2_lt h0).mpr (by lia)
    have a1 := Nat.log2_self_le h0
    have a2 := @Nat.lt_log2_self q
    generalize q.log2 = L at *
    have e1 : 2 ^ 52 = 2 ^ L * 2 ^ (52 - L) := by rw [← Nat.pow_add]; congr 1; lia
    have e2 : 2 ^ 53 = 2 ^ (L + 1) * 2 ^ (52 - L) := by rw [← Nat.pow_add]; congr 1; (clear h1; lia)
    have b1 : 2 ^ 52 ≤ q * 2 ^ (52 - L) := by rw [e1]; exact Nat.mul_le_mul_right _ a1
    have b2 : q * 2 ^ (52 - L) ≤ 2 ^ 53 := by rw [e2]; exact Nat.mul_le_mul_right _ (Nat.le_of_lt a2)
    refine ⟨_, (Float64.V_at (k := k - (52 - L)) b2 (.inl b1)).trans ?_⟩
    rw [Nat.mul_assoc, ← Nat.pow_add]
    congr 2; (clear h1; lia)

theorem right_near {r : UInt64} {neg : Bool} {W D : Nat} (h : Right r neg W D) (hD : 0 < D) (hW : W ≤ D * 2 ^ 1081) : ∃ t, r = pack neg t ∧ t < infMag ∧ dist W (D * V t) ≤ D * 2 ^ 1028 := by
  obtain ⟨t, e, ht, hi, hn⟩ := h
  have hlt : t < infMag := by
    rcases Nat.lt_or_eq_of_le ht with h | h
    · exact h
    · have h2 := hi.mp h
      have c : 2 * 2 ^ 1081 < (2 ^ 54 - 1) * 2 ^ 2045 := by decide +kernel
      have c2 := Nat.mul_lt_mul_of_pos_left c hD
      have c3 : D * (2 * 2 ^ 1081) = 2 * (D * 2 ^ 1081) := by ac_rfl
      (clear hi; lia)
  refine ⟨t, e, hlt, ?_⟩
  have hG : 0 < D * 2 ^ 1028 := Nat.mul_pos hD (Nat.two_pow_pos _)
  have hq : W / (D * 2 ^ 1028) ≤ 2 ^ 53 := by
    refine Nat.div_le_of_le_mul ?_
    have e : D * 2 ^ 1028 * 2 ^ 53 = D * 2 ^ 1081 := by rw [Nat.mul_assoc, ← Nat.pow_add]
    rw [e]; exact hW
  obtain ⟨t', ht'⟩ := grid hq 1028 (by decide)
  refine Nat.le_trans (hn hlt t').1 ?_
  rw [ht']
  have e : D * (W / (D * 2 ^ 1028) * 2 ^ 1028) = D * 2 ^ 1028 * (W / (D * 2 ^ 1028)) := by ac_rfl
  rw [e]
  have h1 := Nat.div_add_mod W (D * 2 ^ 1028)
  have h2 := Nat.mod_lt W hG
  unfold dist
  omega

/-- the scale -/
noncomputable def K : Nat := 2 ^ 1074
noncomputable def GG : Nat := 2 ^ 1028
theorem K_pos : 0 < K := Nat.two_pow_pos _
theorem G_K : GG * 2 ^ 46 = K := by unfold GG K; rw [← Nat.pow_add]
noncomputable def eps : Rat := 1 / 70368744177664
theorem eps_pos : 0 < eps := by unfold eps; decide +kernel
theorem eps_le : eps ≤ 1 / 1000000000000 := by unfold eps; decide +kernel
theorem eps_K : eps * (K : Rat) = (GG : Rat) := by
  rw [← G_K]
  unfold eps
  push_cast
  grind
/-- a finite float and its value -/
noncomputable def Fq (x : UInt64) (q : Rat) : Prop := (∃ a m e, decode x = .fin a m e) ∧ ((val x : Int) : Rat) = q * (K : Rat)
noncomputable def Ap (x : UInt64) (q e : Rat) : Prop := ∃ z, Fq x z ∧ q - e ≤ z ∧ z ≤ q + e
theorem KpR : (0 : Rat) < (K : Rat) := by exact_mod_cast K_pos
theorem Fq.uniq {x : UInt64} {p q : Rat} (h : Fq x p) (h2 : Fq x q) : p = q := by
  have := h.2.symm.trans h2.2
  have hk : (K : Rat) ≠ 0 := by have := KpR; decide
  grind
theorem right_fq {r : UInt64} {neg : Bool} {W D : Nat} (h : Right r neg W D) (hD : 0 < D) (hW : W ≤ D * 2 ^ 1081) {q : Rat} (hq : q * (K : Rat) * (D : Rat) = ((sgn neg W : Int) : Rat)) : Ap r q eps := by
  obtain ⟨t, e, ht, hd⟩ := right_near h hD hW
  obtain ⟨m, f, h1, h2⟩ := Float64.decode_pack neg ht
  have hv := Float64.val_pack neg ht
  have hk := KpR
  have hDR : (0 : Rat) < (D : Rat) := by exact_mod_cast hD
  refine ⟨((sgn neg (V t) : Int) : Rat) / (K : Rat), ⟨⟨_, _, _, by rw [e]; exact h1⟩, ?_⟩, ?_⟩
  · rw [e, hv]; grind
  have g : GG = 2 ^ 1028 := by unfold GG; rfl
  rw [← g] at hd
  have hi : -((D : Int) * (GG : Int)) ≤ sgn neg W - (D : Int) * sgn neg (V t) ∧ sgn neg W - (D : Int) * sgn neg (V t) ≤ (D : Int) * (GG : Int) := by
    have e1 : ((D * V t : Nat) : Int) = (D : Int) * (V t : Int) := Int.natCast_mul _ _
    have e2 : ((D * GG : Nat) : Int) = (D : Int) * (GG : Int) := Int.natCast_mul _ _
    have e3 : (D : Int) * -(V t : Int) = -((D : Int) * (V t : Int)) := Int.mul_neg _ _
    unfold dist at hd
    unfold sgn
    cases neg
    · simp only [Bool.false_eq_true, if_false]; omega
    · simp only [if_true]; rw [e3]; omega
  generalize sgn neg W = w at *
  generalize sgn neg (V t) = v at *
  obtain ⟨i1, i2⟩ := hi
  have j1 : -((D : Rat) * (GG : Rat)) ≤ (w : Rat) - (D : Rat) * (v : Rat) := by have := Rat.intCast_le_intCast.mpr i1; push_cast at this; exact this
  have j2 : (w : Rat) - (D : Rat) * (v : Rat) ≤ (D : Rat) * (GG : Rat) := by have := Rat.intCast_le_intCast.mpr i2; push_cast at this; exact this
  rw [← eps_K, ← hq] at j1 j2
  generalize hz : (v : Rat) / (K : Rat) = z
  have hvz : (v : Rat) = z * (K : Rat) := by rw [← hz]; grind
  rw [hvz] at j1 j2
  have hDK : (0 : Rat) < (D : Rat) * (K : Rat) := Rat.mul_pos hDR hk
  constructor
  · refine Rat.le_of_mul_le_mul_left (c := (D : Rat) * (K : Rat)) ?_ hDK
    grind
  · refine Rat.le_of_mul_le_mul_left (c := (D : Rat) * (K : Rat)) ?_ hDK
    grind
end Mine
end

section
open PySem PySem.W
set_option maxRecDepth 100000
namespace Mine
open Float64 (decode val V dist Right infMag pack sgn)

theorem gridA (q k : Nat) (hq : q ≤ 2 ^ 53) : ∃ t, V t = q * 2 ^ k := by
  by_cases hs : q * 2 ^ k ≤ 2 ^ 53
  · refine ⟨0 * 2 ^ 52 + q * 2 ^ k, ?_⟩
    rw [Float64.V_at (k := 0) hs (.inr rfl)]; simp
  by_cases h0 : q = 0
  · exact ⟨0, by rw [h0, Float64.V_zero, Nat.zero_mul]⟩
  by_cases h1 : 2 ^ 52 ≤ q
  · exact ⟨_, Float64.V_at (k := k) hq (.inl h1)⟩
  · have hl : q.log2 < 52 := (Nat.log2_lt h0).mpr (by lia)
    have a1 := Nat.log2_self_le h0
    have a2 := @Nat.lt_log2_self q
    generalize q.log2 = L at *
    have e1 : 2 ^ 52 = 2 ^ L * 2 ^ (52 - L) := by rw [← Nat.pow_add]; congr 1; lia
    have e2 : 2 ^ 53 = 2 ^ (L + 1) * 2 ^ (52 - L) := by rw [← Nat.pow_add]; congr 1; (clear h1; lia)
    have b1 : 2 ^ 52 ≤ q * 2 ^ (52 - L) := by rw [e1]; exact Nat.mul_le_mul_right _ a1
    have b2 : q * 2 ^ (52 - L) ≤ 2 ^ 53 := by rw [e2]; exact Nat.mul_le_mul_right _ (Nat.le_of_lt a2)
    have hk : 52 - L ≤ k := by
      rcases Nat.lt_or_ge k (52 - L) with h | h
      · exfalso
        apply hs
        exact Nat.le_trans (Nat.mul_le_mul_left _ (Nat.pow_le_pow_right (by decide) (Nat.le_of_lt h))) b2
      · exact h
    refine ⟨_, (Float64.V_at (k := k - (52 - L)) b2 (.inl b1)).trans ?_⟩
    rw [Nat.mul_assoc, ← Nat.pow_add]
    congr 2; simp [*]

theorem dist_self (a : Nat) : dist a a = 0 := by unfold dist; rw [Nat.sub_self]
theorem dist_zero {a b : Nat} (h : dist a b = 0) : a = b := by
  unfold dist at h
  exact Nat.le_antisymm (Nat.le_of_sub_eq_zero (Nat.eq_zero_of_add_eq_zero_right h)) (Nat.le_of_sub_eq_zero (Nat.eq_zero_of_add_eq_zero_left h))
theorem right_exact {r : UInt64} {neg : Bool} {W D t' : Nat} (h : Right r neg W D) (hD : 0 < D) (hW : W ≤ D * 2 ^ 1081) (hV : W = D * V t') {q : Rat} (hq : q * (K : Rat) * (D : Rat) = ((sgn neg W : Int) : Rat)) : Fq r q := by
  obtain ⟨t, e, ht, hi, hn⟩ := h
  have hlt : t < infMag := by
    rcases Nat.lt_or_eq_of_le ht with h | h
    · exact h
    · have h2 := hi.mp h
      have c : 2 * 2 ^ 1081 < (2 ^ 54 - 1) * 2 ^ 2045 := by decide +kernel
      have c2 := Nat.mul_lt_mul_of_pos_left c hD
      have c3 : D * (2 * 2 ^ 1081) = 2 * (D * 2 ^ 1081) := by ac_rfl
      (clear hi; lia)
  have h1 := (hn hlt t').1
  rw [← hV] at h1
  have e1 : W = D * V t := dist_zero (Nat.le_antisymm (Nat.le_trans h1 (Nat.le_of_eq (dist_self W))) (Nat.zero_le _))
  obtain ⟨m, f, h2, h3⟩ := Float64.decode_pack neg hlt
  have hv := Float64.val_pack neg hlt
  refine ⟨⟨_, _, _, by rw [e]; exact h2⟩, ?_⟩
  have hDR : (D : Rat) ≠ 0 := by have : (0 : Rat) < (D : Rat) := by exact_mod_cast hD
                                 grind
  rw [e, hv]
  have e2 : sgn neg W = (D : Int) * sgn neg (V t) := by
    rw [e1]
    unfold sgn
    cases neg <;> simp [Int.mul_neg]
  rw [e2, Rat.intCast_mul, Rat.intCast_natCast] at hq
  generalize ((sgn neg (V t) : Int) : Rat) = v at *
  grind

theorem par_ne {a : Nat} (h1 : a % 2 = 0) (h2 : a.succ % 2 = 0) : False := by lia
theorem dist_r {A x : Nat} (h : A ≤ x) : dist A x = x - A := by unfold dist; rw [Nat.sub_eq_zero_of_le h, Nat.zero_add]
theorem dist_l {A x : Nat} (h : x ≤ A) : dist A x = A - x := by unfold dist; rw [Nat.sub_eq_zero_of_le h, Nat.add_zero]
theorem no_mid {A x y z : Nat} (h1 : x < y) (h2 : y < z) (h3 : dist A x ≤ dist A y) (h4 : dist A z ≤ dist A y) : False := by
  rcases Nat.le_total y A with h | h
  · rw [dist_l h, dist_l (Nat.le_trans (Nat.le_of_lt h1) h)] at h3
    exact absurd (Nat.sub_lt_sub_left (Nat.lt_of_lt_of_le h1 h) h1) (Nat.not_lt.mpr h3)
  · rw [dist_r h, dist_r (Nat.le_trans h (Nat.le_of_lt h2))] at h4
    exact absurd (Nat.sub_lt_sub_right h h2) (Nat.not_lt.mpr h4)
theorem right_uniq {r1 r2 : UInt64} {neg : Bool} {W1 D1 W2 D2 : Nat} (h1 : Right r1 neg W1 D1) (h2 : Right r2 neg W2 D2) (p1 : 0 < D1) (p2 : 0 < D2) (hW : W1 * D2 = W2 * D1) : r1 = r2 := by
  obtain ⟨t1, e1, l1, i1, n1⟩ := h1
  obtain ⟨t2, e2, l2, i2, n2⟩ := h2
  suffices t1 = t2 by rw [e1, e2, this]
  have hinf : t1 = infMag ↔ t2 = infMag := by
    rw [i1, i2]
    generalize (2 ^ 54 - 1) * 2 ^ 2045 = c
    constructor
    · intro h
      refine Nat.le_of_mul_le_mul_left (c := D1) ?_ p1
      have := Nat.mul_le_mul_right D2 h
      calc D1 * (D2 * c) = D1 * c * D2 := by ac_rfl
        _ ≤ 2 * W1 * D2 := this
        _ = 2 * (W1 * D2) := by ac_rfl
        _ = 2 * (W2 * D1) := by rw [hW]
        _ = D1 * (2 * W2) := by ac_rfl
    · intro h
      refine Nat.le_of_mul_le_mul_left (c := D2) ?_ p2
      have := Nat.mul_le_mul_right D1 h
      calc D2 * (D1 * c) = D2 * c * D1 := by ac_rfl
        _ ≤ 2 * W2 * D1 := this
        _ = 2 * (W2 * D1) := by ac_rfl
        _ = 2 * (W1 * D2) := by rw [hW]
        _ = D2 * (2 * W1) := by ac_rfl
  by_cases hi : t1 = infMag
  · rw [hi, hinf.mp hi]
  have lt1 : t1 < infMag := by lia
  have lt2 : t2 < infMag := by
    have : t2 ≠ infMag := fun h => hi (hinf.mpr h)
    (clear hinf; lia)
  have m1 : ∀ t', dist (W1 * D2) (D1 * D2 * V t1) ≤ dist (W1 * D2) (D1 * D2 * V t') ∧ (V t' ≠ V t1 → dist (W1 * D2) (D1 * D2 * V t1) = dist (W1 * D2) (D1 * D2 * V t') → t1 % 2 = 0) := by
    intro t'
    have sc : ∀ v, dist (W1 * D2) (D1 * D2 * v) = D2 * dist W1 (D1 * v) := fun v => by
      rw [← Float64.dist_mul]; congr 1 <;> ac_rfl
    rw [sc, sc]
    have := n1 lt1 t'
    exact ⟨Nat.mul_le_mul_left _ this.1, fun a b => this.2 a (Nat.eq_of_mul_eq_mul_left p2 b)⟩
  have m2 : ∀ t', dist (W1 * D2) (D1 * D2 * V t2) ≤ dist (W1 * D2) (D1 * D2 * V t') ∧ (V t' ≠ V t2 → dist (W1 * D2) (D1 * D2 * V t2) = dist (W1 * D2) (D1 * D2 * V t') → t2 % 2 = 0) := by
    intro t'
    have sc : ∀ v, dist (W1 * D2) (D1 * D2 * v) = D1 * dist W2 (D2 * v) := fun v => by
      rw [hW, ← Float64.dist_mul]; congr 1 <;> ac_rfl
    rw [sc, sc]
    have := n2 lt2 t'
    exact ⟨Nat.mul_le_mul_left _ this.1, fun a b => this.2 a (Nat.eq_of_mul_eq_mul_left p1 b)⟩
  have hB : 0 < D1 * D2 := Nat.mul_pos p1 p2
  generalize W1 * D2 = A at *
  generalize D1 * D2 = B at *
  have key : ∀ a b : Nat, a < b → (∀ t', dist A (B * V a) ≤ dist A (B * V t') ∧ (V t' ≠ V a → dist A (B * V a) = dist A (B * V t') → a % 2 = 0)) → (∀ t', dist A (B * V b) ≤ dist A (B * V t') ∧ (V t' ≠ V b → dist A (B * V b) = dist A (B * V t') → b % 2 = 0)) → False := by
    intro a b hab ha hb
    rcases Nat.lt_or_eq_of_le hab with h | h
    · exact no_mid (Nat.mul_lt_mul_of_pos_left (Float64.V_succ a) hB) (Nat.mul_lt_mul_of_pos_left (Float64.V_lt h) hB) (ha (a + 1)).1 (hb (a + 1)).1
    · have v1 := Float64.V_lt hab
      have e := Nat.le_antisymm (ha b).1 (hb a).1
      have p1 := (ha b).2 (Nat.ne_of_gt v1) e
      have p2 := (hb a).2 (Nat.ne_of_lt v1) e.symm
      exact par_ne p1 (h ▸ p2)
  rcases Nat.lt_trichotomy t1 t2 with h | h | h
  · exact (key t1 t2 h m1 m2).elim
  · exact h
  · exact (key t2 t1 h m2 m1).elim

theorem K128 : K * 128 = 2 ^ 1081 := by unfold K; rw [show (128 : Nat) = 2 ^ 7 from rfl, ← Nat.pow_add]
theorem K_eq : K = 2 ^ 1074 := by unfold K; rfl
theorem sgn_mul2 (a b : Bool) (m k : Nat) : sgn (a != b) (m * k) = sgn a m * sgn b k := by
  unfold sgn
  cases a <;> cases b <;> simp [Int.mul_neg, Int.neg_mul]
theorem sgn_val {x : UInt64} {a : Bool} {m : Nat} {e : Int} (h : decode x = .fin a m e) : sgn a (val x).natAbs = val x := by
  rw [Float64.val_natAbs h, Float64.val_eq h]
theorem fq_zero (b : Bool) : Fq (Float64.zero b) 0 := by
  have h : (0 : Nat) < infMag := by unfold infMag; simp
  obtain ⟨m, e, h1, h2⟩ := Float64.decode_pack b h
  refine ⟨⟨_, _, _, h1⟩, ?_⟩
  show ((val (pack b 0) : Int) : Rat) = _
  rw [Float64.val_pack b h, Float64.V_zero]
  unfold sgn; cases b <;> simp <;> grind

theorem absR {i : Int} {z : Rat} {n : Nat} (h : (i : Rat) = z) (h1 : -(n : Rat) ≤ z) (h2 : z ≤ (n : Rat)) : i.natAbs ≤ n := by
  rw [← h] at h1 h2
  have j1 : -(n : Int) ≤ i := Rat.intCast_le_intCast.mp (by push_cast; exact h1)
  have j2 : i ≤ (n : Int) := Rat.intCast_le_intCast.mp (by push_cast; exact h2)
  omega

theorem Fq.add {x y : UInt64} {p q : Rat} (hx : Fq x p) (hy : Fq y q) (h1 : -100 ≤ p + q) (h2 : p + q ≤ 100) : Ap (Float64.add x y) (p + q) eps := by
  obtain ⟨⟨a, m, e, dx⟩, vx⟩ := hx
  obtain ⟨⟨b, k, f, dy⟩, vy⟩ := hy
  have hk := KpR
  obtain ⟨z0, z1⟩ := Float64.add_right dx dy
  have hs : ((val x + val y : Int) : Rat) = (p + q) * (K : Rat) := by rw [Rat.intCast_add, vx, vy]; grind
  by_cases h0 : val x + val y = 0
  · rw [z0 h0]
    rw [h0] at hs
    have hz : p + q = 0 := by
      have : (K : Rat) ≠ 0 := by decide
      simp at hs
      (clear vy vx; grind)
    have := eps_pos
    exact ⟨0, fq_zero _, by (clear hs; grind), by (clear hs; grind)⟩
  · refine right_fq (z1 h0) (by decide) ?_ ?_
    · rw [Nat.one_mul, ← K128]
      refine absR hs ?_ ?_
      · push_cast
        have := Rat.mul_le_mul_of_nonneg_right h1 (Rat.le_of_lt hk)
        grind
      · push_cast
        have := Rat.mul_le_mul_of_nonneg_right h2 (Rat.le_of_lt hk)
        grind
    · have e1 : sgn (decide (val x + val y < 0)) (val x + val y).natAbs = val x + val y := by
        unfold sgn
        by_cases h : val x + val y < 0
        · simp only [h, decide_true, if_true]; grind
        · simp only [h, decide_false, Bool.false_eq_true, if_false]; grind
      rw [e1, hs]; simp
theorem neg_fq {y : UInt64} {q : Rat} (h : Fq y q) : Fq (Float64.neg y) (-q) := by
  obtain ⟨⟨b, k, f, dy⟩, vy⟩ := h
  refine ⟨⟨_, _, _, Float64.neg_decode dy⟩, ?_⟩
  rw [Float64.neg_val dy, Rat.intCast_neg, vy]; grind
theorem Fq.sub {x y : UInt64} {p q : Rat} (hx : Fq x p) (hy : Fq y q) (h1 : -100 ≤ p - q) (h2 : p - q ≤ 100) : Ap (Float64.sub x y) (p - q) eps := by
  have := Fq.add hx (neg_fq hy) (by grind) (by grind)
  rw [show p - q = p + -q by grind]
  unfold Float64.sub
  exact this
theorem Fq.mul {x y : UInt64} {p q : Rat} (hx : Fq x p) (hy : Fq y q) (h1 : -100 ≤ p * q) (h2 : p * q ≤ 100) : Ap (Float64.mul x y) (p * q) eps := by
  obtain ⟨⟨a, m, e, dx⟩, vx⟩ := hx
  obtain ⟨⟨b, k, f, dy⟩, vy⟩ := hy
  have hk := KpR
  have hkk := Rat.mul_pos hk hk
  have hs : ((val x * val y : Int) : Rat) = p * q * ((K : Rat) * (K : Rat)) := by rw [Rat.intCast_mul, vx, vy]; grind
  have hr := Float64.mul_right dx dy
  rw [← K_eq] at hr
  refine right_fq hr K_pos ?_ ?_
  · rw [← Int.natAbs_mul, ← K128]
    refine absR hs ?_ ?_
    · push_cast
      have := Rat.mul_le_mul_of_nonneg_right h1 (Rat.le_of_lt hkk)
      (clear hs; grind)
    · push_cast
      have := Rat.mul_le_mul_of_nonneg_right h2 (Rat.le_of_lt hkk)
      (clear hs; grind)
  · rw [sgn_mul2, sgn_val dx, sgn_val dy, hs]; grind
theorem Fq.div {x y : UInt64} {p q : Rat} (hx : Fq x p) (hy : Fq y q) (hq : 0 < q) (h1 : -100 * q ≤ p) (h2 : p ≤ 100 * q) : Ap (Float64.div x y) (p / q) eps := by
  obtain ⟨⟨a, m, e, dx⟩, vx⟩ := hx
  obtain ⟨⟨b, k, f, dy⟩, vy⟩ := hy
  have hk := KpR
  have hkk := Rat.mul_pos hk hk
  have hvp : 0 < val y := by
    have : (0 : Rat) < ((val y : Int) : Rat) := by rw [vy]; exact Rat.mul_pos hq hk
    exact_mod_cast this
  have hb : b = false := by
    cases b with
    | false => rfl
    | true =>
      rw [Float64.val_eq dy] at hvp
      unfold sgn at hvp
      simp only [if_true] at hvp
      omega
  have hk0 : k ≠ 0 := by
    rintro rfl
    rw [Float64.val_eq dy] at hvp
    unfold sgn at hvp
    simp at hvp
  have hr := Float64.div_right dx dy hk0
  rw [← K_eq] at hr
  have hD : 0 < (val y).natAbs := by grind
  have hcast : (((val y).natAbs : Nat) : Rat) = q * (K : Rat) := by
    rw [← vy]
    have : (((val y).natAbs : Nat) : Int) = val y := by lia
    rw [← Rat.intCast_natCast, this]
  have hs : ((val x * (K : Int) : Int) : Rat) = p * ((K : Rat) * (K : Rat)) := by rw [Rat.intCast_mul, vx, Rat.intCast_natCast]; grind
  have hc2 : (((val y).natAbs * (K * 128) : Nat) : Rat) = q * ((K : Rat) * (K : Rat)) * 128 := by
    push_cast
    rw [hcast]; grind
  refine right_fq hr hD ?_ ?_
  · rw [← K128]
    have e1 : (val x).natAbs * K = (val x * (K : Int)).natAbs := by rw [Int.natAbs_mul]; rfl
    rw [e1]
    refine absR hs ?_ ?_
    · rw [hc2]
      have a1 := Rat.mul_le_mul_of_nonneg_right h1 (Rat.le_of_lt hkk)
      have a2 : (0 : Rat) ≤ q * ((K : Rat) * (K : Rat)) := Rat.le_of_lt (Rat.mul_pos hq hkk)
      (clear hs; grind)
    · rw [hc2]
      have a1 := Rat.mul_le_mul_of_nonneg_right h2 (Rat.le_of_lt hkk)
      have a2 : (0 : Rat) ≤ q * ((K : Rat) * (K : Rat)) := Rat.le_of_lt (Rat.mul_pos hq hkk)
      (clear hs; grind)
  · rw [hb]
    have e1 : sgn (a != false) ((val x).natAbs * K) = val x * (K : Int) := by
      rw [show (a != false) = a by cases a <;> rfl, Float64.sgn_mul, sgn_val dx]
    rw [e1, hs, hcast]
    have : q ≠ 0 := by grind
    (clear vx; grind)
theorem cmpI_lt (a b : Int) : (some (compare a b) == some Ordering.lt) = decide (a < b) := by
  rcases Int.lt_trichotomy a b with h | h | h
  · rw [Int.compare_eq_lt.mpr h, decide_eq_true h]; rfl
  · subst h; simp
  · rw [Int.compare_eq_gt.mpr h, decide_eq_false (by lia)]; rfl
theorem cmpI_eq (a b : Int) : (some (compare a b) == some Ordering.eq) = decide (a = b) := by
  rcases Int.lt_trichotomy a b with h | h | h
  · rw [Int.compare_eq_lt.mpr h, decide_eq_false (by lia)]; rfl
  · subst h; simp
  · rw [Int.compare_eq_gt.mpr h, decide_eq_false (by lia)]; rfl
theorem cmpI_gt (a b : Int) : (some (compare a b) == some Ordering.gt) = decide (b < a) := by
  rcases Int.lt_trichotomy a b with h | h | h
  · rw [Int.compare_eq_lt.mpr h, decide_eq_false (by lia)]; rfl
  · subst h; simp
  · rw [Int.compare_eq_gt.mpr h, decide_eq_true h]; rfl
theorem cmp_lt {x y : UInt64} {p q : Rat} (hx : Fq x p) (hy : Fq y q) : (Float64.cmp x y == some .lt) = decide (p < q) := by
  obtain ⟨⟨a, m, e, dx⟩, vx⟩ := hx
  obtain ⟨⟨b, k, f, dy⟩, vy⟩ := hy
  rw [Float64.cmp_right dx dy]
  have hk := KpR
  have e1 : (p < q) ↔ val x < val y := by
    rw [← Rat.intCast_lt_intCast, vx, vy]
    constructor
    · exact fun h => Rat.mul_lt_mul_of_pos_right h hk
    · exact fun h => Rat.lt_of_mul_lt_mul_right h (Rat.le_of_lt hk)
  rw [cmpI_lt]
  exact decide_eq_decide.mpr e1.symm
theorem cmp_eq {x y : UInt64} {p q : Rat} (hx : Fq x p) (hy : Fq y q) : (Float64.cmp x y == some .eq) = decide (p = q) := by
  obtain ⟨⟨a, m, e, dx⟩, vx⟩ := hx
  obtain ⟨⟨b, k, f, dy⟩, vy⟩ := hy
  rw [Float64.cmp_right dx dy]
  have hk : (K : Rat) ≠ 0 := by have := KpR; decide
  have e1 : (p = q) ↔ val x = val y := by
    rw [← Rat.intCast_inj, vx, vy]
    constructor
    · intro h; rw [h]
    · intro h; (clear vy vx; grind)
  rw [cmpI_eq]
  exact decide_eq_decide.mpr e1.symm
theorem cmp_gt {x y : UInt64} {p q : Rat} (hx : Fq x p) (hy : Fq y q) : (Float64.cmp x y == some .gt) = decide (q < p) := by
  obtain ⟨⟨a, m, e, dx⟩, vx⟩ := hx
  obtain ⟨⟨b, k, f, dy⟩, vy⟩ := hy
  rw [Float64.cmp_right dx dy]
  have hk := KpR
  have e1 : (q < p) ↔ val y < val x := by
    rw [← Rat.intCast_lt_intCast, vx, vy]
    constructor
    · exact fun h => Rat.mul_lt_mul_of_pos_right h hk
    · exact fun h => Rat.lt_of_mul_lt_mul_right h (Rat.le_of_lt hk)
  rw [cmpI_gt]
  exact decide_eq_decide.mpr e1.symm
end Mine
end

section
open PySem PySem.W
set_option maxRecDepth 100000
namespace Mine
open Float64 (decode val V dist Right infMag pack sgn)

theorem nat_of_rat {a b : Nat} (h : (a : Rat) ≤ (b : Rat)) : a ≤ b := by exact_mod_cast h
theorem trunc_fq {x : UInt64} {z : Rat} (h : Fq x z) {n : Nat} (h1 : (n : Rat) ≤ z) (h2 : z < (n : Rat) + 1) : truncF x = n ∧ fin? x = true := by
  obtain ⟨⟨a, m, e, dx⟩, vx⟩ := h
  have hk := KpR
  refine ⟨?_, by unfold fin?; rw [dx]⟩
  unfold truncF
  rw [dx]
  show Float64.truncOf a m e = n
  have hv := Float64.val_eq dx
  have he := Float64.decode_ge dx
  have hn0 : (0 : Rat) ≤ (n : Rat) := by exact_mod_cast Nat.zero_le n
  cases a with
  | true =>
    have hz : val x = -((m * 2 ^ (e + 1074).toNat : Nat) : Int) := by rw [hv]; rfl
    have hge : 0 ≤ val x := by
      have : (0 : Rat) ≤ ((val x : Int) : Rat) := by rw [vx]; exact Rat.mul_nonneg (by grind) (Rat.le_of_lt hk)
      exact_mod_cast this
    have hm0 : m * 2 ^ (e + 1074).toNat = 0 := by lia
    have hm : m = 0 := by
      rcases Nat.mul_eq_zero.mp hm0 with h | h
      · exact h
      · exact absurd h (Nat.pos_iff_ne_zero.mp (Nat.two_pow_pos _))
    have hz0 : val x = 0 := by (clear dx hv hm0; (subst_vars; lia))
    rw [hz0] at vx
    have hzz : z = 0 := by
      have : (K : Rat) ≠ 0 := by decide
      simp at vx
      grind
    have hnn : n = 0 := by
      rw [hzz] at h1
      have : n ≤ 0 := by exact_mod_cast h1
      lia
    subst hm; subst hnn
    show -Float64.floorOf false 0 e = 0
    unfold Float64.floorOf
    split <;> simp [sgn]
  | false =>
    have hz : val x = ((m * 2 ^ (e + 1074).toNat : Nat) : Int) := by rw [hv]; rfl
    have n1 : n * K ≤ m * 2 ^ (e + 1074).toNat := by
      apply nat_of_rat
      have := Rat.mul_le_mul_of_nonneg_right h1 (Rat.le_of_lt hk)
      rw [← vx, hz, Rat.intCast_natCast] at this
      rw [Rat.natCast_mul]; exact this
    have n2 : m * 2 ^ (e + 1074).toNat < (n + 1) * K := by
      have := Rat.mul_lt_mul_of_pos_right h2 hk
      rw [← vx, hz, Rat.intCast_natCast] at this
      have t2 : ((m * 2 ^ (e + 1074).toNat : Nat) : Rat) < (((n + 1) * K : Nat) : Rat) := by
        rw [Rat.natCast_mul (n + 1) K, Rat.natCast_add]; exact this
      exact_mod_cast t2
    show Float64.floorOf false m e = n
    unfold Float64.floorOf
    split
    · rename_i h0
      have e1 : (e + 1074).toNat = e.toNat + 1074 := by lia
      rw [e1, Nat.pow_add, ← Nat.mul_assoc, ← K_eq] at n1 n2
      have a1 := Nat.le_of_mul_le_mul_right n1 K_pos
      have a2 := Nat.lt_of_mul_lt_mul_right n2
      have a3 : m * 2 ^ e.toNat = n := by lia
      show ((m : Int)) * 2 ^ e.toNat = n
      rw [← a3]; simp
    · rename_i h0
      have e0 : (-e).toNat + (e + 1074).toNat = 1074 := by lia
      have e1 : K = 2 ^ (-e).toNat * 2 ^ (e + 1074).toNat := by rw [K_eq, ← Nat.pow_add, e0]
      rw [e1, ← Nat.mul_assoc] at n1 n2
      have a1 := Nat.le_of_mul_le_mul_right n1 (Nat.two_pow_pos _)
      have a2 := Nat.lt_of_mul_lt_mul_right n2
      show ((m : Int)).fdiv (2 ^ (-e).toNat) = n
      have e2 : (2 : Int) ^ (-e).toNat = ((2 ^ (-e).toNat : Nat) : Int) := by simp
      rw [e2, Int.fdiv_eq_ediv_of_nonneg _ (Int.natCast_nonneg _), ← Int.natCast_ediv]
      congr 1
      exact Nat.div_eq_of_lt_le a1 a2
theorem isInf_fq {x : UInt64} {z : Rat} (h : Fq x z) : ¬ Float64.isInf x = true := by
  obtain ⟨⟨a, m, e, dx⟩, vx⟩ := h
  unfold Float64.isInf; rw [dx]; simp
theorem isZero_fq {x : UInt64} {z : Rat} (h : Fq x z) : Float64.isZero x = decide (z = 0) := by
  obtain ⟨⟨a, m, e, dx⟩, vx⟩ := h
  have hk : (K : Rat) ≠ 0 := by have := KpR; decide
  have hv := Float64.val_natAbs dx
  unfold Float64.isZero; rw [dx]
  by_cases hz : z = 0
  · subst hz
    have : val x = 0 := by
      have : ((val x : Int) : Rat) = 0 := by rw [vx]; simp
      exact_mod_cast this
    rw [this] at hv
    have hm : m = 0 := by
      rcases Nat.mul_eq_zero.mp hv.symm with h | h
      · exact h
      · exact absurd h (Nat.pos_iff_ne_zero.mp (Nat.two_pow_pos _))
    subst hm; simp
  · have hm : m ≠ 0 := by
      rintro rfl
      have : val x = 0 := by lia
      rw [this] at vx
      simp at vx
      grind
    rw [decide_eq_false hz]
    cases m with
    | zero => exact absurd rfl hm
    | succ m => rfl
theorem fin_ex {x : UInt64} (h : fin? x = true) : ∃ a m e, decode x = .fin a m e := by
  obtain ⟨a, m, e, h1, _⟩ := fin_dec h
  exact ⟨a, m, e, h1⟩
theorem fq_const {x : UInt64} {n : Nat} (h : fin? x = true) (hv : val x = (n : Int) * (K : Int)) : Fq x n := ⟨fin_ex h, by rw [hv, Rat.intCast_mul, Rat.intCast_natCast, Rat.intCast_natCast]⟩
theorem fq_F0 : Fq F0 0 := by
  have : F0 = Float64.zero false := by decide +kernel
  rw [this]; exact fq_zero _
theorem fq_F1 : Fq F1 1 := fq_const (n := 1) (by decide +kernel) (by rw [K_eq]; decide +kernel)
theorem fq_F2 : Fq F2 2 := fq_const (n := 2) (by decide +kernel) (by rw [K_eq]; decide +kernel)
theorem fq_F4 : Fq F4 4 := fq_const (n := 4) (by decide +kernel) (by rw [K_eq]; decide +kernel)
theorem fq_F6 : Fq F6 6 := fq_const (n := 6) (by decide +kernel) (by rw [K_eq]; decide +kernel)
theorem fq_half : Fq Fhalf (1 / 2) := by
  refine ⟨fin_ex (by decide +kernel), ?_⟩
  have : val Fhalf * 2 = (K : Int) := by rw [K_eq]; decide +kernel
  have h2 : ((val Fhalf : Int) : Rat) * 2 = (K : Rat) := by
    have := congrArg (fun i : Int => (i : Rat)) this
    simp only [Rat.intCast_mul, Rat.intCast_natCast] at this
    exact this
  grind

theorem dec_F1 : decode F1 = .fin false (2 ^ 52) (-52) := by
  have h : F1.toNat = 4607182418800017408 := by decide +kernel
  unfold decode
  rw [h]
  simp
/-- the remainder by one -/
theorem divmod_snd (x y : UInt64) : (Float64.divmod x y).snd = (if Float64.isZero (Float64.fmod x y) = true then Float64.copysign (Float64.zero false) y else if (Float64.lt y (Float64.zero false) != Float64.lt (Float64.fmod x y) (Float64.zero false)) = true then Float64.add (Float64.fmod x y) y else Float64.fmod x y) := by
  unfold Float64.divmod
  simp only
  split
  · rfl
  · split <;> rfl
theorem fmod_one {x : UInt64} {z : Rat} (h : Fq x z) (h1 : -1 < z) (h2 : z < 1) : Fq (Float64.fmod x F1) z := by
  obtain ⟨⟨a, m, e, dx⟩, vx⟩ := h
  have hk := KpR
  have d1 : decode F1 = .fin false (2 ^ 52) (-52) := dec_F1
  have he := Float64.decode_ge dx
  have hm := (Float64.decode_le dx).1
  have hv := Float64.val_natAbs dx
  have hlt : (val x).natAbs < K := by
    have b1 : ((val x : Int) : Rat) < ((K : Int) : Rat) := by
      rw [vx, Rat.intCast_natCast]
      have := Rat.mul_lt_mul_of_pos_right h2 hk
      grind
    have b2 : ((-(K : Int) : Int) : Rat) < ((val x : Int) : Rat) := by
      rw [vx, Rat.intCast_neg, Rat.intCast_natCast]
      have := Rat.mul_lt_mul_of_pos_right h1 hk
      grind
    have c1 := Rat.intCast_lt_intCast.mp b1
    have c2 := Rat.intCast_lt_intCast.mp b2
    (clear hv; omega)
  have hfm : Float64.fmod x F1 = Float64.ofBin a ((sgn false (m * 2 ^ (e - min e (-52)).toNat)).toNat % (sgn false (2 ^ 52 * 2 ^ (-52 - min e (-52)).toNat)).toNat) (min e (-52)) := by
    unfold Float64.fmod
    rw [dx, d1]
    rfl
  generalize hg : min e (-52) = g at *
  have hge : -1074 ≤ g := by lia
  have t1 : ∀ n : Nat, (sgn false n).toNat = n := fun n => by simp [sgn]
  rw [t1, t1] at hfm
  have eP : m * 2 ^ (e - g).toNat * 2 ^ (g + 1074).toNat = (val x).natAbs := by
    rw [hv, Nat.mul_assoc, ← Nat.pow_add]
    congr 2; (clear hge; lia)
  have eQ : 2 ^ 52 * 2 ^ (-52 - g).toNat * 2 ^ (g + 1074).toNat = K := by
    rw [K_eq, ← Nat.pow_add, ← Nat.pow_add]
    congr 1; lia
  have hPQ : m * 2 ^ (e - g).toNat < 2 ^ 52 * 2 ^ (-52 - g).toNat := by
    refine Nat.lt_of_mul_lt_mul_right (a := 2 ^ (g + 1074).toNat) ?_
    rw [eP, eQ]; exact hlt
  rw [Nat.mod_eq_of_lt hPQ] at hfm
  have hr := Float64.ofBin_right (neg := a) (M := m * 2 ^ (e - g).toNat) hge
  rw [eP, ← hfm] at hr
  obtain ⟨t, ht⟩ := gridA m (e + 1074).toNat (Nat.le_of_lt hm)
  refine right_exact hr (by decide) ?_ (t' := t) (by rw [ht, hv, Nat.one_mul]) ?_
  · rw [← K128]; (clear eQ; lia)
  · rw [sgn_val dx, vx]; simp
theorem mod1p {x : UInt64} {z : Rat} (h : Fq x z) (h1 : 0 ≤ z) (h2 : z < 1) : Fq (Float64.divmod x F1).snd z := by
  have hf := fmod_one h (by grind) h2
  rw [divmod_snd, isZero_fq hf]
  by_cases hz : z = 0
  · rw [decide_eq_true hz, if_pos rfl, hz]
    have : Float64.copysign (Float64.zero false) F1 = F0 := by decide +kernel
    rw [this]; exact fq_F0
  · rw [decide_eq_false hz, if_neg Bool.false_ne_true]
    have l1 : Float64.lt F1 (Float64.zero false) = false := by decide +kernel
    have l2 : Float64.lt (Float64.fmod x F1) (Float64.zero false) = false := by
      have := cmp_lt hf (fq_zero false)
      unfold Float64.lt
      rw [this]; exact decide_eq_false (by grind)
    rw [l1, l2]
    exact hf
theorem mod1n {x : UInt64} {z : Rat} (h : Fq x z) (h1 : -1 < z) (h2 : z < 0) : Ap (Float64.divmod x F1).snd (z + 1) eps := by
  have hf := fmod_one h h1 (by grind)
  rw [divmod_snd, isZero_fq hf, decide_eq_false (by grind), if_neg Bool.false_ne_true]
  have l1 : Float64.lt F1 (Float64.zero false) = false := by decide +kernel
  have l2 : Float64.lt (Float64.fmod x F1) (Float64.zero false) = true := by
    have := cmp_lt hf (fq_zero false)
    unfold Float64.lt
    rw [this]; exact decide_eq_true h2
  rw [l1, l2]
  exact Fq.add hf fq_F1 (by grind) (by grind)

-- APPROXIMATION
theorem Fq.ap {x : UInt64} {q : Rat} (h : Fq x q) : Ap x q 0 := ⟨q, h, by grind, by grind⟩
theorem Ap.weaken {x : UInt64} {q a b : Rat} (h : Ap x q a) (hab : a ≤ b) : Ap x q b := let ⟨z, h1, h2, h3⟩ := h; ⟨z, h1, by grind, by grind⟩
theorem Ap.add {x y : UInt64} {p q a b : Rat} (hx : Ap x p a) (hy : Ap y q b) (h1 : -90 ≤ p + q) (h2 : p + q ≤ 90) (h3 : a + b ≤ 1) : Ap (Float64.add x y) (p + q) (a + b + eps) := by
  obtain ⟨z, z1, z2, z3⟩ := hx
  obtain ⟨w, w1, w2, w3⟩ := hy
  obtain ⟨u, u1, u2, u3⟩ := z1.add w1 (by grind) (by grind)
  exact ⟨u, u1, by grind, by grind⟩
theorem Ap.sub {x y : UInt64} {p q a b : Rat} (hx : Ap x p a) (hy : Ap y q b) (h1 : -90 ≤ p - q) (h2 : p - q ≤ 90) (h3 : a + b ≤ 1) : Ap (Float64.sub x y) (p - q) (a + b + eps) := by
  obtain ⟨z, z1, z2, z3⟩ := hx
  obtain ⟨w, w1, w2, w3⟩ := hy
  obtain ⟨u, u1, u2, u3⟩ := z1.sub w1 (by grind) (by grind)
  exact ⟨u, u1, by grind, by grind⟩
theorem Ap.div6 {x : UInt64} {p a : Rat} (hx : Ap x p a) (h1 : -90 ≤ p) (h2 : p ≤ 90) (h3 : a ≤ 1) : Ap (Float64.div x F6) (p / 6) (a / 6 + eps) := by
  obtain ⟨z, z1, z2, z3⟩ := hx
  obtain ⟨u, u1, u2, u3⟩ := z1.div fq_F6 (by rfl) (by grind) (by grind)
  exact ⟨u, u1, by grind, by grind⟩
theorem mul_err {z w p q a b M N : Rat} (z2 : p - a ≤ z) (z3 : z ≤ p + a) (w2 : q - b ≤ w) (w3 : w ≤ q + b) (p0 : 0 ≤ p) (pM : p ≤ M) (q0 : 0 ≤ q) (qN : q ≤ N) : p * q - (a * N + M * b + a * b) ≤ z * w ∧ z * w ≤ p * q + (a * N + M * b + a * b) := by
  have a0 : 0 ≤ a := by grind
  have b0 : 0 ≤ b := by grind
  -- z = p + d, w = q + f
  generalize hd : z - p = d
  generalize hf : w - q = f
  obtain rfl : z = p + d := by grind
  obtain rfl : w = q + f := by grind
  have e : (p + d) * (q + f) = p * q + (d * q + p * f + d * f) := by grind
  rw [e]
  have d1 : -a ≤ d := by grind
  have d2 : d ≤ a := by grind
  have f1 : -b ≤ f := by grind
  have f2 : f ≤ b := by grind
  have m1 := Rat.mul_le_mul_of_nonneg_right d2 q0
  have m2 := Rat.mul_le_mul_of_nonneg_right d1 q0
  have m3 := Rat.mul_le_mul_of_nonneg_left qN a0
  have m4 := Rat.mul_le_mul_of_nonneg_left f2 p0
  have m5 := Rat.mul_le_mul_of_nonneg_left f1 p0
  have m6 := Rat.mul_le_mul_of_nonneg_right pM b0
  have n1 : 0 ≤ (a - d) * (b + f) := Rat.mul_nonneg (by (clear z3; grind)) (by (clear w2; grind))
  have n2 : 0 ≤ (a + d) * (b - f) := Rat.mul_nonneg (by grind) (by grind)
  have n3 : 0 ≤ (a - d) * (b - f) := Rat.mul_nonneg (by grind) (by grind)
  have n4 : 0 ≤ (a + d) * (b + f) := Rat.mul_nonneg (by grind) (by grind)
  constructor <;> grind
theorem Ap.mul {x y : UInt64} {p q a b : Rat} (M N : Rat) (hx : Ap x p a) (hy : Ap y q b) (p0 : 0 ≤ p) (pM : p ≤ M) (q0 : 0 ≤ q) (qN : q ≤ N) (hMN : M * N + (a * N + M * b + a * b) ≤ 90) : Ap (Float64.mul x y) (p * q) (a * N + M * b + a * b + eps) := by
  obtain ⟨z, z1, z2, z3⟩ := hx
  obtain ⟨w, w1, w2, w3⟩ := hy
  have h := mul_err z2 z3 w2 w3 p0 pM q0 qN
  have hpq : p * q ≤ M * N := Rat.le_trans (Rat.mul_le_mul_of_nonneg_right pM q0) (Rat.mul_le_mul_of_nonneg_left qN (by grind))
  have hpq0 := Rat.mul_nonneg p0 q0
  have hMN0 : 0 ≤ M * N := Rat.mul_nonneg (by grind) (by grind)
  obtain ⟨u, u1, u2, u3⟩ := z1.mul w1 (by grind) (by grind)
  exact ⟨u, u1, by grind, by grind⟩
theorem Ap.mod1p {x : UInt64} {p a : Rat} (hx : Ap x p a) (h1 : a ≤ p) (h2 : p + a < 1) : Ap (Float64.divmod x F1).snd p a := by
  obtain ⟨z, z1, z2, z3⟩ := hx
  exact ⟨z, Mine.mod1p z1 (by grind) (by grind), z2, z3⟩
theorem Ap.mod1n {x : UInt64} {p a : Rat} (hx : Ap x p a) (h1 : p + a < 0) (h2 : -1 < p - a) : Ap (Float64.divmod x F1).snd (p + 1) (a + eps) := by
  obtain ⟨z, z1, z2, z3⟩ := hx
  obtain ⟨u, u1, u2, u3⟩ := Mine.mod1n z1 (by grind) (by grind)
  exact ⟨u, u1, by grind, by grind⟩
end Mine
end

section
open PySem PySem.W
set_option maxRecDepth 100000
namespace Mine
open Float64 (decode val V dist Right infMag pack sgn)

/-- a ratio as a float -/
noncomputable def Rf (a s : Nat) : UInt64 := Float64.ofFrac false a s
theorem Rf_right (a : Nat) {s : Nat} (hs : 0 < s) : Right (Rf a s) false (a * K) s := Float64.ofFrac_right hs (by rw [K_eq]) hs
theorem Rf_ap {a s : Nat} (hs : 0 < s) (h : a ≤ 100 * s) : Ap (Rf a s) ((a : Rat) / (s : Rat)) eps := by
  refine right_fq (Rf_right a hs) hs ?_ ?_
  · rw [← K128]
    have := Nat.mul_le_mul_right K h
    calc a * K ≤ 100 * s * K := this
      _ ≤ 128 * s * K := Nat.mul_le_mul_right _ (by lia)
      _ = s * (K * 128) := by ac_rfl
  · have hsR : (s : Rat) ≠ 0 := by have : (0 : Rat) < (s : Rat) := by exact_mod_cast hs
                                   grind
    have : ((sgn false (a * K) : Int) : Rat) = (a : Rat) * (K : Rat) := by
      show (((a * K : Nat) : Int) : Rat) = _
      rw [Rat.intCast_natCast, Rat.natCast_mul]
    rw [this]; grind
theorem Rf_eq {a s a' s' : Nat} (hs : 0 < s) (hs' : 0 < s') (h : a * s' = a' * s) : Rf a s = Rf a' s' :=
  right_uniq (Rf_right a hs) (Rf_right a' hs') hs hs' (by
    calc a * K * s' = a * s' * K := by ac_rfl
      _ = a' * s * K := by rw [h]
      _ = a' * K * s := by ac_rfl)
theorem right_dec {r : UInt64} {neg : Bool} {W D : Nat} (h : Right r neg W D) (hD : 0 < D) (hW : W ≤ D * 2 ^ 1081) : ∃ m e, decode r = .fin neg m e := by
  obtain ⟨t, e, ht, _⟩ := right_near h hD hW
  obtain ⟨m, f, h1, h2⟩ := Float64.decode_pack neg ht
  exact ⟨m, f, by rw [e]; exact h1⟩
theorem Rf_dec {a s : Nat} (hs : 0 < s) (h : a ≤ 100 * s) : ∃ m e, decode (Rf a s) = .fin false m e := by
  refine right_dec (Rf_right a hs) hs ?_
  rw [← K128]
  have := Nat.mul_le_mul_right K h
  calc a * K ≤ 100 * s * K := this
    _ ≤ 128 * s * K := Nat.mul_le_mul_right _ (by omega)
    _ = s * (K * 128) := by ac_rfl
theorem K64 : K = 64 * 2 ^ 1068 := by rw [K_eq, show (64 : Nat) = 2 ^ 6 from rfl, ← Nat.pow_add]
/-- a column as a float -/
theorem col_fq {c : Nat} (h : c ≤ 100) : Fq (Rf c 64) ((c : Rat) / 64) := by
  have hr : Right (Rf c 64) false (c * 2 ^ 1068) 1 := Float64.ofFrac_right (by decide) (by
    have := K64
    rw [K_eq] at this
    rw [this, Nat.mul_one, Nat.mul_assoc c, Nat.mul_comm 64]) (by decide)
  obtain ⟨t, ht⟩ := gridA c 1068 (by lia)
  refine right_exact hr (by decide) ?_ (t' := t) (by rw [ht, Nat.one_mul]) ?_
  · rw [← K128, K64]
    have := Nat.mul_le_mul_right (2 ^ 1068) h
    lia
  · have e1 : (K : Rat) = 64 * ((2 ^ 1068 : Nat) : Rat) := by rw [K64]; push_cast; rfl
    have : ((sgn false (c * 2 ^ 1068) : Int) : Rat) = (c : Rat) * ((2 ^ 1068 : Nat) : Rat) := by
      show (((c * 2 ^ 1068 : Nat) : Int) : Rat) = _
      rw [Rat.intCast_natCast, Rat.natCast_mul]
    rw [this, e1]
    grind
theorem col_val {c : Nat} (h : c ≤ 100) : val (Rf c 64) * 64 = (c : Int) * (K : Int) := by
  have h1 := (col_fq h).2
  have : ((val (Rf c 64) * 64 : Int) : Rat) = (((c : Int) * (K : Int) : Int) : Rat) := by
    rw [Rat.intCast_mul, Rat.intCast_mul, h1, Rat.intCast_natCast, Rat.intCast_natCast]
    have : ((64 : Int) : Rat) = 64 := rfl
    rw [this]; grind
  exact_mod_cast this
theorem sub_col {a b : Nat} (h : b ≤ a) (ha : a ≤ 100) : Float64.sub (Rf a 64) (Rf b 64) = Rf (a - b) 64 := by
  obtain ⟨m, e, dx⟩ := Rf_dec (a := a) (s := 64) (by decide) (by lia)
  obtain ⟨k, f, dy⟩ := Rf_dec (a := b) (s := 64) (by decide) (by lia)
  obtain ⟨z0, z1⟩ := Float64.sub_right dx dy
  have va := col_val ha
  have vb := col_val (Nat.le_trans h ha)
  have hK := K_pos
  have e1 : (val (Rf a 64) - val (Rf b 64)) * 64 = (((a - b : Nat) : Int)) * (K : Int) := by
    rw [Int.sub_mul, va, vb, Int.natCast_sub h, Int.sub_mul]
  by_cases h0 : val (Rf a 64) - val (Rf b 64) = 0
  · rw [z0 h0]
    rw [h0, Int.zero_mul] at e1
    have : a - b = 0 := by
      rcases Int.mul_eq_zero.mp e1.symm with h | h
      · lia
      · contradiction
    rw [this]
    decide +kernel
  · have hr := z1 h0
    have hpos : 0 ≤ (((a - b : Nat) : Int)) * (K : Int) := Int.mul_nonneg (by simp) (by simp)
    have hd : decide (val (Rf a 64) - val (Rf b 64) < 0) = false := decide_eq_false (by (clear h0; lia))
    rw [hd] at hr
    refine right_uniq hr (Rf_right (a - b) (by decide)) (by decide) (by decide) ?_
    have e2 : (((a - b) * K : Nat) : Int) = (((a - b : Nat) : Int)) * (K : Int) := Int.natCast_mul _ _
    grind
theorem div_col {a s : Nat} (hs : 0 < s) (ha : a ≤ 100) (hs1 : s ≤ 100) : Float64.div (Rf a 64) (Rf s 64) = Rf a s := by
  obtain ⟨m, e, dx⟩ := Rf_dec (a := a) (s := 64) (by decide) (by omega)
  obtain ⟨k, f, dy⟩ := Rf_dec (a := s) (s := 64) (by decide) (by lia)
  have va := col_val ha
  have vb := col_val hs1
  have hK := K_pos
  have hp : 0 < (s : Int) * (K : Int) := Int.mul_pos (by simp [*]) (by decide)
  have hp0 : 0 ≤ (a : Int) * (K : Int) := Int.mul_nonneg (by simp) (by omega)
  have hk0 : k ≠ 0 := by
    rintro rfl
    have : val (Rf s 64) = 0 := by rw [Float64.val_eq dy]; simp [sgn]
    lia
  have hr := Float64.div_right dx dy hk0
  rw [← K_eq] at hr
  refine right_uniq hr (Rf_right a hs) (by omega) hs ?_
  have n1 : (val (Rf a 64)).natAbs * 64 = a * K := by
    have : (((a * K : Nat)) : Int) = (a : Int) * (K : Int) := Int.natCast_mul _ _
    omega
  have n2 : (val (Rf s 64)).natAbs * 64 = s * K := by
    have : (((s * K : Nat)) : Int) = (s : Int) * (K : Int) := Int.natCast_mul _ _
    (clear hp; lia)
  refine Nat.eq_of_mul_eq_mul_right (show 0 < 64 by decide) ?_
  calc (val (Rf a 64)).natAbs * K * s * 64 = (val (Rf a 64)).natAbs * 64 * (K * s) := by ac_rfl
    _ = a * K * (K * s) := by rw [n1]
    _ = a * K * (s * K) := by ac_rfl
    _ = a * K * ((val (Rf s 64)).natAbs * 64) := by rw [n2]
    _ = a * K * (val (Rf s 64)).natAbs * 64 := by ac_rfl

/-- the hue out of the two ratios -/
noncomputable def Hf (top : Nat) (cy cx : UInt64) : UInt64 := (Float64.divmod (Float64.div (if top = 0 then Float64.sub cy cx else if top = 1 then Float64.sub (Float64.add F2 cy) cx else Float64.sub (Float64.add F4 cy) cx) F6) F1).snd
structure DatOk (top s Y X : Nat) : Prop where
  t : top = 0 ∨ top = 1 ∨ top = 2
  s1 : 1 ≤ s
  s40 : s ≤ 40
  x : X ≤ s
  y : Y ≤ s
  xy : X = s ∨ Y = s
  t1 : top = 1 → 0 < Y
  t2 : top = 2 → 0 < X ∧ 0 < Y
noncomputable def wm (top s Y X : Nat) : Nat := if top = 0 then (if X ≤ Y then Y - X else 6 * s + Y - X) else 2 * top * s + Y - X
noncomputable def hueOf (top s Y X : Nat) : UInt64 := Hf top (Rf Y s) (Rf X s)

theorem cast_pos {s : Nat} (h : 1 ≤ s) : (0 : Rat) < (s : Rat) := by exact_mod_cast h
theorem frac_mul {a s : Nat} (hs : 1 ≤ s) : (a : Rat) / (s : Rat) * (s : Rat) = (a : Rat) := by
  have : (s : Rat) ≠ 0 := by have := cast_pos hs; grind
  grind
theorem frac_le {a s : Nat} (hs : 1 ≤ s) (h : a ≤ s) : (a : Rat) / (s : Rat) ≤ 1 := by
  refine Rat.le_of_mul_le_mul_right (c := (s : Rat)) ?_ (cast_pos hs)
  rw [frac_mul hs, Rat.one_mul]
  exact_mod_cast h
theorem frac_nn {a s : Nat} (hs : 1 ≤ s) : 0 ≤ (a : Rat) / (s : Rat) := by
  refine Rat.le_of_mul_le_mul_right (c := (s : Rat)) ?_ (cast_pos hs)
  rw [frac_mul hs, Rat.zero_mul]
  exact_mod_cast Nat.zero_le a
theorem frac_gap {a b s : Nat} (hs : 1 ≤ s) (h40 : s ≤ 40) (h : a < b) : (a : Rat) / (s : Rat) + 1 / 40 ≤ (b : Rat) / (s : Rat) := by
  refine Rat.le_of_mul_le_mul_right (c := (s : Rat)) ?_ (cast_pos hs)
  rw [Rat.add_mul, frac_mul hs, frac_mul hs]
  have h1 : (a : Rat) + 1 ≤ (b : Rat) := by exact_mod_cast h
  have h2 : (s : Rat) ≤ 40 := by exact_mod_cast h40
  grind
theorem Rf_one {s : Nat} (hs : 1 ≤ s) : Rf s s = F1 := by
  rw [Rf_eq (a' := 1) (s' := 1) hs (by decide) (by simp)]
  decide +kernel
theorem hue_zero {s : Nat} (hs : 1 ≤ s) : hueOf 0 s s s = F0 := by
  unfold hueOf
  rw [Rf_one hs]
  decide +kernel
theorem wm_rat {top s Y X : Nat} (hs : 1 ≤ s) (h : wm top s Y X + X = 2 * top * s + Y) : (wm top s Y X : Rat) / (6 * (s : Rat)) = (2 * (top : Rat) + (Y : Rat) / (s : Rat) - (X : Rat) / (s : Rat)) / 6 := by
  have h0 : (s : Rat) ≠ 0 := by have := cast_pos hs; grind
  have h1 : (wm top s Y X : Rat) + (X : Rat) = 2 * (top : Rat) * (s : Rat) + (Y : Rat) := by exact_mod_cast h
  have h2 := frac_mul (a := Y) hs
  have h3 := frac_mul (a := X) hs
  generalize (Y : Rat) / (s : Rat) = y at *
  generalize (X : Rat) / (s : Rat) = x at *
  grind
theorem hue_ap {top s Y X : Nat} (h : DatOk top s Y X) : Ap (hueOf top s Y X) ((wm top s Y X : Rat) / (6 * (s : Rat))) (4 * eps) := by
  have hs := h.s1
  have e0 := eps_pos
  have e1 := eps_le
  have y1 := frac_le hs h.y
  have x1 := frac_le hs h.x
  have y0 := frac_nn (a := Y) hs
  have x0 := frac_nn (a := X) hs
  have hY := Rf_ap (a := Y) (s := s) hs (by have := h.y; (clear hs; lia))
  have hX := Rf_ap (a := X) (s := s) hs (by have := h.x; omega)
  rcases h.t with rfl | rfl | rfl
  · by_cases hc : X ≤ Y
    · have hw : wm 0 s Y X + X = 2 * 0 * s + Y := by unfold wm; rw [if_pos rfl, if_pos hc]; simp [*]
      rw [wm_rat hs hw]
      by_cases he : X = Y
      · subst he
        have : X = s := by have := h.xy; lia
        subst this
        rw [hue_zero hs]
        exact ⟨0, fq_F0, by grind, by grind⟩
      · have g := frac_gap hs h.s40 (by lia : X < Y)
        have a1 := hY.sub hX (by grind) (by grind) (by grind)
        have a2 := a1.div6 (by grind) (by grind) (by grind)
        have a3 := a2.mod1p (by grind) (by grind)
        have e2 : (2 * ((0 : Nat) : Rat) + (Y : Rat) / (s : Rat) - (X : Rat) / (s : Rat)) / 6 = ((Y : Rat) / (s : Rat) - (X : Rat) / (s : Rat)) / 6 := by
          have : ((0 : Nat) : Rat) = 0 := rfl
          rw [this]; grind
        rw [e2]
        exact a3.weaken (by grind)
    · have hXs : X = s := by have := h.xy; have := h.y; have := h.x; lia
      have g := frac_gap hs h.s40 (by (clear hXs; lia) : Y < X)
      have hw : wm 0 s Y X + X = 6 * s + Y := by unfold wm; rw [if_pos rfl, if_neg hc]; have := h.x; (clear hXs; lia)
      have hr : (wm 0 s Y X : Rat) / (6 * (s : Rat)) = ((Y : Rat) / (s : Rat) - (X : Rat) / (s : Rat)) / 6 + 1 := by
        have h0 : (s : Rat) ≠ 0 := by have := cast_pos hs; grind
        have h1 : (wm 0 s Y X : Rat) + (X : Rat) = 6 * (s : Rat) + (Y : Rat) := by exact_mod_cast hw
        have h2 := frac_mul (a := Y) hs
        have h3 := frac_mul (a := X) hs
        generalize (Y : Rat) / (s : Rat) = y at *
        generalize (X : Rat) / (s : Rat) = x at *
        (clear hXs; grind)
      rw [hr]
      have a1 := hY.sub hX (by grind) (by grind) (by grind)
      have a2 := a1.div6 (by grind) (by grind) (by grind)
      have a3 := a2.mod1n (by grind) (by grind)
      exact a3.weaken (by grind)
  · have hw : wm 1 s Y X + X = 2 * 1 * s + Y := by unfold wm; rw [if_neg (by decide)]; have := h.x; (clear hs; lia)
    rw [wm_rat hs hw]
    have a0 := fq_F2.ap.add hY (by grind) (by grind) (by grind)
    have a1 := a0.sub hX (by grind) (by grind) (by grind)
    have a2 := a1.div6 (by grind) (by grind) (by grind)
    have a3 := a2.mod1p (by grind) (by grind)
    have e2 : (2 * ((1 : Nat) : Rat) + (Y : Rat) / (s : Rat) - (X : Rat) / (s : Rat)) / 6 = (2 + (Y : Rat) / (s : Rat) - (X : Rat) / (s : Rat)) / 6 := by
      have : ((1 : Nat) : Rat) = 1 := rfl
      rw [this]; simp
    rw [e2]
    exact a3.weaken (by grind)
  · have hw : wm 2 s Y X + X = 2 * 2 * s + Y := by unfold wm; rw [if_neg (by decide)]; have := h.x; (clear hs; lia)
    rw [wm_rat hs hw]
    have a0 := fq_F4.ap.add hY (by grind) (by grind) (by grind)
    have a1 := a0.sub hX (by grind) (by grind) (by grind)
    have a2 := a1.div6 (by grind) (by grind) (by grind)
    have a3 := a2.mod1p (by grind) (by grind)
    have e2 : (2 * ((2 : Nat) : Rat) + (Y : Rat) / (s : Rat) - (X : Rat) / (s : Rat)) / 6 = (4 + (Y : Rat) / (s : Rat) - (X : Rat) / (s : Rat)) / 6 := by
      have : ((2 : Nat) : Rat) = 2 := rfl
      rw [this]; grind
    rw [e2]
    exact a3.weaken (by grind)
end Mine
end

section
open PySem PySem.W
set_option maxRecDepth 100000
namespace Mine
open Float64 (decode val V dist Right infMag pack sgn)

/-- the sixth parts -/
structure Cls (t s Y X w k u v : Nat) : Prop where
  fs : s = u + v
  fw : w = k * s + u
  k5 : k ≤ 5
  lo : u = 0 → k = 0 ∨ k = 5
  hi : v = 0 → k < 4
  ft : t = if k = 0 then 0 else if k = 5 then 0 else (k + 1) / 2
  fY : Y = if k % 2 = 0 then s else u
  fX : X = if k % 2 = 0 then v else s
theorem wm_cls {top s Y X : Nat} (h : DatOk top s Y X) : ∃ k u v, Cls top s Y X (wm top s Y X) k u v := by
  obtain ⟨ht, h1, h40, hx, hy, hxy, ht1, ht2⟩ := h
  clear h40
  rcases ht with rfl | rfl | rfl
  · clear ht1 ht2
    by_cases hc : X ≤ Y
    · have hY : Y = s := by lia
      subst hY
      refine ⟨0, Y - X, X, by simp [*], ?_, by decide, fun _ => .inl rfl, fun _ => by decide, rfl, rfl, rfl⟩
      unfold wm; rw [if_pos rfl, if_pos hc, Nat.zero_mul, Nat.zero_add]
    · have hX : X = s := by lia
      subst hX
      refine ⟨5, Y, X - Y, by simp [*], ?_, by decide, fun _ => .inr rfl, fun h => by grind, rfl, rfl, rfl⟩
      unfold wm; rw [if_pos rfl, if_neg hc]; (clear hc; lia)
  · have hp := ht1 rfl
    clear ht1 ht2
    rcases hxy with rfl | rfl
    · refine ⟨1, Y, X - Y, by simp [*], ?_, by decide, fun h => by (clear hy; (subst_vars; lia)), fun _ => by decide, rfl, rfl, rfl⟩
      unfold wm; rw [if_neg (by decide)]; (clear hp; lia)
    · by_cases h0 : X = Y
      · subst h0
        refine ⟨1, X, 0, rfl, ?_, by decide, fun h => by (clear hp hx hy; (subst_vars; lia)), fun _ => by decide, rfl, rfl, rfl⟩
        unfold wm; rw [if_neg (by decide)]; (clear hp; lia)
      · refine ⟨2, Y - X, X, by omega, ?_, by decide, fun h => by grind, fun _ => by decide, rfl, rfl, rfl⟩
        unfold wm; rw [if_neg (by decide)]; (clear hp h1; lia)
  · obtain ⟨hp, hq⟩ := ht2 rfl
    clear ht1 ht2
    rcases hxy with rfl | rfl
    · refine ⟨3, Y, X - Y, by omega, ?_, by decide, fun h => by omega, fun _ => by decide, rfl, rfl, rfl⟩
      unfold wm; rw [if_neg (by decide)]; (clear hq hp; lia)
    · by_cases h0 : X = Y
      · subst h0
        refine ⟨3, X, 0, rfl, ?_, by decide, fun h => by omega, fun _ => by decide, rfl, rfl, rfl⟩
        unfold wm; rw [if_neg (by decide)]; lia
      · refine ⟨4, Y - X, X, by omega, ?_, by decide, fun h => by grind, fun h => by (clear hx h0; (subst_vars; lia)), rfl, rfl, rfl⟩
        unfold wm; rw [if_neg (by decide)]; lia
theorem cls_lt {k1 k2 s1 s2 u1 u2 : Nat} (p1 : 1 ≤ s1) (p2 : 1 ≤ s2) (a1 : u1 ≤ s1) (h : (k1 * s1 + u1) * s2 = (k2 * s2 + u2) * s1) (hk : k1 < k2) : u1 = s1 ∧ u2 = 0 ∧ k2 = k1 + 1 := by
  obtain ⟨d, rfl⟩ := Nat.exists_eq_add_of_lt hk
  have hA : 0 < s1 * s2 := Nat.mul_pos p1 p2
  have e1 : (k1 * s1 + u1) * s2 = k1 * (s1 * s2) + u1 * s2 := by rw [Nat.add_mul, Nat.mul_assoc]
  have e2 : ((k1 + d + 1) * s2 + u2) * s1 = k1 * (s1 * s2) + d * (s1 * s2) + s1 * s2 + u2 * s1 := by rw [Nat.add_mul, Nat.add_mul, Nat.add_mul, Nat.add_mul, Nat.add_mul, Nat.one_mul, Nat.mul_assoc, Nat.mul_assoc, Nat.mul_comm s2 s1]
  rw [e1, e2] at h
  have b1 := Nat.mul_le_mul_right s2 a1
  have z : u1 * s2 = s1 * s2 ∧ d * (s1 * s2) = 0 ∧ u2 * s1 = 0 := by
    generalize u1 * s2 = x at *
    generalize s1 * s2 = y at *
    generalize d * y = z at *
    generalize u2 * s1 = q at *
    generalize k1 * y = r at *
    (clear e1; lia)
  obtain ⟨z1, z2, z3⟩ := z
  refine ⟨Nat.eq_of_mul_eq_mul_right p2 z1, ?_, ?_⟩
  · rcases Nat.mul_eq_zero.mp z3 with h | h
    · exact h
    · rw [h] at p1; exact absurd p1 (by decide)
  · rcases Nat.mul_eq_zero.mp z2 with h | h
    · rw [h]
    · rw [h] at hA; exact absurd hA (by decide)
theorem cls_ne {t1 s1 Y1 X1 w1 k1 u1 v1 t2 s2 Y2 X2 w2 k2 u2 v2 : Nat} (p1 : 1 ≤ s1) (p2 : 1 ≤ s2) (c1 : Cls t1 s1 Y1 X1 w1 k1 u1 v1) (c2 : Cls t2 s2 Y2 X2 w2 k2 u2 v2) (h : w1 * s2 = w2 * s1) : ¬ k1 < k2 := by
  intro hk
  rw [c1.fw, c2.fw] at h
  obtain ⟨z1, z2, z3⟩ := cls_lt p1 p2 (by rw [c1.fs]; exact Nat.le_add_right _ _) h hk
  have hv : v1 = 0 := by have := c1.fs; (clear h c2 z3 c1 p1; (subst_vars; lia))
  have h1 := c1.hi hv
  rcases c2.lo z2 with h2 | h2
  · (clear h c2 c1 z1 hk; (subst_vars; lia))
  · lia
theorem hue_eq {t1 s1 Y1 X1 t2 s2 Y2 X2 : Nat} (h1 : DatOk t1 s1 Y1 X1) (h2 : DatOk t2 s2 Y2 X2) (h : wm t1 s1 Y1 X1 * s2 = wm t2 s2 Y2 X2 * s1) : hueOf t1 s1 Y1 X1 = hueOf t2 s2 Y2 X2 := by
  have p1 := h1.s1
  have p2 := h2.s1
  obtain ⟨k1, u1, v1, c1⟩ := wm_cls h1
  obtain ⟨k2, u2, v2, c2⟩ := wm_cls h2
  have hk : k1 = k2 := Nat.le_antisymm (Nat.not_lt.mp (cls_ne p2 p1 c2 c1 h.symm)) (Nat.not_lt.mp (cls_ne p1 p2 c1 c2 h))
  subst hk
  have hu : u1 * s2 = u2 * s1 := by
    have := h
    rw [c1.fw, c2.fw, Nat.add_mul, Nat.add_mul, Nat.mul_assoc, Nat.mul_assoc, Nat.mul_comm s2 s1] at this
    exact Nat.add_left_cancel this
  have hv : v1 * s2 = v2 * s1 := by
    have a1 : s1 * s2 = u1 * s2 + v1 * s2 := by rw [← Nat.add_mul, ← c1.fs]
    have a2 : s2 * s1 = u2 * s1 + v2 * s1 := by rw [← Nat.add_mul, ← c2.fs]
    rw [Nat.mul_comm s2 s1] at a2
    rw [a1, hu] at a2
    exact Nat.add_left_cancel a2
  have hs : s1 * s2 = s2 * s1 := Nat.mul_comm _ _
  have hY : Y1 * s2 = Y2 * s1 := by
    rw [c1.fY, c2.fY]
    split
    · exact hs
    · exact hu
  have hX : X1 * s2 = X2 * s1 := by
    rw [c1.fX, c2.fX]
    split
    · exact hv
    · exact hs
  unfold hueOf
  rw [c1.ft, c2.ft, Rf_eq p1 p2 hY, Rf_eq p1 p2 hX]
theorem wm_lt {t s Y X : Nat} (h : DatOk t s Y X) : wm t s Y X < 6 * s := by
  obtain ⟨k, u, v, c⟩ := wm_cls h
  have a := c.k5
  have b := c.fs
  have h1 := h.s1
  rw [c.fw]
  have : k * s ≤ 5 * s := Nat.mul_le_mul_right s a
  by_cases hv : v = 0
  · have := c.hi hv
    have : k * s ≤ 4 * s := Nat.mul_le_mul_right s (by (clear a; lia))
    (clear hv; lia)
  · lia
theorem wm_zero {t s Y X : Nat} (h : DatOk t s Y X) (h0 : wm t s Y X = 0) : t = 0 ∧ Y = s ∧ X = s := by
  obtain ⟨k, u, v, c⟩ := wm_cls h
  have h1 := h.s1
  rw [c.fw] at h0
  have hk : k = 0 := by
    rcases Nat.mul_eq_zero.mp (Nat.eq_zero_of_add_eq_zero_right h0) with h | h
    · exact h
    · (rename_i q1; clear h0 c q1; (subst_vars; lia))
  have hu := Nat.eq_zero_of_add_eq_zero_left h0
  have b := c.fs
  have a1 := c.ft
  have a2 := c.fY
  have a3 := c.fX
  subst hk; subst hu
  exact ⟨a1, a2, by rw [a3, b, Nat.zero_add]; rfl⟩
theorem rat_gap {w1 s1 w2 s2 : Nat} (p1 : 1 ≤ s1) (p2 : 1 ≤ s2) (q1 : s1 ≤ 40) (q2 : s2 ≤ 40) (h : w1 * s2 < w2 * s1) : (w1 : Rat) / (6 * (s1 : Rat)) + 1 / 9600 ≤ (w2 : Rat) / (6 * (s2 : Rat)) := by
  have c1 := cast_pos p1
  have c2 := cast_pos p2
  have hp : (0 : Rat) < 6 * (s1 : Rat) * (s2 : Rat) := Rat.mul_pos (by grind) c2
  refine Rat.le_of_mul_le_mul_right (c := 6 * (s1 : Rat) * (s2 : Rat)) ?_ hp
  have n1 : (s1 : Rat) ≠ 0 := by grind
  have n2 : (s2 : Rat) ≠ 0 := by grind
  have e1 : ((w1 : Rat) / (6 * (s1 : Rat)) + 1 / 9600) * (6 * (s1 : Rat) * (s2 : Rat)) = (w1 : Rat) * (s2 : Rat) + (s1 : Rat) * (s2 : Rat) / 1600 := by (clear n2; grind)
  have e2 : (w2 : Rat) / (6 * (s2 : Rat)) * (6 * (s1 : Rat) * (s2 : Rat)) = (w2 : Rat) * (s1 : Rat) := by (clear n1; grind)
  rw [e1, e2]
  have h1 : (w1 : Rat) * (s2 : Rat) + 1 ≤ (w2 : Rat) * (s1 : Rat) := by exact_mod_cast h
  have h2 : (s1 : Rat) * (s2 : Rat) ≤ 1600 := by
    have : s1 * s2 ≤ 40 * 40 := Nat.mul_le_mul q1 q2
    exact_mod_cast this
  (clear e2; grind)
theorem hue_lt {t1 s1 Y1 X1 t2 s2 Y2 X2 : Nat} (h1 : DatOk t1 s1 Y1 X1) (h2 : DatOk t2 s2 Y2 X2) : (Float64.cmp (hueOf t1 s1 Y1 X1) (hueOf t2 s2 Y2 X2) == some .lt) = decide (wm t1 s1 Y1 X1 * s2 < wm t2 s2 Y2 X2 * s1) := by
  have e0 := eps_pos
  have e1 := eps_le
  obtain ⟨z1, f1, a1, b1⟩ := hue_ap h1
  obtain ⟨z2, f2, a2, b2⟩ := hue_ap h2
  rcases Nat.lt_trichotomy (wm t1 s1 Y1 X1 * s2) (wm t2 s2 Y2 X2 * s1) with h | h | h
  · have g := rat_gap h1.s1 h2.s1 h1.s40 h2.s40 h
    rw [cmp_lt f1 f2, decide_eq_true h]
    exact decide_eq_true (by grind)
  · have e := hue_eq h1 h2 h
    rw [e] at f1 ⊢
    rw [cmp_lt f1 f1, decide_eq_false (Nat.not_lt.mpr (Nat.le_of_eq h.symm))]
    exact decide_eq_false (by simp)
  · have g := rat_gap h2.s1 h1.s1 h2.s40 h1.s40 h
    rw [cmp_lt f1 f2, decide_eq_false (Nat.not_lt.mpr (Nat.le_of_lt h))]
    exact decide_eq_false (by grind)
theorem six_of {j : Nat} (hj : j ≤ 5) : j = 0 ∨ j = 1 ∨ j = 2 ∨ j = 3 ∨ j = 4 ∨ j = 5 := by lia
/-- where the wheel is cut -/
theorem rep_dat (j : Nat) (hj : j ≤ 5) : ∃ t Y X, DatOk t 1 Y X ∧ wm t 1 Y X = j ∧ hueOf t 1 Y X = Rf j 6 := by
  rcases six_of hj with rfl | rfl | rfl | rfl | rfl | rfl
  · exact ⟨0, 1, 1, ⟨by decide, by decide, by decide, by decide, by decide, by decide, by decide, by decide⟩, rfl, by decide +kernel⟩
  · exact ⟨0, 1, 0, ⟨by decide, by decide, by decide, by decide, by decide, by decide, by decide, by decide⟩, rfl, by decide +kernel⟩
  · exact ⟨1, 1, 1, ⟨by decide, by decide, by decide, by decide, by decide, by decide, by decide, by decide⟩, rfl, by decide +kernel⟩
  · exact ⟨1, 1, 0, ⟨by decide, by decide, by decide, by decide, by decide, by decide, by decide, by decide⟩, rfl, by decide +kernel⟩
  · exact ⟨2, 1, 1, ⟨by decide, by decide, by decide, by decide, by decide, by decide, by decide, by decide⟩, rfl, by decide +kernel⟩
  · exact ⟨0, 0, 1, ⟨by decide, by decide, by decide, by decide, by decide, by decide, by decide, by decide⟩, rfl, by decide +kernel⟩
theorem hue_thr {t s Y X j : Nat} (h : DatOk t s Y X) (hj : j ≤ 5) : (Float64.cmp (hueOf t s Y X) (Rf j 6) == some .lt) = decide (wm t s Y X < j * s) ∧ (Float64.cmp (Rf j 6) (hueOf t s Y X) == some .lt) = decide (j * s < wm t s Y X) := by
  obtain ⟨t', Y', X', d, hw, e⟩ := rep_dat j hj
  rw [← e]
  constructor
  · rw [hue_lt h d, hw, Nat.mul_one]
  · rw [hue_lt d h, hw, Nat.mul_one]
end Mine
end

section
open PySem PySem.W
set_option maxRecDepth 100000
namespace Mine
open Float64 (decode val V dist Right infMag pack sgn)

noncomputable def mx3 (r g b : Nat) : Nat := max r (max g b)
noncomputable def mn3 (r g b : Nat) : Nat := min r (min g b)
noncomputable def sp3 (r g b : Nat) : Nat := mx3 r g b - mn3 r g b
theorem div64_lt {a b : Nat} : ((a : Rat) / 64 < (b : Rat) / 64) ↔ a < b := by
  have e : ((a : Rat) < (b : Rat)) ↔ a < b := by exact_mod_cast Iff.rfl
  rw [← e]
  constructor <;> intro h <;> grind
theorem div64_eq {a b : Nat} : ((a : Rat) / 64 = (b : Rat) / 64) ↔ a = b := by
  have e : ((a : Rat) = (b : Rat)) ↔ a = b := by exact_mod_cast Iff.rfl
  rw [← e]
  constructor <;> intro h <;> grind
theorem fgt_col {a b : Nat} (ha : a ≤ 40) (hb : b ≤ 40) : fgt (Rf a 64) (Rf b 64) = decide (b < a) := by
  unfold fgt
  rw [cmp_gt (col_fq (by lia)) (col_fq (by lia))]
  exact decide_eq_decide.mpr div64_lt
theorem flt_col {a b : Nat} (ha : a ≤ 40) (hb : b ≤ 40) : flt' (Rf a 64) (Rf b 64) = decide (a < b) := by
  unfold flt'
  rw [cmp_lt (col_fq (by omega)) (col_fq (by omega))]
  exact decide_eq_decide.mpr div64_lt
theorem eq_col {a b : Nat} (ha : a ≤ 40) (hb : b ≤ 40) : (Float64.cmp (Rf a 64) (Rf b 64) == some .eq) = decide (a = b) := by
  rw [cmp_eq (col_fq (by omega)) (col_fq (by omega))]
  exact decide_eq_decide.mpr div64_eq
theorem mx_a {x y z : Nat} (h1 : y ≤ x) (h2 : z ≤ x) : max x (max y z) = x := Nat.max_eq_left (Nat.max_le.mpr ⟨h1, h2⟩)
theorem mx_b {x y z : Nat} (h1 : x ≤ y) (h2 : z ≤ y) : max x (max y z) = y := by rw [Nat.max_eq_left h2]; exact Nat.max_eq_right h1
theorem mx_c {x y z : Nat} (h1 : x ≤ z) (h2 : y ≤ z) : max x (max y z) = z := by rw [Nat.max_eq_right h2]; exact Nat.max_eq_right h1
theorem mn_a {x y z : Nat} (h1 : x ≤ y) (h2 : x ≤ z) : min x (min y z) = x := Nat.min_eq_left (Nat.le_min.mpr ⟨h1, h2⟩)
theorem mn_b {x y z : Nat} (h1 : y ≤ x) (h2 : y ≤ z) : min x (min y z) = y := by rw [Nat.min_eq_left h2]; exact Nat.min_eq_right h1
theorem mn_c {x y z : Nat} (h1 : z ≤ x) (h2 : z ≤ y) : min x (min y z) = z := by rw [Nat.min_eq_right h2]; exact Nat.min_eq_right h1
theorem max_col {r g b : Nat} (hr : r ≤ 40) (hg : g ≤ 40) (hb : b ≤ 40) : fmax3 (Rf r 64) (Rf g 64) (Rf b 64) = Rf (mx3 r g b) 64 := by
  unfold fmax3 mx3
  rw [fgt_col hg hr, fgt_col hb hg, fgt_col hb hr]
  simp only [decide_eq_true_eq]
  split <;> rename_i h1 <;> split <;> rename_i h2
  · rw [mx_c (Nat.le_of_lt (Nat.lt_trans h1 h2)) (Nat.le_of_lt h2)]
  · rw [mx_b (Nat.le_of_lt h1) (Nat.not_lt.mp h2)]
  · rw [mx_c (Nat.le_of_lt h2) (Nat.le_trans (Nat.not_lt.mp h1) (Nat.le_of_lt h2))]
  · rw [mx_a (Nat.not_lt.mp h1) (Nat.not_lt.mp h2)]
theorem min_col {r g b : Nat} (hr : r ≤ 40) (hg : g ≤ 40) (hb : b ≤ 40) : fmin3 (Rf r 64) (Rf g 64) (Rf b 64) = Rf (mn3 r g b) 64 := by
  unfold fmin3 mn3
  rw [flt_col hg hr, flt_col hb hg, flt_col hb hr]
  simp only [decide_eq_true_eq]
  split <;> rename_i h1 <;> split <;> rename_i h2
  · rw [mn_c (Nat.le_of_lt (Nat.lt_trans h2 h1)) (Nat.le_of_lt h2)]
  · rw [mn_b (Nat.le_of_lt h1) (Nat.not_lt.mp h2)]
  · rw [mn_c (Nat.le_of_lt h2) (Nat.le_trans (Nat.le_of_lt h2) (Nat.not_lt.mp h1))]
  · rw [mn_a (Nat.not_lt.mp h1) (Nat.not_lt.mp h2)]
theorem mx_ge (r g b : Nat) : r ≤ mx3 r g b ∧ g ≤ mx3 r g b ∧ b ≤ mx3 r g b :=
  ⟨Nat.le_max_left _ _, Nat.le_trans (Nat.le_max_left _ _) (Nat.le_max_right _ _), Nat.le_trans (Nat.le_max_right _ _) (Nat.le_max_right _ _)⟩
theorem mn_le (r g b : Nat) : mn3 r g b ≤ r ∧ mn3 r g b ≤ g ∧ mn3 r g b ≤ b :=
  ⟨Nat.min_le_left _ _, Nat.le_trans (Nat.min_le_right _ _) (Nat.min_le_left _ _), Nat.le_trans (Nat.min_le_right _ _) (Nat.min_le_right _ _)⟩
theorem sp0 {r g b : Nat} (h : sp3 r g b = 0) : mn3 r g b = mx3 r g b ∧ r = mx3 r g b ∧ g = mx3 r g b ∧ b = mx3 r g b := by
  have a := mx_ge r g b
  have c := mn_le r g b
  have e : mx3 r g b ≤ mn3 r g b := Nat.le_of_sub_eq_zero h
  exact ⟨Nat.le_antisymm (Nat.le_trans c.1 a.1) e, Nat.le_antisymm a.1 (Nat.le_trans e c.1), Nat.le_antisymm a.2.1 (Nat.le_trans e c.2.1), Nat.le_antisymm a.2.2 (Nat.le_trans e c.2.2)⟩
theorem mn_mx (r g b : Nat) : mn3 r g b ≤ mx3 r g b := Nat.le_trans (mn_le r g b).1 (mx_ge r g b).1
noncomputable def dT (r g b : Nat) : Nat := if r = mx3 r g b then 0 else if g = mx3 r g b then 1 else 2
noncomputable def dY (r g b : Nat) : Nat := if r = mx3 r g b then mx3 r g b - b else if g = mx3 r g b then mx3 r g b - r else mx3 r g b - g
noncomputable def dX (r g b : Nat) : Nat := if r = mx3 r g b then mx3 r g b - g else if g = mx3 r g b then mx3 r g b - b else mx3 r g b - r
noncomputable def hue3 (r g b : Nat) : UInt64 := hueOf (dT r g b) (sp3 r g b) (dY r g b) (dX r g b)
noncomputable def wm3 (r g b : Nat) : Nat := wm (dT r g b) (sp3 r g b) (dY r g b) (dX r g b)
theorem mx_le {r g b : Nat} (hr : r ≤ 40) (hg : g ≤ 40) (hb : b ≤ 40) : mx3 r g b ≤ 40 := Nat.max_le.mpr ⟨hr, Nat.max_le.mpr ⟨hg, hb⟩⟩
/-- the six parts of the wheel -/
theorem d0 {r g b M : Nat} (h : mx3 r g b = M) (h1 : r = M) : dT r g b = 0 ∧ dY r g b = M - b ∧ dX r g b = M - g := by
  subst h; unfold dT dY dX; rw [if_pos h1, if_pos h1, if_pos h1]; exact ⟨rfl, rfl, rfl⟩
theorem d1 {r g b M : Nat} (h : mx3 r g b = M) (h1 : ¬ r = M) (h2 : g = M) : dT r g b = 1 ∧ dY r g b = M - r ∧ dX r g b = M - b := by
  subst h; unfold dT dY dX; rw [if_neg h1, if_neg h1, if_neg h1, if_pos h2, if_pos h2, if_pos h2]; exact ⟨rfl, rfl, rfl⟩
theorem d2 {r g b M : Nat} (h : mx3 r g b = M) (h1 : ¬ r = M) (h2 : ¬ g = M) : dT r g b = 2 ∧ dY r g b = M - g ∧ dX r g b = M - r := by
  subst h; unfold dT dY dX; rw [if_neg h1, if_neg h1, if_neg h1, if_neg h2, if_neg h2, if_neg h2]; exact ⟨rfl, rfl, rfl⟩
structure Sec (r g b t M s Y X w : Nat) : Prop where
  M : mx3 r g b = M
  s : sp3 r g b = s
  t : dT r g b = t
  Y : dY r g b = Y
  X : dX r g b = X
  w : wm3 r g b = w
theorem Sec.mk' {r g b t M m s Y X w : Nat} (hM : mx3 r g b = M) (hm : mn3 r g b = m) (hs : M - m = s) (hd : dT r g b = t ∧ dY r g b = Y ∧ dX r g b = X) (hw : wm t s Y X = w) : Sec r g b t M s Y X w := by
  obtain ⟨h1, h2, h3⟩ := hd
  have hs' : sp3 r g b = s := by unfold sp3; rw [hM, hm, hs]
  refine ⟨hM, hs', h1, h2, h3, ?_⟩
  unfold wm3; rw [h1, hs', h2, h3]; exact hw
theorem l1 (m u v : Nat) : m + u ≤ m + u + v := Nat.le_add_right _ _
theorem l2 (m u v : Nat) : m + v ≤ m + u + v := Nat.add_le_add_right (Nat.le_add_right _ _) _
theorem l3 (m u v : Nat) : m ≤ m + u + v := Nat.le_trans (Nat.le_add_right _ _) (Nat.le_add_right _ _)
theorem sec0 (m u v : Nat) : Sec (m + u + v) (m + u) m 0 (m + u + v) (u + v) (u + v) v u :=
  Sec.mk' (mx_a (l1 m u v) (l3 m u v)) (mn_c (l3 m u v) (Nat.le_add_right m u)) (by lia) (by have := d0 (mx_a (l1 m u v) (l3 m u v)) rfl; rw [show m + u + v - m = u + v by omega, show m + u + v - (m + u) = v by simp] at this; exact this) (by unfold wm; rw [if_pos rfl, if_pos (by simp)]; simp)
theorem sec1 (m u v : Nat) (hu : 0 < u) : Sec (m + v) (m + u + v) m 1 (m + u + v) (u + v) u (u + v) (u + v + u) :=
  Sec.mk' (mx_b (l2 m u v) (l3 m u v)) (mn_c (Nat.le_add_right m v) (l3 m u v)) (by (clear hu; omega)) (by have := d1 (mx_b (l2 m u v) (l3 m u v)) (by lia) rfl; rw [show m + u + v - m = u + v by omega, show m + u + v - (m + v) = u by lia] at this; exact this) (by unfold wm; rw [if_neg (by decide)]; lia)
theorem sec2 (m u v : Nat) (hu : 0 < u) : Sec m (m + u + v) (m + u) 1 (m + u + v) (u + v) (u + v) v (2 * (u + v) + u) :=
  Sec.mk' (mx_b (l3 m u v) (l1 m u v)) (mn_a (l3 m u v) (Nat.le_add_right m u)) (by omega) (by have := d1 (mx_b (l3 m u v) (l1 m u v)) (by lia) rfl; rw [show m + u + v - m = u + v by omega, show m + u + v - (m + u) = v by omega] at this; exact this) (by unfold wm; rw [if_neg (by decide)]; lia)
theorem sec3 (m u v : Nat) (hu : 0 < u) : Sec m (m + v) (m + u + v) 2 (m + u + v) (u + v) u (u + v) (3 * (u + v) + u) :=
  Sec.mk' (mx_c (l3 m u v) (l2 m u v)) (mn_a (Nat.le_add_right m v) (l3 m u v)) (by omega) (by have := d2 (mx_c (l3 m u v) (l2 m u v)) (by omega) (by omega); rw [show m + u + v - m = u + v by omega, show m + u + v - (m + v) = u by lia] at this; exact this) (by unfold wm; rw [if_neg (by decide)]; lia)
theorem sec4 (m u v : Nat) (hu : 0 < u) (hv : 0 < v) : Sec (m + u) m (m + u + v) 2 (m + u + v) (u + v) (u + v) v (4 * (u + v) + u) :=
  Sec.mk' (mx_c (l1 m u v) (l3 m u v)) (mn_b (Nat.le_add_right m u) (l3 m u v)) (by (clear hv hu; omega)) (by have := d2 (mx_c (l1 m u v) (l3 m u v)) (by lia) (by (clear hv; omega)); rw [show m + u + v - m = u + v by omega, show m + u + v - (m + u) = v by (clear hv; omega)] at this; exact this) (by unfold wm; rw [if_neg (by decide)]; (clear hu; lia))
theorem sec5 (m u v : Nat) (hv : 0 < v) : Sec (m + u + v) m (m + v) 0 (m + u + v) (u + v) u (u + v) (5 * (u + v) + u) :=
  Sec.mk' (mx_a (l3 m u v) (l2 m u v)) (mn_b (l3 m u v) (Nat.le_add_right m v)) (by (clear hv; omega)) (by have := d0 (mx_a (l3 m u v) (l2 m u v)) rfl; rw [show m + u + v - m = u + v by omega, show m + u + v - (m + v) = u by lia] at this; exact this) (by unfold wm; rw [if_pos rfl, if_neg (by simp [*])]; lia)
/-- every colour is in one of the six -/
theorem sector (Q : Nat → Nat → Nat → Prop) (h0 : ∀ m u v, Q (m + u + v) (m + u) m) (h1 : ∀ m u v, 0 < u → Q (m + v) (m + u + v) m) (h2 : ∀ m u v, 0 < u → Q m (m + u + v) (m + u)) (h3 : ∀ m u v, 0 < u → Q m (m + v) (m + u + v))
    (h4 : ∀ m u v, 0 < u → 0 < v → Q (m + u) m (m + u + v)) (h5 : ∀ m u v, 0 < v → Q (m + u + v) m (m + v)) (r g b : Nat) : Q r g b := by
  have e : ∀ {x y z : Nat}, x ≤ y → y ≤ z → ∃ u v, y = x + u ∧ z = x + u + v := fun {x y z} a c => ⟨y - x, z - y, by simp [*], by simp [*]⟩
  have e' : ∀ {x y z : Nat}, x ≤ y → y ≤ z → ∃ u v, y = x + v ∧ z = x + u + v := fun {x y z} a c => ⟨z - y, y - x, by omega, by grind⟩
  by_cases a1 : g ≤ r
  · by_cases a2 : b ≤ g
    · obtain ⟨u, v, rfl, rfl⟩ := e a2 a1; exact h0 _ _ _
    · by_cases a3 : b ≤ r
      · obtain ⟨u, v, rfl, rfl⟩ := e' (show g ≤ b by lia) a3; exact h5 _ _ _ (by lia)
      · by_cases a4 : g = r
        · obtain ⟨u, v, c1, c2⟩ := e' (show r ≤ r by simp) (show r ≤ b by (clear a4; lia))
          have : v = 0 := by lia
          subst this
          have := h3 r u 0 (by (clear a4 a2; (subst_vars; lia)))
          rw [c2, a4]; exact this
        · obtain ⟨u, v, rfl, rfl⟩ := e a1 (show r ≤ b by lia); exact h4 _ _ _ (by lia) (by lia)
  · by_cases a2 : b ≤ r
    · obtain ⟨u, v, rfl, rfl⟩ := e' a2 (show r ≤ g by lia); exact h1 _ _ _ (by lia)
    · by_cases a3 : b ≤ g
      · obtain ⟨u, v, rfl, rfl⟩ := e (show r ≤ b by omega) a3; exact h2 _ _ _ (by lia)
      · obtain ⟨u, v, rfl, rfl⟩ := e' (show r ≤ g by omega) (show g ≤ b by omega); exact h3 _ _ _ (by omega)
theorem Sec.dat {r g b t M s Y X w : Nat} (S : Sec r g b t M s Y X w) (h : DatOk t s Y X) : DatOk (dT r g b) (sp3 r g b) (dY r g b) (dX r g b) := by rw [S.t, S.s, S.Y, S.X]; exact h
theorem dat3 {r g b : Nat} (hr : r ≤ 40) (hg : g ≤ 40) (hb : b ≤ 40) (hs : 1 ≤ sp3 r g b) : DatOk (dT r g b) (sp3 r g b) (dY r g b) (dX r g b) := by
  have h40 : sp3 r g b ≤ 40 := Nat.le_trans (Nat.sub_le _ _) (mx_le hr hg hb)
  clear hr hg hb
  have lu : ∀ u v : Nat, u ≤ u + v := fun u v => Nat.le_add_right u v
  have lv : ∀ u v : Nat, v ≤ u + v := fun u v => Nat.le_add_left v u
  have n01 : ¬ (0 : Nat) = 1 := by decide
  have n02 : ¬ (0 : Nat) = 2 := by decide
  have n12 : ¬ (1 : Nat) = 2 := by decide
  have n21 : ¬ (2 : Nat) = 1 := by decide
  revert hs h40
  refine sector (fun r g b => 1 ≤ sp3 r g b → sp3 r g b ≤ 40 → DatOk (dT r g b) (sp3 r g b) (dY r g b) (dX r g b)) (fun m u v => ?_) (fun m u v hu => ?_) (fun m u v hu => ?_) (fun m u v hu => ?_) (fun m u v hu hv => ?_) (fun m u v hv => ?_) r g b
  · intro h1 h2
    have S := sec0 m u v
    rw [S.s] at h1 h2
    exact S.dat ⟨.inl rfl, h1, h2, lv u v, Nat.le_refl _, .inr rfl, fun h => absurd h n01, fun h => absurd h n02⟩
  · intro h1 h2
    have S := sec1 m u v hu
    rw [S.s] at h1 h2
    exact S.dat ⟨.inr (.inl rfl), h1, h2, Nat.le_refl _, lu u v, .inl rfl, fun _ => hu, fun h => absurd h n12⟩
  · intro h1 h2
    have S := sec2 m u v hu
    rw [S.s] at h1 h2
    exact S.dat ⟨.inr (.inl rfl), h1, h2, lv u v, Nat.le_refl _, .inr rfl, fun _ => h1, fun h => absurd h n12⟩
  · intro h1 h2
    have S := sec3 m u v hu
    rw [S.s] at h1 h2
    exact S.dat ⟨.inr (.inr rfl), h1, h2, Nat.le_refl _, lu u v, .inl rfl, fun h => absurd h n21, fun _ => ⟨h1, hu⟩⟩
  · intro h1 h2
    have S := sec4 m u v hu hv
    rw [S.s] at h1 h2
    exact S.dat ⟨.inr (.inr rfl), h1, h2, lv u v, Nat.le_refl _, .inr rfl, fun h => absurd h n21, fun _ => ⟨hv, h1⟩⟩
  · intro h1 h2
    have S := sec5 m u v hv
    rw [S.s] at h1 h2
    exact S.dat ⟨.inl rfl, h1, h2, Nat.le_refl _, lu u v, .inl rfl, fun h => absurd h n01, fun h => absurd h n02⟩
theorem hsv_ng {r g b : Nat} (hr : r ≤ 40) (hg : g ≤ 40) (hb : b ≤ 40) (hs : 1 ≤ sp3 r g b) : hsvC (Rf r 64) (Rf g 64) (Rf b 64) = [hue3 r g b, Rf (sp3 r g b) (mx3 r g b), Rf (mx3 r g b) 64] := by
  have hm := mx_le hr hg hb
  have hmn := mn_mx r g b
  have hne : ¬ mn3 r g b = mx3 r g b := fun e => by unfold sp3 at hs; rw [e, Nat.sub_self] at hs; exact absurd hs (by decide)
  obtain ⟨r1, g1, b1⟩ := mx_ge r g b
  have hs40 : sp3 r g b ≤ 40 := Nat.le_trans (Nat.sub_le _ _) hm
  unfold hsvC
  rw [max_col hr hg hb, min_col hr hg hb, eq_col (by (clear hne; lia)) hm, decide_eq_false hne, if_neg Bool.false_ne_true, sub_col hmn (by lia)]
  show [hueC (Rf (mx3 r g b) 64) (Rf (sp3 r g b) 64) _ _ _, Float64.div (Rf (sp3 r g b) 64) _, _] = _
  rw [div_col (by unfold sp3 at hs; lia) (by lia) (by omega)]
  congr 1
  unfold hueC h0C hue3 hueOf Hf dT dY dX
  simp only
  rw [sub_col r1 (by omega), sub_col g1 (by omega), sub_col b1 (by omega), div_col hs (by grind) (by omega), div_col hs (by grind) (by omega), div_col hs (by grind) (by omega), eq_col hr hm, eq_col hg hm]
  by_cases h1 : r = mx3 r g b
  · rw [decide_eq_true h1]
    simp only [if_pos h1, if_true]
  · rw [decide_eq_false h1]
    simp only [if_neg h1, Bool.false_eq_true, if_false]
    by_cases h2 : g = mx3 r g b
    · rw [decide_eq_true h2]
      simp only [if_pos h2, if_true]
      rfl
    · rw [decide_eq_false h2]
      simp only [if_neg h2, Bool.false_eq_true, if_false]
      rfl
/-- the colours back out of the way -/
noncomputable def BackC (r g b i : Nat) : Prop :=
    (i = 0 → r = mx3 r g b ∧ g + ((i + 1) * sp3 r g b - wm3 r g b) = mx3 r g b ∧ b + sp3 r g b = mx3 r g b) ∧
    (i = 1 → r + (wm3 r g b - i * sp3 r g b) = mx3 r g b ∧ g = mx3 r g b ∧ b + sp3 r g b = mx3 r g b) ∧
    (i = 2 → r + sp3 r g b = mx3 r g b ∧ g = mx3 r g b ∧ b + ((i + 1) * sp3 r g b - wm3 r g b) = mx3 r g b) ∧
    (i = 3 → r + sp3 r g b = mx3 r g b ∧ g + (wm3 r g b - i * sp3 r g b) = mx3 r g b ∧ b = mx3 r g b) ∧
    (i = 4 → r + ((i + 1) * sp3 r g b - wm3 r g b) = mx3 r g b ∧ g + sp3 r g b = mx3 r g b ∧ b = mx3 r g b) ∧
    (i = 5 → r = mx3 r g b ∧ g + sp3 r g b = mx3 r g b ∧ b + (wm3 r g b - i * sp3 r g b) = mx3 r g b)
noncomputable def Back (r g b : Nat) : Prop := 1 ≤ sp3 r g b → ∀ i, i * sp3 r g b ≤ wm3 r g b → wm3 r g b ≤ (i + 1) * sp3 r g b → BackC r g b i
theorem back3 {r g b : Nat} (hs : 1 ≤ sp3 r g b) {i : Nat} (h1 : i * sp3 r g b ≤ wm3 r g b) (h2 : wm3 r g b ≤ (i + 1) * sp3 r g b) : BackC r g b i := sector Back
  (fun m u v => by
    have S := sec0 m u v
    unfold Back BackC; rw [S.s, S.w, S.M]; intro hs i h1 h2
    refine ⟨?_, ?_, ?_, ?_, ?_, ?_⟩ <;> rintro rfl <;> first | (exfalso; omega) | (refine ⟨?_, ?_, ?_⟩ <;> first | rfl | exact (Nat.add_assoc _ _ _).symm | omega))
  (fun m u v hu => by
    have S := sec1 m u v hu
    unfold Back BackC; rw [S.s, S.w, S.M]; clear S; intro hs i h1 h2
    refine ⟨?_, ?_, ?_, ?_, ?_, ?_⟩ <;> rintro rfl <;> first | (exfalso; omega) | (refine ⟨?_, ?_, ?_⟩ <;> first | rfl | exact (Nat.add_assoc _ _ _).symm | omega))
  (fun m u v hu => by
    have S := sec2 m u v hu
    unfold Back BackC; rw [S.s, S.w, S.M]; clear S; intro hs i h1 h2
    refine ⟨?_, ?_, ?_, ?_, ?_, ?_⟩ <;> rintro rfl <;> first | (exfalso; omega) | (refine ⟨?_, ?_, ?_⟩ <;> first | rfl | exact (Nat.add_assoc _ _ _).symm | omega))
  (fun m u v hu => by
    have S := sec3 m u v hu
    unfold Back BackC; rw [S.s, S.w, S.M]; clear S; intro hs i h1 h2
    refine ⟨?_, ?_, ?_, ?_, ?_, ?_⟩ <;> rintro rfl <;> first | (exfalso; omega) | (refine ⟨?_, ?_, ?_⟩ <;> first | rfl | exact (Nat.add_assoc _ _ _).symm | omega))
  (fun m u v hu hv => by
    have S := sec4 m u v hu hv
    unfold Back BackC; rw [S.s, S.w, S.M]; clear S; intro hs i h1 h2
    refine ⟨?_, ?_, ?_, ?_, ?_, ?_⟩ <;> rintro rfl <;> first | (exfalso; omega) | (refine ⟨?_, ?_, ?_⟩ <;> first | rfl | exact (Nat.add_assoc _ _ _).symm | omega))
  (fun m u v hv => by
    have S := sec5 m u v hv
    unfold Back BackC; rw [S.s, S.w, S.M]; clear S; intro hs i h1 h2
    refine ⟨?_, ?_, ?_, ?_, ?_, ?_⟩ <;> rintro rfl <;> first | (exfalso; omega) | (refine ⟨?_, ?_, ?_⟩ <;> first | rfl | exact (Nat.add_assoc _ _ _).symm | omega)) r g b hs i h1 h2
end Mine
end

section
open PySem PySem.W
set_option maxRecDepth 100000
namespace Mine
open Float64 (decode val V dist Right infMag pack sgn)

theorem fq_64 : Fq (Float64.ofInt 64) 64 := fq_const (n := 64) (by decide +kernel) (by rw [K_eq]; decide +kernel)
theorem fq_int {i : Nat} (h : i ≤ 5) : Fq (Float64.ofInt (i : Int)) (i : Rat) := by
  rcases six_of h with rfl | rfl | rfl | rfl | rfl | rfl
  · exact fq_const (n := 0) (by decide +kernel) (by rw [K_eq]; decide +kernel)
  · exact fq_const (n := 1) (by decide +kernel) (by rw [K_eq]; decide +kernel)
  · exact fq_const (n := 2) (by decide +kernel) (by rw [K_eq]; decide +kernel)
  · exact fq_const (n := 3) (by decide +kernel) (by rw [K_eq]; decide +kernel)
  · exact fq_const (n := 4) (by decide +kernel) (by rw [K_eq]; decide +kernel)
  · exact fq_const (n := 5) (by decide +kernel) (by rw [K_eq]; decide +kernel)
theorem frac_col {c : Nat} : fracF (c : Int) 64 = Rf c 64 := by
  unfold fracF Rf
  have h : decide ((c : Int) < 0) = false := decide_eq_false (by simp)
  rw [h]; rfl
theorem frac_six {c : Nat} : fracF (c : Int) 6 = Rf c 6 := by
  unfold fracF Rf
  have h : decide ((c : Int) < 0) = false := decide_eq_false (by omega)
  rw [h]; rfl
theorem back_near {x : UInt64} {c : Nat} {e : Rat} (hc : c ≤ 40) (h : Ap x ((c : Rat) / 64) e) (he0 : 0 ≤ e) (he : e ≤ 1 / 1000) : fin? (backF x) = true ∧ truncF (backF x) = c := by
  have e0 := eps_pos
  have e1 := eps_le
  have c0 : (0 : Rat) ≤ (c : Rat) := by exact_mod_cast Nat.zero_le c
  have c1 : (c : Rat) ≤ 40 := by exact_mod_cast hc
  have a1 := h.mul 1 64 fq_64.ap (by grind) (by grind) (by rfl) (by rfl) (by grind)
  have a2 := a1.add fq_half.ap (by grind) (by grind) (by grind)
  obtain ⟨z, f, z1, z2⟩ := a2
  have := trunc_fq f (n := c) (by grind) (by grind)
  exact ⟨this.2, this.1⟩
theorem tail_ok {y : UInt64} {u M c : Nat} (hM : 1 ≤ M) (hM40 : M ≤ 40) (hc : c + u = M) (h : Ap y ((u : Rat) / (M : Rat)) (40 * eps)) :
    fin? (backF (Float64.mul (Rf M 64) (Float64.sub F1 y))) = true ∧ truncF (backF (Float64.mul (Rf M 64) (Float64.sub F1 y))) = c := by
  have e0 := eps_pos
  have e1 := eps_le
  have g1 := frac_le hM (show u ≤ M by (clear h hM40 hM; (subst_vars; lia)))
  have g0 := frac_nn (a := u) hM
  have gm := frac_mul (a := u) hM
  have m1 := cast_pos hM
  have m40 : (M : Rat) ≤ 40 := by exact_mod_cast hM40
  have hcu : (c : Rat) + (u : Rat) = (M : Rat) := by exact_mod_cast hc
  have a1 := fq_F1.ap.sub h (by grind) (by grind) (by grind)
  have a2 := (col_fq (c := M) (by lia)).ap.mul 1 1 a1 (by grind) (by grind) (by grind) (by grind) (by grind)
  refine back_near (e := 50 * eps) (by lia) ?_ (by grind) (by grind)
  have ev : (M : Rat) / 64 * (1 - (u : Rat) / (M : Rat)) = (c : Rat) / 64 := by
    generalize (u : Rat) / (M : Rat) = q at *
    grind
  rw [ev] at a2
  exact a2.weaken (by grind)
theorem Ap.mul11 {x y : UInt64} {p q : Rat} (hx : Ap x p eps) (hy : Ap y q (33 * eps)) (p0 : 0 ≤ p) (p1 : p ≤ 1) (q0 : 0 ≤ q) (q1 : q ≤ 1) : Ap (Float64.mul x y) (p * q) (40 * eps) := by
  have e0 := eps_pos
  have e1 := eps_le
  have e2 : eps * eps ≤ eps * 1 := Rat.mul_le_mul_of_nonneg_left (by grind) (Rat.le_of_lt e0)
  have e3 : eps * eps ≤ eps * (1 / 1000000000000) := Rat.mul_le_mul_of_nonneg_left e1 (Rat.le_of_lt e0)
  exact (hx.mul 1 1 hy p0 p1 q0 q1 (by (clear e3; grind))).weaken (by grind)
theorem floor6 {z : Rat} (h0 : 0 ≤ z) (h6 : z < 6) : ∃ i : Nat, i ≤ 5 ∧ (i : Rat) ≤ z ∧ z < (i : Rat) + 1 := by
  by_cases h1 : z < 1
  · exact ⟨0, by decide, by omega, by grind⟩
  by_cases h2 : z < 2
  · exact ⟨1, by decide, by grind, by grind⟩
  by_cases h3 : z < 3
  · exact ⟨2, by decide, by grind, by grind⟩
  by_cases h4 : z < 4
  · exact ⟨3, by decide, by grind, by grind⟩
  by_cases h5 : z < 5
  · exact ⟨4, by decide, by grind, by grind⟩
  · exact ⟨5, by decide, by grind, by grind⟩
noncomputable def hueN (r g b : Nat) : UInt64 := if sp3 r g b = 0 then F0 else hue3 r g b
theorem hue_nn {r g b : Nat} (hr : r ≤ 40) (hg : g ≤ 40) (hb : b ≤ 40) (hs : 1 ≤ sp3 r g b) : ∃ z, Fq (Float64.mul (hue3 r g b) F6) z ∧ 0 ≤ z ∧ (wm3 r g b : Rat) / (sp3 r g b : Rat) - 30 * eps ≤ z ∧ z ≤ (wm3 r g b : Rat) / (sp3 r g b : Rat) + 30 * eps := by
  have e0 := eps_pos
  have e1 := eps_le
  have d := dat3 hr hg hb hs
  by_cases h0 : wm3 r g b = 0
  · have hz : hue3 r g b = F0 := by
      have := wm_zero d h0
      unfold hue3
      rw [this.1, this.2.1, this.2.2]
      exact hue_zero hs
    rw [hz, h0]
    have : Float64.mul F0 F6 = F0 := by decide +kernel
    rw [this]
    refine ⟨0, fq_F0, by rfl, ?_, ?_⟩ <;> (have : ((0 : Nat) : Rat) = 0 := rfl) <;> rw [this] <;> grind
  · have a := hue_ap d
    have hw := wm_lt d
    have ap : 1 ≤ wm3 r g b := by lia
    have g1 : (wm3 r g b : Rat) / (6 * (sp3 r g b : Rat)) = (wm3 r g b : Rat) / (sp3 r g b : Rat) / 6 := by
      have := cast_pos hs
      have : (sp3 r g b : Rat) ≠ 0 := by grind
      grind
    have g2 : 1 / 40 ≤ (wm3 r g b : Rat) / (sp3 r g b : Rat) := by
      have := frac_gap hs d.s40 (show 0 < wm3 r g b by assumption)
      have e : ((0 : Nat) : Rat) / (sp3 r g b : Rat) = 0 := by have : ((0 : Nat) : Rat) = 0 := rfl
                                                               rw [this]; grind
      grind
    have g3 : (wm3 r g b : Rat) / (sp3 r g b : Rat) ≤ 6 := by
      refine Rat.le_of_mul_le_mul_right (c := (sp3 r g b : Rat)) ?_ (cast_pos hs)
      rw [frac_mul hs]
      have : wm3 r g b ≤ 6 * sp3 r g b := by unfold wm3; lia
      exact_mod_cast this
    change Ap (hue3 r g b) ((wm3 r g b : Rat) / _) _ at a
    rw [g1] at a
    have a2 := a.mul 1 6 fq_F6.ap (by grind) (by (clear g1; grind)) (by rfl) (by rfl) (by grind)
    obtain ⟨z, f, z1, z2⟩ := a2
    exact ⟨z, f, by (clear g1; grind), by grind, by grind⟩
theorem size_ng {r g b : Nat} {n : Int} (hr : r ≤ 40) (hg : g ≤ 40) (hb : b ≤ 40) (hs : 1 ≤ sp3 r g b) : SizeOk (r : Int) (g : Int) (b : Int) ⟨hue3 r g b, n, r, g, b⟩ false := by
  have e0 := eps_pos
  have e1 := eps_le
  have hm := mx_le hr hg hb
  have hmn := mn_mx r g b
  have hsm : sp3 r g b ≤ mx3 r g b := Nat.sub_le _ _
  have hM1 : 1 ≤ mx3 r g b := Nat.le_trans hs hsm
  have d := dat3 hr hg hb hs
  obtain ⟨z, fz, z0, z1, z2⟩ := hue_nn hr hg hb hs
  have hw6 : wm3 r g b < 6 * sp3 r g b := wm_lt d
  have sp := cast_pos hs
  have hwz : (wm3 r g b : Rat) / (sp3 r g b : Rat) * (sp3 r g b : Rat) = (wm3 r g b : Rat) := frac_mul hs
  have s40 : (sp3 r g b : Rat) ≤ 40 := by exact_mod_cast d.s40
  have gap : ∀ j : Nat, wm3 r g b < j * sp3 r g b → (wm3 r g b : Rat) / (sp3 r g b : Rat) + 1 / 40 ≤ (j : Rat) := by
    intro j hj
    refine Rat.le_of_mul_le_mul_right (c := (sp3 r g b : Rat)) ?_ sp
    rw [Rat.add_mul, hwz]
    have : (wm3 r g b : Rat) + 1 ≤ (j : Rat) * (sp3 r g b : Rat) := by exact_mod_cast hj
    grind
  have gap2 : ∀ j : Nat, j * sp3 r g b < wm3 r g b → (j : Rat) + 1 / 40 ≤ (wm3 r g b : Rat) / (sp3 r g b : Rat) := by
    intro j hj
    refine Rat.le_of_mul_le_mul_right (c := (sp3 r g b : Rat)) ?_ sp
    rw [Rat.add_mul, hwz]
    have : (j : Rat) * (sp3 r g b : Rat) + 1 ≤ (wm3 r g b : Rat) := by exact_mod_cast hj
    grind
  have z6 : z < 6 := by
    have := gap 6 hw6
    have e : ((6 : Nat) : Rat) = 6 := rfl
    rw [e] at this
    grind
  obtain ⟨i, hi5, iz, zi⟩ := floor6 z0 z6
  have tr := trunc_fq fz iz zi
  have lo : i * sp3 r g b ≤ wm3 r g b := by
    rcases Nat.lt_or_ge (wm3 r g b) (i * sp3 r g b) with h | h
    · have := gap i h; grind
    · exact h
  have hi : wm3 r g b ≤ (i + 1) * sp3 r g b := by
    rcases Nat.lt_or_ge ((i + 1) * sp3 r g b) (wm3 r g b) with h | h
    · have := gap2 (i + 1) h
      rw [Rat.natCast_add] at this
      have e : ((1 : Nat) : Rat) = 1 := rfl
      rw [e] at this
      grind
    · exact h
  have bk := back3 hs lo hi
  unfold BackC at bk
  -- the share
  have hS := Rf_ap (a := sp3 r g b) (s := mx3 r g b) hM1 (by lia)
  have S1 := frac_le hM1 hsm
  have S0 := frac_gap hM1 hm (show 0 < sp3 r g b by assumption)
  have S0' : 1 / 40 ≤ (sp3 r g b : Rat) / (mx3 r g b : Rat) := by
    have e : ((0 : Nat) : Rat) / (mx3 r g b : Rat) = 0 := by have : ((0 : Nat) : Rat) = 0 := rfl
                                                             rw [this]; grind
    grind
  have hgrey : (Float64.cmp (Rf (sp3 r g b) (mx3 r g b)) F0 == some .eq) = false := by
    obtain ⟨q, f, q1, q2⟩ := hS
    rw [cmp_eq f fq_F0]
    exact decide_eq_false (by (clear S0; grind))
  -- f
  have hu : ∃ uq, uq + i * sp3 r g b = wm3 r g b := ⟨wm3 r g b - i * sp3 r g b, by simp [*]⟩
  obtain ⟨uq, huq⟩ := hu
  have hut : ∃ ut, ut + wm3 r g b = (i + 1) * sp3 r g b := ⟨(i + 1) * sp3 r g b - wm3 r g b, by simp [*]⟩
  obtain ⟨ut, hut⟩ := hut
  have hqt : uq + ut = sp3 r g b := by rw [Nat.add_mul, Nat.one_mul] at hut; lia
  have zap : Ap (Float64.mul (hue3 r g b) F6) ((wm3 r g b : Rat) / (sp3 r g b : Rat)) (30 * eps) := ⟨z, fz, z1, z2⟩
  have hq : (wm3 r g b : Rat) / (sp3 r g b : Rat) - (i : Rat) = (uq : Rat) / (sp3 r g b : Rat) := by
    have h1 : (uq : Rat) + (i : Rat) * (sp3 r g b : Rat) = (wm3 r g b : Rat) := by exact_mod_cast huq
    have : (sp3 r g b : Rat) ≠ 0 := by grind
    grind
  have q1 := frac_le hs (show uq ≤ sp3 r g b by lia)
  have q0 := frac_nn (a := uq) hs
  have fap := zap.sub (fq_int hi5).ap (by rw [hq]; grind) (by rw [hq]; grind) (by grind)
  rw [hq] at fap
  have hqt' : (1 : Rat) - (uq : Rat) / (sp3 r g b : Rat) = (ut : Rat) / (sp3 r g b : Rat) := by
    have h1 : (uq : Rat) + (ut : Rat) = (sp3 r g b : Rat) := by exact_mod_cast hqt
    have : (sp3 r g b : Rat) ≠ 0 := by grind
    grind
  have t1 := frac_le hs (show ut ≤ sp3 r g b by lia)
  have t0 := frac_nn (a := ut) hs
  have tap := fq_F1.ap.sub fap (by grind) (by grind) (by grind)
  rw [hqt'] at tap
  have prod : ∀ u : Nat, (sp3 r g b : Rat) / (mx3 r g b : Rat) * ((u : Rat) / (sp3 r g b : Rat)) = (u : Rat) / (mx3 r g b : Rat) := by
    intro u
    have n1 : (sp3 r g b : Rat) ≠ 0 := by grind
    have n2 : (mx3 r g b : Rat) ≠ 0 := by have := cast_pos hM1; grind
    (clear hqt'; grind)
  have S00 : 0 ≤ (sp3 r g b : Rat) / (mx3 r g b : Rat) := frac_nn hM1
  have yq := hS.mul11 (fap.weaken (show _ ≤ 33 * eps by grind)) S00 S1 q0 q1
  have yt := hS.mul11 (tap.weaken (show _ ≤ 33 * eps by grind)) S00 S1 t0 t1
  rw [prod] at yq yt
  have yp := hS.weaken (show _ ≤ 40 * eps by grind)
  have bv := back_near (e := 0) hm (col_fq (c := mx3 r g b) (by lia)).ap (by grind) (by grind)
  have hsv := hsv_ng hr hg hb hs
  have jm : ((i : Int)).fmod 6 = (i : Int) := by rw [Int.fmod_eq_emod_of_nonneg _ (by simp)]; lia
  have hfr : ∀ c : Nat, c ≤ 40 → ¬ Float64.isInf (fracF (c : Int) 64) = true := fun c hc => by rw [frac_col]; exact isInf_fq (col_fq (by lia))
  refine ⟨hfr r hr, hfr g hg, hfr b hb, ?_, ?_⟩
  · intro _
    rw [frac_col, frac_col, frac_col, max_col hr hg hb, min_col hr hg hb, sub_col hmn (by (clear bv; omega))]
    have hp : ∀ c : Nat, 1 ≤ c → c ≤ 100 → ¬ Float64.isZero (Rf c 64) = true := by
      intro c h1 h2
      rw [isZero_fq (col_fq h2)]
      have := cast_pos h1
      simp only [decide_eq_true_eq]
      grind
    exact ⟨hp _ hM1 (by omega), hp _ hs (by grind)⟩
  · rw [frac_col, frac_col, frac_col, hsv]
    have tri : truncF (Float64.mul (hue3 r g b) F6) = (i : Int) := tr.1
    refine ⟨Rf (sp3 r g b) (mx3 r g b), Rf (mx3 r g b) 64, ?_⟩
    have c0 := six_of hi5
    simp only [tri]
    have uq' : wm3 r g b - i * sp3 r g b = uq := by grind
    have ut' : (i + 1) * sp3 r g b - wm3 r g b = ut := by grind
    rw [uq', ut'] at bk
    clear uq' ut' huq hut lo hi gap gap2 iz zi hq
    have hL : ∀ a : Int, a = (i : Int) → rgbC (hue3 r g b) (Rf (sp3 r g b) (mx3 r g b)) (Rf (mx3 r g b) 64) a =
        (let f := Float64.sub (Float64.mul (hue3 r g b) F6) (Float64.ofInt i)
         let p := Float64.mul (Rf (mx3 r g b) 64) (Float64.sub F1 (Rf (sp3 r g b) (mx3 r g b)))
         let q := Float64.mul (Rf (mx3 r g b) 64) (Float64.sub F1 (Float64.mul (Rf (sp3 r g b) (mx3 r g b)) f))
         let t := Float64.mul (Rf (mx3 r g b) 64) (Float64.sub F1 (Float64.mul (Rf (sp3 r g b) (mx3 r g b)) (Float64.sub F1 f)))
         let v := Rf (mx3 r g b) 64
         if (i : Int) = 0 then [v, t, p] else if (i : Int) = 1 then [q, v, p] else if (i : Int) = 2 then [p, v, t] else if (i : Int) = 3 then [p, q, v] else if (i : Int) = 4 then [t, p, v] else [v, p, q]) := by
      rintro a rfl
      unfold rgbC
      rw [hgrey, if_neg Bool.false_ne_true]
      simp only [jm]
    rw [hL _ rfl]
    simp only
    have fin : ∀ (x0 x1 x2 : UInt64), (fin? (backF x0) = true ∧ truncF (backF x0) = (r : Int)) → (fin? (backF x1) = true ∧ truncF (backF x1) = (g : Int)) → (fin? (backF x2) = true ∧ truncF (backF x2) = (b : Int)) →
        (∃ y0 y1 y2, True ∧ false = (Float64.cmp (Rf (sp3 r g b) (mx3 r g b)) F0 == some .eq) ∧
          (¬ (Float64.cmp (Rf (sp3 r g b) (mx3 r g b)) F0 == some .eq) = true → fin? (Float64.mul (hue3 r g b) F6) = true ∧ ¬ Float64.isInf (Float64.ofInt (i : Int)) = true) ∧ fin? (Float64.mul (hue3 r g b) F6) = true ∧
          [x0, x1, x2] = [y0, y1, y2] ∧ (∀ x ∈ [y0, y1, y2], fin? (backF x) = true) ∧ truncF (backF y0) = (r : Int) ∧ truncF (backF y1) = (g : Int) ∧ truncF (backF y2) = (b : Int)) := by
      intro x0 x1 x2 a0 a1 a2
      refine ⟨x0, x1, x2, trivial, hgrey.symm, fun _ => ⟨tr.2, isInf_fq (fq_int hi5)⟩, tr.2, rfl, ?_, a0.2, a1.2, a2.2⟩
      intro x hx
      simp only [List.mem_cons, List.not_mem_nil, or_false] at hx
      rcases hx with rfl | rfl | rfl
      · exact a0.1
      · exact a1.1
      · exact a2.1
    obtain ⟨k0, k1, k2, k3, k4, k5⟩ := bk
    have vv : ∀ c : Nat, c = mx3 r g b → fin? (backF (Rf (mx3 r g b) 64)) = true ∧ truncF (backF (Rf (mx3 r g b) 64)) = (c : Int) := fun c hc => by rw [hc]; exact bv
    rcases c0 with rfl | rfl | rfl | rfl | rfl | rfl
    · obtain ⟨j1, j2, j3⟩ := k0 rfl
      rw [if_pos (by decide)]
      exact fin _ _ _ (vv _ j1) (tail_ok hM1 hm j2 yt) (tail_ok hM1 hm j3 yp)
    · obtain ⟨j1, j2, j3⟩ := k1 rfl
      rw [if_neg (by decide), if_pos (by decide)]
      exact fin _ _ _ (tail_ok hM1 hm j1 yq) (vv _ j2) (tail_ok hM1 hm j3 yp)
    · obtain ⟨j1, j2, j3⟩ := k2 rfl
      rw [if_neg (by decide), if_neg (by decide), if_pos (by decide)]
      exact fin _ _ _ (tail_ok hM1 hm j1 yp) (vv _ j2) (tail_ok hM1 hm j3 yt)
    · obtain ⟨j1, j2, j3⟩ := k3 rfl
      rw [if_neg (by decide), if_neg (by decide), if_neg (by decide), if_pos (by decide)]
      exact fin _ _ _ (tail_ok hM1 hm j1 yp) (tail_ok hM1 hm j2 yq) (vv _ j3)
    · obtain ⟨j1, j2, j3⟩ := k4 rfl
      rw [if_neg (by decide), if_neg (by decide), if_neg (by decide), if_neg (by decide), if_pos (by decide)]
      exact fin _ _ _ (tail_ok hM1 hm j1 yt) (tail_ok hM1 hm j2 yp) (vv _ j3)
    · obtain ⟨j1, j2, j3⟩ := k5 rfl
      rw [if_neg (by decide), if_neg (by decide), if_neg (by decide), if_neg (by decide), if_neg (by decide)]
      exact fin _ _ _ (vv _ j1) (tail_ok hM1 hm j2 yp) (tail_ok hM1 hm j3 yq)
theorem size_grey {r g b : Nat} {n : Int} (hr : r ≤ 40) (hg : g ≤ 40) (hb : b ≤ 40) (hs : sp3 r g b = 0) : SizeOk (r : Int) (g : Int) (b : Int) ⟨F0, n, r, g, b⟩ true := by
  have hm := mx_le hr hg hb
  obtain ⟨hmn, er, eg, eb⟩ := sp0 hs
  have bv := back_near (e := 0) hm (col_fq (c := mx3 r g b) (by lia)).ap (by grind) (by grind)
  have hfr : ∀ c : Nat, c ≤ 40 → ¬ Float64.isInf (fracF (c : Int) 64) = true := fun c hc => by rw [frac_col]; exact isInf_fq (col_fq (by lia))
  have heq : (Float64.cmp (fmin3 (Rf r 64) (Rf g 64) (Rf b 64)) (fmax3 (Rf r 64) (Rf g 64) (Rf b 64)) == some .eq) = true := by
    rw [max_col hr hg hb, min_col hr hg hb, eq_col (by lia) hm]
    exact decide_eq_true hmn
  refine ⟨hfr r hr, hfr g hg, hfr b hb, ?_, ?_⟩
  · intro h
    rw [frac_col, frac_col, frac_col] at h
    exact absurd heq h
  · rw [frac_col, frac_col, frac_col]
    have h0 : (Float64.cmp F0 F0 == some .eq) = true := by decide +kernel
    have hv : hsvC (Rf r 64) (Rf g 64) (Rf b 64) = [F0, F0, Rf (mx3 r g b) 64] := by
      unfold hsvC
      rw [if_pos heq, max_col hr hg hb]
    refine ⟨F0, Rf (mx3 r g b) 64, Rf (mx3 r g b) 64, Rf (mx3 r g b) 64, Rf (mx3 r g b) 64, hv, h0.symm, fun h => absurd h0 h, (show fin? (Float64.mul F0 F6) = true by decide +kernel), ?_, ?_, ?_, ?_, ?_⟩
    · unfold rgbC
      rw [if_pos h0]
    · intro x hx
      simp only [List.mem_cons, List.not_mem_nil, or_false, or_self] at hx
      rw [hx]; exact bv.1
    · rw [bv.2]; exact congrArg _ er.symm
    · rw [bv.2]; exact congrArg _ eg.symm
    · rw [bv.2]; exact congrArg _ eb.symm
end Mine
end

section
open PySem PySem.W
set_option maxRecDepth 100000
namespace Mine

noncomputable def intL (ns : List Nat) : List Int := ns.map fun (n : Nat) => (n : Int)
noncomputable def Ld.n (ns : List Nat) (b : Nat) : Ld := ⟨intL ns, b⟩
noncomputable def quot (ns : List Nat) (t : Nat) : Nat := (ns.map (· / t)).sum
/-- the column -/
noncomputable def lev (ns : List Nat) (b t : Nat) : Nat := b + t * (quot ns t + ns.length)
noncomputable def cntOf (ns : List Nat) : List Int := ns.foldl bump []

theorem colTo_nat {t : Nat} (ht : 1 ≤ t) : ∀ (ns : List Nat) (q : Nat), colTo (t : Int) (intL ns) ((t * q : Nat) : Int) = ((t * (q + quot ns t + ns.length) : Nat) : Int)
  | [], q => by simp [intL, colTo, quot]
  | r :: ns, q => by
    have ih := colTo_nat ht ns (q + r / t + 1)
    show colTo (t : Int) (intL ns) ((((t * q : Nat) : Int) + (r : Int)).fdiv t * t + t) = _
    have e : (((t * q : Nat) : Int) + (r : Int)).fdiv t * t + t = ((t * (q + r / t + 1) : Nat) : Int) := by
      have e1 : ((t * q : Nat) : Int) + (r : Int) = ((t * q + r : Nat) : Int) := by simp
      rw [e1, Int.fdiv_eq_ediv_of_nonneg _ (Int.natCast_nonneg _), ← Int.natCast_ediv, Nat.add_comm (t * q) r, Nat.add_mul_div_left _ _ (by assumption)]
      have e2 : ((r / t + q : Nat) : Int) * (t : Int) + (t : Int) = (((r / t + q) * t + t : Nat) : Int) := by simp
      rw [e2]
      congr 1
      rw [Nat.mul_comm, Nat.mul_add, Nat.mul_add, Nat.mul_add]; lia
    rw [e, ih]
    congr 2
    simp only [quot, List.map_cons, List.sum_cons, List.length_cons]; lia
theorem col_lev {ns : List Nat} {b t : Nat} (ht : 1 ≤ t) : (Ld.n ns b).col (t : Int) = (lev ns b t : Int) := by
  have := colTo_nat ht ns 0
  show colTo (t : Int) (intL ns) 0 + (b : Int) = _
  rw [Nat.mul_zero] at this
  rw [show (0 : Int) = ((0 : Nat) : Int) from rfl, this]
  unfold lev
  simp only [Nat.zero_add]
  lia

theorem scan_sp : ∀ (k : Nat) (t : List Nat) (st : WSt), scanW (List.replicate k 32 ++ t) st = scanW t ⟨st.n + k, st.nt, st.b + k, st.cnt⟩
  | 0, t, st => by simp
  | k + 1, t, st => by
    rw [List.replicate_succ, List.cons_append]
    show (if 32 = 32 ∨ 32 = 9 then scanW (List.replicate k 32 ++ t) (stepW 32 st) else st) = _
    rw [if_pos (.inl rfl), scan_sp k]
    show scanW t ⟨st.n + 1 + k, st.nt, st.b + 1 + k, st.cnt⟩ = _
    congr 2 <;> lia
theorem scan_runs : ∀ (ns : List Nat) (t : List Nat) (st : WSt), st.b = 0 → scanW (((intL ns).flatMap fun r => List.replicate r.toNat 32 ++ [9]) ++ t) st = scanW t ⟨st.n + (ns.sum + ns.length), st.nt + ns.length, 0, ns.foldl bump st.cnt⟩
  | [], t, st, h => by
    obtain ⟨n, nt, b, cnt⟩ := st
    simp only at h
    subst h
    simp [intL]
  | r :: ns, t, st, h => by
    show scanW ((((List.replicate (r : Int).toNat 32 ++ [9]) ++ ((intL ns).flatMap fun r => List.replicate r.toNat 32 ++ [9]))) ++ t) st = _
    rw [List.append_assoc, List.append_assoc, scan_sp]
    show (if 9 = 32 ∨ 9 = 9 then scanW (((intL ns).flatMap fun r => List.replicate r.toNat 32 ++ [9]) ++ t) (stepW 9 _) else _) = _
    rw [if_pos (.inr rfl)]
    rw [scan_runs ns t _ rfl]
    show scanW t ⟨st.n + (r : Int).toNat + 1 + (ns.sum + ns.length), st.nt + 1 + ns.length, 0, ns.foldl bump (bump st.cnt (st.b + (r : Int).toNat))⟩ = _
    rw [h, Int.toNat_natCast, Nat.zero_add, List.foldl_cons, List.sum_cons, List.length_cons]
    congr 2 <;> lia
theorem scan_all (ns : List Nat) (b : Nat) : scanW (textL (intL ns) (b : Int)) ⟨0, 0, 0, []⟩ = ⟨ns.sum + ns.length + b, ns.length, b, cntOf ns⟩ := by
  unfold textL
  rw [scan_runs ns _ _ rfl, scan_sp]
  show (if 120 = 32 ∨ 120 = 9 then _ else _) = _
  rw [if_neg (by decide)]
  simp only [Int.toNat_natCast, Nat.zero_add]
  rfl
theorem wsp_n (ns : List Nat) (b : Nat) : (Ld.n ns b).w = ⟨(ns.sum + ns.length + b : Nat), ns.length, cntOf ns, b, decide ((cntOf ns).length ≤ 1)⟩ := by
  show wspOf (textL (intL ns) (b : Int)) = _
  unfold wspOf
  rw [scan_all]

-- COUNTS
theorem bump_get (cnt : List Int) (b j : Nat) : (bump cnt b).getD j 0 = cnt.getD j 0 + (if j = b then 1 else 0) := by
  unfold bump
  simp only
  have pad : ∀ j, (if cnt.length ≤ b then cnt ++ List.replicate (b - cnt.length + 1) 0 else cnt).getD j 0 = cnt.getD j 0 := by
    intro j
    split
    · rw [List.getD_eq_getElem?_getD, List.getD_eq_getElem?_getD]
      by_cases h : j < cnt.length
      · rw [List.getElem?_append_left h]
      · rw [List.getElem?_append_right (by lia), List.getElem?_eq_none (by omega : cnt.length ≤ j), List.getElem?_replicate]
        split <;> rfl
    · rfl
  have hl : b < (if cnt.length ≤ b then cnt ++ List.replicate (b - cnt.length + 1) 0 else cnt).length := by
    split
    · rw [List.length_append, List.length_replicate]; grind
    · lia
  rw [pad b]
  have p := pad j
  generalize (if cnt.length ≤ b then cnt ++ List.replicate (b - cnt.length + 1) 0 else cnt) = c at *
  rw [List.getD_eq_getElem?_getD, List.getElem?_set]
  by_cases hj : b = j
  · subst hj
    rw [if_pos rfl, if_pos hl, if_pos rfl]; rfl
  · rw [if_neg hj, if_neg (fun h => hj h.symm), Int.add_zero, ← p, List.getD_eq_getElem?_getD]
theorem bump_length (cnt : List Int) (b : Nat) : (bump cnt b).length = max cnt.length (b + 1) := by
  unfold bump
  simp only [List.length_set]
  split
  · rw [List.length_append, List.length_replicate]; grind
  · lia
theorem cnt_get : ∀ (ns : List Nat) (c : List Int) (j : Nat), (ns.foldl bump c).getD j 0 = c.getD j 0 + (ns.count j : Int)
  | [], c, j => by simp
  | r :: ns, c, j => by
    rw [List.foldl_cons, cnt_get ns, bump_get, List.count_cons]
    by_cases h : j = r
    · subst h; simp; lia
    · rw [if_neg h, if_neg (by simpa using fun e => h e.symm)]; simp
theorem cnt_len : ∀ (ns : List Nat) (c : List Int) (k : Nat), (ns.foldl bump c).length ≤ k ↔ c.length ≤ k ∧ ∀ r ∈ ns, r < k
  | [], c, k => by simp
  | r :: ns, c, k => by
    rw [List.foldl_cons, cnt_len ns, bump_length]
    simp only [List.mem_cons, forall_eq_or_imp]
    constructor
    · rintro ⟨a, b⟩; exact ⟨by grind, by lia, b⟩
    · rintro ⟨a, b, c⟩; exact ⟨by lia, c⟩
theorem cntOf_get (ns : List Nat) (j : Nat) : (cntOf ns).getD j 0 = (ns.count j : Int) := by
  unfold cntOf; rw [cnt_get]; simp
theorem cntOf_len (ns : List Nat) (k : Nat) : (cntOf ns).length ≤ k ↔ ∀ r ∈ ns, r < k := by
  unfold cntOf; rw [cnt_len]; simp
/-- a weighted count -/
noncomputable def rsum (f : Nat → Nat) (g : Nat → Nat) : Nat → Nat
  | 0 => 0
  | n + 1 => rsum f g n + f n * g n
theorem rsum_add (f : Nat → Nat) (ns : List Nat) (r : Nat) : ∀ n, rsum f (fun j => (r :: ns).count j) n = rsum f (fun j => ns.count j) n + (if r < n then f r else 0)
  | 0 => rfl
  | n + 1 => by
    unfold rsum
    rw [rsum_add f ns r n, List.count_cons]
    by_cases h : r = n
    · subst h
      simp [Nat.mul_add]; lia
    · have hb : (r == n) = false := by simpa using h
      rw [hb, if_neg Bool.false_ne_true, Nat.add_zero]
      by_cases h2 : r < n
      · rw [if_pos h2, if_pos (by lia)]; lia
      · rw [if_neg h2, if_neg (by lia)]; rfl
theorem rsum_list (f : Nat → Nat) : ∀ (ns : List Nat) (n : Nat), (∀ r ∈ ns, r < n) → rsum f (fun j => ns.count j) n = (ns.map f).sum
  | [], n, _ => by
    have : ∀ n, rsum f (fun j => ([] : List Nat).count j) n = 0 := by
      intro n
      induction n with
      | zero => rfl
      | succ n ih => unfold rsum; rw [ih]; simp
    rw [this]; rfl
  | r :: ns, n, h => by
    rw [rsum_add, rsum_list f ns n (fun x hx => h x (.tail _ hx)), if_pos (h r (.head _)), List.map_cons, List.sum_cons]; lia
theorem rsum_low {t : Nat} (g : Nat → Nat) : ∀ n, n ≤ t → rsum (· / t) g n = 0
  | 0, _ => rfl
  | n + 1, h => by
    unfold rsum
    rw [rsum_low g n (by lia), Nat.div_eq_of_lt (by assumption)]; simp
theorem ilTo_rsum {t : Nat} (ht : 1 ≤ t) (ns : List Nat) : ∀ i, ilTo (cntOf ns) (t : Int) i = (rsum (· / t) (fun j => ns.count j) (t + i) : Int)
  | 0 => by
    rw [Nat.add_zero, rsum_low _ t (Nat.le_refl _)]; rfl
  | i + 1 => by
    unfold ilTo
    rw [ilTo_rsum ht ns i, ← Nat.add_assoc]
    have e : (t : Int) + (i : Int) = ((t + i : Nat) : Int) := by simp
    rw [e, Int.toNat_natCast, cntOf_get, Int.fdiv_eq_ediv_of_nonneg _ (Int.natCast_nonneg _), ← Int.natCast_ediv, ← Int.natCast_mul, ← Int.natCast_add]
    rfl
theorem lvl_lev {ns : List Nat} {b t : Nat} (ht : 1 ≤ t) : (Ld.n ns b).w.lvl (t : Int) = (lev ns b t : Int) := by
  rw [wsp_n]
  unfold Wsp.lvl
  simp only
  rw [ilTo_rsum ht]
  have h : ∀ r ∈ ns, r < t + (((cntOf ns).length : Int) - (t : Int)).toNat := by
    intro r hr
    have := (cntOf_len ns (cntOf ns).length).mp (Nat.le_refl _) r hr
    lia
  rw [rsum_list _ ns _ h]
  unfold lev quot
  simp

-- THE LONGEST RUN
noncomputable def mxN (ns : List Nat) (b : Nat) : Nat := ns.foldr max b
theorem mxN_le (ns : List Nat) (b k : Nat) : mxN ns b ≤ k ↔ b ≤ k ∧ ∀ r ∈ ns, r ≤ k := by
  unfold mxN
  induction ns with
  | nil => simp
  | cons r ns ih =>
    rw [List.foldr_cons]
    simp only [List.mem_cons, forall_eq_or_imp]
    constructor
    · intro h
      have := ih.mp (by (clear ih; lia))
      exact ⟨this.1, by lia, this.2⟩
    · rintro ⟨a, b, c⟩
      have := ih.mpr ⟨a, c⟩
      (clear ih; lia)
theorem mx_n (ns : List Nat) (b : Nat) : (Ld.n ns b).mx = (mxN ns b : Int) := by
  show (intL ns).foldr max (b : Int) = _
  unfold mxN intL
  induction ns with
  | nil => rfl
  | cons r ns ih => rw [List.map_cons, List.foldr_cons, List.foldr_cons, ih]; omega
theorem lon_n (ns : List Nat) (b : Nat) : (Ld.n ns b).w.lon = (mxN ns b : Int) := by
  rw [wsp_n]
  unfold Wsp.lon
  simp only
  have h1 := (mxN_le ns b (mxN ns b)).mp (Nat.le_refl _)
  have h2 := (cntOf_len ns (mxN ns b + 1)).mpr fun r hr => Nat.lt_succ_of_le (h1.2 r hr)
  have h3 : mxN ns b ≤ max ((cntOf ns).length - 1) b := by
    rw [mxN_le]
    refine ⟨Nat.le_max_right _ _, fun r hr => ?_⟩
    have := (cntOf_len ns (cntOf ns).length).mp (Nat.le_refl _) r hr
    grind
  have h4 := h1.1
  omega
end Mine
end

section
open PySem PySem.W
set_option maxRecDepth 100000
namespace Mine

theorem quot_zero {ns : List Nat} {t : Nat} (h : ∀ r ∈ ns, r < t) : quot ns t = 0 := by
  unfold quot
  induction ns with
  | nil => rfl
  | cons r ns ih => rw [List.map_cons, List.sum_cons, ih (fun x hx => h x (.tail _ hx)), Nat.div_eq_of_lt (h r (.head _))]
theorem lev_far {ns : List Nat} {b t : Nat} (h : mxN ns b < t) : lev ns b t = b + t * ns.length ∧ b < t := by
  have h1 := (mxN_le ns b (mxN ns b)).mp (Nat.le_refl _)
  unfold lev
  rw [quot_zero fun r hr => by have := h1.2 r hr; lia, Nat.zero_add]
  exact ⟨rfl, by lia⟩
theorem lin_up {b b' k k' m : Nat} (hb : b < m) (hb' : b' < m) (h : b + m * k < b' + m * k') {t : Nat} (ht : m ≤ t) : b + t * k < b' + t * k' := by
  have hk : k ≤ k' := by
    rcases Nat.lt_or_ge k' k with h1 | h1
    · have : m * (k' + 1) ≤ m * k := Nat.mul_le_mul_left m h1
      rw [Nat.mul_add, Nat.mul_one] at this
      lia
    · exact h1
  obtain ⟨d, rfl⟩ := Nat.exists_eq_add_of_le ht
  have := Nat.mul_le_mul_left d hk
  rw [Nat.add_mul, Nat.add_mul]; lia
theorem less_n (ns ns' : List Nat) (b b' n : Nat) (hn : mxN ns b < n ∧ mxN ns' b' < n) : lessB (Ld.n ns b).w (Ld.n ns' b').w = true ↔ ∀ t, 1 ≤ t → t ≤ n → lev ns b t < lev ns' b' t := by
  have el : ∀ (ns : List Nat) b, (Ld.n ns b).w.n = (lev ns b 1 : Int) := by
    intro ns b
    rw [wsp_n]
    unfold lev quot
    have : (ns.map (· / 1)).sum = ns.sum := by congr 1; simp
    rw [this]; simp; lia
  have es : ∀ (ns : List Nat) b, (Ld.n ns b).w.simple = true ↔ ∀ r ∈ ns, r < 1 := by
    intro ns b
    rw [wsp_n]
    simp only [decide_eq_true_eq]
    exact cntOf_len ns 1
  have et : ∀ (ns : List Nat) b, (Ld.n ns b).w.nt = (ns.length : Int) := by intro ns b; rw [wsp_n]
  have lonw := lon_n ns b
  have lonv := lon_n ns' b'
  unfold lessB
  rw [el, el, et, et, lonw, lonv]
  have cut : (max (mxN ns b : Int) (mxN ns' b' : Int)).toNat = max (mxN ns b) (mxN ns' b') := by grind
  rw [cut]
  by_cases h1 : (lev ns' b' 1 : Int) ≤ (lev ns b 1 : Int)
  · rw [if_pos h1]
    constructor
    · intro h; cases h
    · intro h
      have := h 1 (by simp) (by lia)
      lia
  · rw [if_neg h1]
    have h1' : lev ns b 1 < lev ns' b' 1 := by lia
    by_cases h2 : ((Ld.n ns b).w.simple && (Ld.n ns' b').w.simple) = true
    · rw [if_pos h2]
      rw [Bool.and_eq_true, es, es] at h2
      have z : ∀ {ns : List Nat} {b : Nat} {t : Nat}, (∀ r ∈ ns, r < 1) → 1 ≤ t → lev ns b t = b + t * ns.length := by
        intro ns b t h ht
        unfold lev
        rw [quot_zero fun r hr => by have := h r hr; lia, Nat.zero_add]
      constructor
      · intro h t ht _
        have hle : ns.length ≤ ns'.length := by have := of_decide_eq_true h; (clear h; lia)
        rw [z h2.1 (by simp), z h2.2 (by omega)] at h1'
        rw [z h2.1 ht, z h2.2 ht]
        obtain ⟨d, rfl⟩ := Nat.exists_eq_add_of_le ht
        have := Nat.mul_le_mul_left d hle
        rw [Nat.add_mul, Nat.add_mul]; lia
      · intro h
        have := h n (by omega) (Nat.le_refl _)
        rw [z h2.1 (by omega), z h2.2 (by omega)] at this
        have b1 := (mxN_le ns' b' (mxN ns' b')).mp (Nat.le_refl _)
        refine decide_eq_true ?_
        rcases Nat.lt_or_ge ns'.length ns.length with h3 | h3
        · exfalso
          have : n * (ns'.length + 1) ≤ n * ns.length := Nat.mul_le_mul_left n h3
          rw [Nat.mul_add, Nat.mul_one] at this
          lia
        · simp [*]
    · rw [if_neg h2, List.all_eq_true]
      have ll : ∀ i : Nat, (2 : Int) + (i : Int) = ((2 + i : Nat) : Int) := fun i => by simp
      constructor
      · intro h
        have near : ∀ t, 1 ≤ t → t ≤ max (mxN ns b) (mxN ns' b') + 1 → lev ns b t < lev ns' b' t := by
          intro t ht1 ht2
          by_cases h3 : t = 1
          · subst h3; exact h1'
          · have := of_decide_eq_true (h (t - 2) (List.mem_range.mpr (by (clear cut; lia))))
            rw [ll, lvl_lev (by lia), lvl_lev (by omega)] at this
            have e : 2 + (t - 2) = t := by lia
            rw [e] at this
            lia
        intro t ht1 ht2
        by_cases h3 : t ≤ max (mxN ns b) (mxN ns' b') + 1
        · exact near t ht1 h3
        · have m0 := near (max (mxN ns b) (mxN ns' b') + 1) (by simp) (Nat.le_refl _)
          obtain ⟨f1, f2⟩ := lev_far (ns := ns) (b := b) (t := max (mxN ns b) (mxN ns' b') + 1) (by (clear cut; lia))
          obtain ⟨f3, f4⟩ := lev_far (ns := ns') (b := b') (t := max (mxN ns b) (mxN ns' b') + 1) (by (clear cut; lia))
          rw [f1, f3] at m0
          rw [(lev_far (ns := ns) (b := b) (t := t) (by (clear cut; lia))).1, (lev_far (ns := ns') (b := b') (t := t) (by (clear cut; lia))).1]
          exact lin_up f2 f4 m0 (by (clear cut; lia))
      · intro h i hi
        have hi' := List.mem_range.mp hi
        refine decide_eq_true ?_
        rw [ll, lvl_lev (by lia), lvl_lev (by omega)]
        have := h (2 + i) (by omega) (by (clear cut; lia))
        simp [*]
theorem six_c {c d : Nat → Nat} (c1 : c 1 + 2 * c 2 + 3 * c 3 + 4 * c 4 + 5 * c 5 = d 1 + 2 * d 2 + 3 * d 3 + 4 * d 4 + 5 * d 5) (c2 : c 2 + c 3 + 2 * c 4 + 2 * c 5 = d 2 + d 3 + 2 * d 4 + 2 * d 5) (c3 : c 3 + c 4 + c 5 = d 3 + d 4 + d 5) (c4 : c 4 + c 5 = d 4 + d 5) (c5 : c 5 = d 5)
    (h : c 0 + c 1 + c 2 + c 3 + c 4 + c 5 = d 0 + d 1 + d 2 + d 3 + d 4 + d 5) {j : Nat} (hj : j = 0 ∨ j = 1 ∨ j = 2 ∨ j = 3 ∨ j = 4 ∨ j = 5) : c j = d j := by
  rw [c5] at c1 c2 c3 c4 h
  have e4 : c 4 = d 4 := Nat.add_right_cancel c4
  rw [e4] at c1 c2 c3 h
  have e3 : c 3 = d 3 := Nat.add_right_cancel (Nat.add_right_cancel c3)
  rw [e3] at c1 c2 h
  have e2 : c 2 = d 2 := Nat.add_right_cancel (Nat.add_right_cancel (Nat.add_right_cancel c2))
  rw [e2] at c1 h
  have e1 : c 1 = d 1 := Nat.add_right_cancel (Nat.add_right_cancel (Nat.add_right_cancel (Nat.add_right_cancel c1)))
  rw [e1] at h
  have e0 : c 0 = d 0 := Nat.add_right_cancel (Nat.add_right_cancel (Nat.add_right_cancel (Nat.add_right_cancel (Nat.add_right_cancel h))))
  rcases hj with rfl | rfl | rfl | rfl | rfl | rfl
  · exact e0
  · exact e1
  · exact e2
  · exact e3
  · exact e4
  · exact c5
theorem eqW_n (ns ns' : List Nat) (b b' n : Nat) (hn : mxN ns b < n ∧ mxN ns' b' < n) (h5 : ∀ r ∈ ns, r ≤ 5) (h5' : ∀ r ∈ ns', r ≤ 5) : eqW (Ld.n ns b).w (Ld.n ns' b').w = true ↔ ∀ t, 1 ≤ t → t ≤ n → lev ns b t = lev ns' b' t := by
  have q6 : ∀ (ns : List Nat) (t : Nat), (∀ r ∈ ns, r ≤ 5) → quot ns t = rsum (· / t) (fun j => ns.count j) 6 := fun ns t h => (rsum_list (· / t) ns 6 (fun r hr => by have := h r hr; lia)).symm
  have l6 : ∀ (ns : List Nat), (∀ r ∈ ns, r ≤ 5) → ns.length = rsum (fun _ => 1) (fun j => ns.count j) 6 := fun ns h => by
    rw [rsum_list (fun _ => 1) ns 6 (fun r hr => by have := h r hr; omega)]
    clear h
    induction ns with
    | nil => rfl
    | cons r ns ih => rw [List.map_cons, List.sum_cons, ← ih, List.length_cons]; lia
  unfold eqW
  rw [decide_eq_true_eq, wsp_n, wsp_n]
  show (cntOf ns = cntOf ns' ∧ (b : Int) = (b' : Int)) ↔ _
  constructor
  · rintro ⟨hc, hb⟩ t h1 h2
    have hb' : b = b' := by lia
    have cc : (fun j => ns.count j) = (fun j => ns'.count j) := by
      funext j
      have := congrArg (fun l => l.getD j 0) hc
      simp only [cntOf_get] at this
      lia
    unfold lev
    rw [q6 ns t h5, q6 ns' t h5', l6 ns h5, l6 ns' h5', cc, hb']
  · intro h
    obtain ⟨f1, f2⟩ := lev_far hn.1
    obtain ⟨f3, f4⟩ := lev_far hn.2
    have e0 := h n (by (clear hn; lia)) (Nat.le_refl _)
    rw [f1, f3] at e0
    have hlen : ns.length = ns'.length := by
      rcases Nat.lt_trichotomy ns.length ns'.length with h1 | h1 | h1
      · have : n * (ns.length + 1) ≤ n * ns'.length := Nat.mul_le_mul_left n h1
        rw [Nat.mul_add, Nat.mul_one] at this
        lia
      · exact h1
      · have : n * (ns'.length + 1) ≤ n * ns.length := Nat.mul_le_mul_left n h1
        rw [Nat.mul_add, Nat.mul_one] at this
        lia
    have hb : b = b' := by rw [hlen] at e0; lia
    have hq : ∀ t, 1 ≤ t → quot ns t = quot ns' t := by
      intro t ht
      by_cases h3 : t ≤ n
      · have := h t ht h3
        unfold lev at this
        have e : t * (quot ns t + ns.length) = t * (quot ns' t + ns'.length) := by (clear h hn f1 e0 f2; (subst_vars; lia))
        have := Nat.eq_of_mul_eq_mul_left (by assumption : 0 < t) e
        lia
      · have a1 := (mxN_le ns b (mxN ns b)).mp (Nat.le_refl _)
        have a2 := (mxN_le ns' b' (mxN ns' b')).mp (Nat.le_refl _)
        rw [quot_zero fun r hr => by have := a1.2 r hr; lia, quot_zero fun r hr => by have := a2.2 r hr; lia]
    have c1 := hq 1 (by decide)
    have c2 := hq 2 (by decide)
    have c3 := hq 3 (by decide)
    have c4 := hq 4 (by decide)
    have c5 := hq 5 (by decide)
    rw [q6 ns _ h5, q6 ns' _ h5'] at c1 c2 c3 c4 c5
    rw [l6 ns h5, l6 ns' h5'] at hlen
    simp only [rsum, Nat.reduceDiv, Nat.zero_mul, Nat.one_mul, Nat.zero_add] at c1 c2 c3 c4 c5 hlen
    have cnt0 : ∀ (ns : List Nat), (∀ r ∈ ns, r ≤ 5) → ∀ j, 6 ≤ j → ns.count j = 0 := fun ns h j hj => List.count_eq_zero.mpr fun hm => by have := h j hm; lia
    have cc : ∀ j, ns.count j = ns'.count j := by
      intro j
      by_cases hj : 6 ≤ j
      · rw [cnt0 ns h5 j hj, cnt0 ns' h5' j hj]
      · have : j = 0 ∨ j = 1 ∨ j = 2 ∨ j = 3 ∨ j = 4 ∨ j = 5 := by lia
        exact six_c (c := fun j => ns.count j) (d := fun j => ns'.count j) c1 c2 c3 c4 c5 hlen this
    refine ⟨?_, by simp [*]⟩
    have mem : ∀ r, r ∈ ns ↔ r ∈ ns' := fun r => by
      rw [← List.count_pos_iff, ← List.count_pos_iff, cc]
    have hl : (cntOf ns).length = (cntOf ns').length := by
      apply Nat.le_antisymm
      · rw [cntOf_len]; intro r hr; exact (cntOf_len ns' _).mp (Nat.le_refl _) r ((mem r).mp hr)
      · rw [cntOf_len]; intro r hr; exact (cntOf_len ns _).mp (Nat.le_refl _) r ((mem r).mpr hr)
    refine List.ext_getElem hl fun j h1 h2 => ?_
    have a1 := cntOf_get ns j
    have a2 := cntOf_get ns' j
    rw [List.getD_eq_getElem?_getD, List.getElem?_eq_getElem h1] at a1
    rw [List.getD_eq_getElem?_getD, List.getElem?_eq_getElem h2] at a2
    have := cc j
    simp only [Option.getD_some] at a1 a2
    simp [*]
/-- the witness sizes -/
theorem wit_congr {p : Int → Int → Bool} {f g f' g' : Int → Int} : ∀ {n : Nat}, (∀ i : Nat, i < n → f (1 + (i : Int)) = f' (1 + (i : Int)) ∧ g (1 + (i : Int)) = g' (1 + (i : Int))) → wit p f g n = wit p f' g' n
  | 0, _ => rfl
  | n + 1, h => by
    rw [wit, wit, wit_congr fun i hi => h i (by lia), (h n (by simp)).1, (h n (by omega)).2]
theorem mem_wit {p : Int → Int → Bool} {f g : Int → Int} {x : List Int} : ∀ {n : Nat}, x ∈ wit p f g n ↔ ∃ i : Nat, i < n ∧ p (f (1 + (i : Int))) (g (1 + (i : Int))) = true ∧ x = [1 + (i : Int), f (1 + (i : Int)), g (1 + (i : Int))]
  | 0 => by simp [wit]
  | n + 1 => by
    rw [wit, List.mem_append, mem_wit (n := n)]
    constructor
    · rintro (⟨i, h1, h2⟩ | h)
      · exact ⟨i, by omega, h2⟩
      · split at h
        · rename_i hp
          exact ⟨n, by omega, hp, by simpa using h⟩
        · cases h
    · rintro ⟨i, h1, h2, h3⟩
      by_cases hi : i < n
      · exact .inl ⟨i, hi, h2, h3⟩
      · have : i = n := by lia
        subst this
        refine .inr ?_
        rw [if_pos h2]; simp [h3]
theorem wit_sorted {p : Int → Int → Bool} {f g : Int → Int} : ∀ (n : Nat), (wit p f g n).Pairwise fun a b => a.headD 0 < b.headD 0
  | 0 => .nil
  | n + 1 => by
    rw [wit, List.pairwise_append]
    refine ⟨wit_sorted n, ?_, ?_⟩
    · split
      · exact List.pairwise_singleton _ _
      · exact .nil
    · intro a ha c hc
      obtain ⟨i, h1, _, rfl⟩ := mem_wit.mp ha
      split at hc
      · rw [List.mem_singleton.mp hc]
        simp; omega
      · cases hc
end Mine
end

section
open PySem PySem.W
set_option maxRecDepth 100000
namespace Mine

theorem pw_ext {α : Type} {ρ : α → α → Prop} (irr : ∀ a, ¬ ρ a a) (asym : ∀ a b, ρ a b → ¬ ρ b a) : ∀ (l l' : List α), l.Pairwise ρ → l'.Pairwise ρ → (∀ x, x ∈ l ↔ x ∈ l') → l = l'
  | [], l', _, _, h => by
    cases l' with
    | nil => rfl
    | cons b t => exact absurd ((h b).mpr (.head _)) List.not_mem_nil
  | a :: t, [], _, _, h => absurd ((h a).mp (.head _)) List.not_mem_nil
  | a :: t, b :: t', h1, h2, h => by
    rw [List.pairwise_cons] at h1 h2
    have hab : a = b := by
      rcases List.mem_cons.mp ((h a).mp (.head _)) with e | ha
      · exact e
      · rcases List.mem_cons.mp ((h b).mpr (.head _)) with e | hb
        · exact e.symm
        · exact absurd (h2.1 a ha) (asym _ _ (h1.1 b hb))
    subst hab
    congr 1
    refine pw_ext irr asym t t' h1.2 h2.2 fun x => ?_
    constructor
    · intro hx
      rcases List.mem_cons.mp ((h x).mp (.tail _ hx)) with rfl | hx'
      · exact absurd (h1.1 _ hx) (irr _)
      · exact hx'
    · intro hx
      rcases List.mem_cons.mp ((h x).mpr (.tail _ hx)) with rfl | hx'
      · exact absurd (h2.1 _ hx) (irr _)
      · exact hx'
theorem mono_split (p : Nat → Bool) : ∀ (n : Nat), (∀ i j, i < j → j < n → p i = true → p j = true) → ∃ r, r ≤ n ∧ ∀ i, i < n → p i = decide (r ≤ i)
  | 0, _ => ⟨0, Nat.le_refl _, fun i h => absurd h (Nat.not_lt_zero _)⟩
  | n + 1, h => by
    obtain ⟨r, hr, hp⟩ := mono_split p n fun i j a b => h i j a (by lia)
    by_cases hrn : r < n
    · refine ⟨r, by (clear hrn; lia), fun i hi => ?_⟩
      by_cases hin : i < n
      · exact hp i hin
      · have : i = n := by lia
        subst this
        rw [h r i hrn hi (by rw [hp r hrn]; simp)]
        exact (decide_eq_true (by omega)).symm
    · have hrn' : r = n := by lia
      subst hrn'
      cases q : p r with
      | true =>
        refine ⟨r, by simp, fun i hi => ?_⟩
        by_cases hin : i < r
        · exact hp i hin
        · have : i = r := by lia
          subst this
          rw [q]; simp
      | false =>
        refine ⟨r + 1, Nat.le_refl _, fun i hi => ?_⟩
        by_cases hin : i < r
        · rw [hp i hin, decide_eq_false (by simp [*]), decide_eq_false (by simp [*])]
        · have : i = r := by omega
          subst this
          rw [q]; simp
theorem lex_irr (K : Nat → Int) (a : Nat) : ¬ Lex K a a := by unfold Lex; simp
theorem lex_asym (K : Nat → Int) (a b : Nat) : Lex K a b → ¬ Lex K b a := by unfold Lex; lia

-- PICKED PLACES
theorem pick_mem {α : Type} {l : List α} {o : List Nat} (h : o.Perm (List.range l.length)) (x : α) : x ∈ o.filterMap (l[·]?) ↔ x ∈ l := by
  rw [List.mem_filterMap, List.mem_iff_getElem?]
  constructor
  · rintro ⟨i, _, e⟩; exact ⟨i, e⟩
  · rintro ⟨i, e⟩
    refine ⟨i, h.mem_iff.mpr (List.mem_range.mpr ?_), e⟩
    exact (List.getElem?_eq_some_iff.mp e).1
theorem pick_pw {α : Type} {l : List α} {o : List Nat} {K : Nat → Int} {ρ : α → α → Prop} (hp : o.Pairwise (Lex K)) (h : ∀ i j a b, l[i]? = some a → l[j]? = some b → Lex K i j → ρ a b) : (o.filterMap (l[·]?)).Pairwise ρ := by
  rw [List.pairwise_filterMap]
  exact hp.imp fun {i j} hij a ha b hb => h i j a b ha hb hij
theorem sortT_eq (rows : List (List Int)) : sortT rows = if 2 ≤ rows.length then (ordK (fun i => (rows.getD i []).headD 0) rows.length).filterMap (rows[·]?) else rows := by
  unfold sortT
  split
  · rename_i h2
    have hg := ordK_good (K := fun i => (rows.getD i []).headD 0) (n := rows.length) (by lia)
    have hlt : ∀ i ∈ ordK (fun i => (rows.getD i []).headD 0) rows.length, i < rows.length := fun i hi => hg.lt hi
    generalize ordK (fun i => (rows.getD i []).headD 0) rows.length = o at *
    clear hg
    induction o with
    | nil => rfl
    | cons i o ih =>
      have hi := hlt i (.head _)
      rw [List.map_cons, List.filterMap_cons, List.getElem?_eq_getElem hi]
      show _ = rows[i] :: _
      rw [← ih fun j hj => hlt j (.tail _ hj), List.getD_eq_getElem?_getD, List.getElem?_eq_getElem hi]; rfl
  · rfl
/-- rows by their heads -/
noncomputable abbrev HeadLt (a b : List Int) : Prop := a.headD 0 < b.headD 0
theorem few_pw {α : Type} {ρ : α → α → Prop} {l : List α} (h : ¬ 2 ≤ l.length) : l.Pairwise ρ := by
  match l, h with
  | [], _ => exact .nil
  | [a], _ => exact List.pairwise_singleton _ _
  | a :: b :: r, h => exact absurd (by simp) h
theorem sortT_mem (rows : List (List Int)) (x : List Int) : x ∈ sortT rows ↔ x ∈ rows := by
  rw [sortT_eq]
  split
  · rename_i h2
    exact pick_mem (ordK_good (by omega)).perm x
  · exact Iff.rfl
theorem nodup_at {α : Type} {f : α → Int} {l : List α} (h : (l.map f).Nodup) {i j : Nat} {a b : α} (hi : l[i]? = some a) (hj : l[j]? = some b) (e : f a = f b) : i = j := by
  have h1 : (l.map f)[i]? = some (f a) := by rw [List.getElem?_map, hi]; rfl
  have h2 : (l.map f)[j]? = some (f b) := by rw [List.getElem?_map, hj]; rfl
  obtain ⟨l1, e1⟩ := List.getElem?_eq_some_iff.mp h1
  obtain ⟨l2, e2⟩ := List.getElem?_eq_some_iff.mp h2
  exact (List.getElem_inj h).mp (by rw [e1, e2, e])
theorem sortT_pw {rows : List (List Int)} (h : (rows.map (·.headD 0)).Nodup) : (sortT rows).Pairwise HeadLt := by
  rw [sortT_eq]
  split
  · rename_i h2
    refine pick_pw (ordK_good (by omega)).ord fun i j a b ha hb hij => ?_
    have e1 : (rows.getD i []).headD 0 = a.headD 0 := by rw [List.getD_eq_getElem?_getD, ha]; rfl
    have e2 : (rows.getD j []).headD 0 = b.headD 0 := by rw [List.getD_eq_getElem?_getD, hb]; rfl
    unfold Lex at hij
    simp only [e1, e2] at hij
    rcases hij with hl | ⟨he, hl⟩
    · exact hl
    · exact absurd (nodup_at h ha hb he) (by lia)
  · rename_i h2; exact few_pw h2
theorem sortT_is {rows l : List (List Int)} (h : (rows.map (·.headD 0)).Nodup) (hl : l.Pairwise HeadLt) (hm : ∀ x, x ∈ l ↔ x ∈ rows) : l = sortT rows :=
  pw_ext (ρ := HeadLt) (fun a => Int.lt_irrefl _) (fun a b h1 h2 => Int.lt_irrefl _ (Int.lt_trans h1 h2)) l (sortT rows) hl (sortT_pw h) fun x => (hm x).trans (sortT_mem rows x).symm

-- THE WHEEL
/-- keys of the sizes -/
structure Wk (its : Nat → It) (gr : Nat → Bool) (κ : Nat → Int) (n : Nat) : Prop where
  lt : ∀ i j, i < n → j < n → gr i = false → gr j = false → (Float64.cmp (its i).h (its j).h == some .lt) = decide (κ i < κ j)
theorem hueAt_map {its : Nat → It} {o : List Nat} {k : Nat} {i : Nat} (h : o[k]? = some i) : hueAt (o.map its) k = (its i).h := by
  unfold hueAt; rw [List.getElem?_map, h]; rfl
theorem pw_le {κ : Nat → Int} {o : List Nat} (h : o.Pairwise (Lex κ)) {k l : Nat} {i j : Nat} (hk : o[k]? = some i) (hl : o[l]? = some j) (hkl : k < l) : κ i ≤ κ j := by
  obtain ⟨l1, e1⟩ := List.getElem?_eq_some_iff.mp hk
  obtain ⟨l2, e2⟩ := List.getElem?_eq_some_iff.mp hl
  have := List.pairwise_iff_getElem.mp h k l l1 l2 hkl
  rw [e1, e2] at this
  unfold Lex at this; lia
theorem wheel_idx {its : Nat → It} {gr : Nat → Bool} {κ : Nat → Int} {n : Nat} (H : Wk its gr κ n) : ∀ m, m ≤ n → ∃ o : List Nat, (wheelTo its gr m).1 = o.map its ∧ o.Pairwise (Lex κ) ∧ ∀ j, j ∈ o ↔ j < m ∧ gr j = false
  | 0, _ => ⟨[], rfl, .nil, fun j => by simp⟩
  | m + 1, hm => by
    obtain ⟨o, e, pw, mem⟩ := wheel_idx H m (by lia)
    by_cases hg : gr m = true
    · refine ⟨o, by rw [wheelTo_g hg]; exact e, pw, fun j => ?_⟩
      rw [mem]
      constructor
      · rintro ⟨a, b⟩; exact ⟨by lia, b⟩
      · rintro ⟨a, b⟩
        refine ⟨?_, b⟩
        by_cases hj : j = m
        · subst hj; rw [hg] at b; cases b
        · lia
    · have hg' : gr m = false := by simpa using hg
      have hin : ∀ j ∈ o, j < n ∧ gr j = false := fun j hj => by have := (mem j).mp hj; exact ⟨by lia, this.2⟩
      have kv : ∀ k i, o[k]? = some i → kvR (its m).h (hueAt (o.map its)) k = decide (κ m < κ i) := by
        intro k i hk
        have hi := hin i (List.mem_of_getElem? hk)
        unfold kvR
        rw [hueAt_map hk]
        exact H.lt m i (by assumption) hi.1 hg' hi.2
      obtain ⟨r, hr, hp⟩ := mono_split (kvR (its m).h (hueAt (o.map its))) o.length (by
        intro a b hab hb ha
        rw [kv a _ (List.getElem?_eq_getElem (by lia))] at ha
        rw [kv b _ (List.getElem?_eq_getElem hb)]
        have := pw_le pw (List.getElem?_eq_getElem (by omega : a < o.length)) (List.getElem?_eq_getElem hb) hab
        have := of_decide_eq_true ha
        exact decide_eq_true (by (clear ha; lia)))
      have hb : bis (kvR (its m).h (hueAt (o.map its))) ((o.map its).length - 0) 0 (o.map its).length = r := by
        rw [List.length_map]
        exact bis_spec _ _ _ (by simp) (by simp) hr fun i _ hi => hp i hi
      refine ⟨o.take r ++ m :: o.drop r, ?_, ?_, fun j => ?_⟩
      · rw [wheelTo_w hg', e]
        show insI (o.map its) (its m) = _
        unfold insI
        rw [hb, List.map_append, List.map_cons, List.map_take, List.map_drop]
      · have tk : ∀ j ∈ o.take r, Lex κ j m := by
          intro j hj
          obtain ⟨k, hk, e2⟩ := List.mem_take_iff_getElem.mp hj
          have hk' : k < o.length := by (clear hr hp; (subst_vars; lia))
          have h1 := kv k j (by rw [List.getElem?_eq_getElem hk']; exact congrArg some e2)
          rw [hp k hk', decide_eq_false (by lia)] at h1
          have h2 := of_decide_eq_false h1.symm
          have := (mem j).mp (List.mem_of_mem_take hj)
          unfold Lex; (clear h1; lia)
        have dr : ∀ j ∈ o.drop r, Lex κ m j := by
          intro j hj
          obtain ⟨k, hk, e2⟩ := List.mem_drop_iff_getElem.mp hj
          have h1 := kv (k + r) j (by rw [Nat.add_comm k r, List.getElem?_eq_getElem (by lia)]; exact congrArg some e2)
          rw [hp _ hk, decide_eq_true (by simp)] at h1
          have h2 := of_decide_eq_true h1.symm
          unfold Lex; (left; omega)
        rw [← List.take_append_drop r o] at pw
        rw [List.pairwise_append] at pw
        rw [List.pairwise_append, List.pairwise_cons]
        refine ⟨pw.1, ⟨dr, pw.2.1⟩, fun a ha c hc => ?_⟩
        rcases List.mem_cons.mp hc with rfl | hc
        · exact tk a ha
        · exact pw.2.2 a ha c hc
      · have : j ∈ o.take r ++ m :: o.drop r ↔ j = m ∨ j ∈ o := by
          rw [← List.take_append_drop r o]
          simp only [List.mem_append, List.mem_cons, List.take_append_drop]
          constructor
          · rintro (h | h | h)
            · exact .inr (List.mem_of_mem_take h)
            · exact .inl h
            · exact .inr (List.mem_of_mem_drop h)
          · rintro (h | h)
            · exact .inr (.inl h)
            · rw [← List.take_append_drop r o, List.mem_append] at h
              rcases h with h | h
              · exact .inl h
              · exact .inr (.inr h)
        rw [this, mem]
        constructor
        · rintro (rfl | h)
          · exact ⟨by simp, hg'⟩
          · exact ⟨by lia, h.2⟩
        · rintro ⟨h1, h2⟩
          by_cases hj : j = m
          · exact .inl hj
          · exact .inr ⟨by lia, h2⟩
theorem greys_idx (its : Nat → It) (gr : Nat → Bool) : ∀ m, (wheelTo its gr m).2 = ((List.range m).filter gr).map its
  | 0 => rfl
  | m + 1 => by
    rw [List.range_succ, List.filter_append, List.map_append, ← greys_idx its gr m]
    by_cases hg : gr m = true
    · rw [wheelTo_g hg, List.filter_cons_of_pos hg]; rfl
    · have hg' : gr m = false := by simpa using hg
      rw [wheelTo_w hg', List.filter_cons_of_neg hg]; simp
/-- the law's order is the wheel's -/
theorem order_idx {κ : Nat → Int} {L : List Nat} {rw_ : Nat → Rw} {K : Nat → Int} (hL : L.Pairwise (· < ·)) (hK : ∀ i j, L[i]? = some j → K i = κ j) {o : List Nat} (ho : o.Pairwise (Lex κ)) (hm : ∀ j, j ∈ o ↔ j ∈ L) : sortR K (L.map rw_) = o.map rw_ := by
  have e : sortR K (L.map rw_) = (if 2 ≤ L.length then (ordK K L.length).filterMap (L[·]?) else L).map rw_ := by
    unfold sortR
    rw [List.length_map]
    split
    · rw [List.map_filterMap]
      congr 1
      funext i
      rw [List.getElem?_map]
    · rfl
  rw [e]
  congr 1
  refine pw_ext (lex_irr κ) (lex_asym κ) _ _ ?_ ho fun x => ?_
  · split
    · rename_i h2
      refine pick_pw (ordK_good (by lia)).ord fun i j a b ha hb hij => ?_
      unfold Lex at hij ⊢
      rw [hK i a ha, hK j b hb] at hij
      rcases hij with h | ⟨h, hl⟩
      · exact .inl h
      · refine .inr ⟨h, ?_⟩
        obtain ⟨l1, e1⟩ := List.getElem?_eq_some_iff.mp ha
        obtain ⟨l2, e2⟩ := List.getElem?_eq_some_iff.mp hb
        have := List.pairwise_iff_getElem.mp hL i j l1 l2 hl
        (clear h ha hb; (subst_vars; omega))
    · rename_i h2; exact few_pw h2
  · rw [hm]
    split
    · rename_i h2
      exact pick_mem (ordK_good (by omega)).perm x
    · exact Iff.rfl
end Mine
end

section
open PySem PySem.W
set_option maxRecDepth 100000
namespace Mine

theorem mem_run {α : Type} {o : List α} {x y : Nat} {i : α} : i ∈ (o.drop x).take (y - x) ↔ ∃ k, x ≤ k ∧ k < y ∧ o[k]? = some i := by
  rw [List.mem_iff_getElem?]
  constructor
  · rintro ⟨k, hk⟩
    rw [List.getElem?_take] at hk
    split at hk
    · rw [List.getElem?_drop] at hk
      exact ⟨x + k, by simp, by omega, hk⟩
    · cases hk
  · rintro ⟨k, h1, h2, h3⟩
    refine ⟨k - x, ?_⟩
    rw [List.getElem?_take, if_pos (by grind), List.getElem?_drop]
    have : x + (k - x) = k := by simp [*]
    rw [this]; exact h3
theorem mem_take' {α : Type} {o : List α} {x : Nat} {i : α} : i ∈ o.take x ↔ ∃ k, k < x ∧ o[k]? = some i := by
  have := mem_run (o := o) (x := 0) (y := x) (i := i)
  simpa using this
theorem mem_drop' {α : Type} {o : List α} {x : Nat} {i : α} : i ∈ o.drop x ↔ ∃ k, x ≤ k ∧ o[k]? = some i := by
  rw [List.mem_iff_getElem?]
  constructor
  · rintro ⟨k, hk⟩
    rw [List.getElem?_drop] at hk
    exact ⟨x + k, by simp, hk⟩
  · rintro ⟨k, h1, h3⟩
    refine ⟨k - x, ?_⟩
    rw [List.getElem?_drop]
    have : x + (k - x) = k := by simp [*]
    rw [this]; exact h3

theorem len_drop {α : Type} (k : Nat) (l : List α) : (l.drop k).length ≤ l.length := by rw [List.length_drop]; exact Nat.sub_le _ _
theorem lt2 {α : Type} (l : List α) (x y : Nat) : ((l.drop x).take y).length ≤ l.length := Nat.le_trans (List.length_take_le' _ _) (len_drop _ _)
theorem max_c (a b : Nat) : max (a : Int) (b : Int) + 1 = ((max a b + 1 : Nat) : Int) := by rw [← Lean.Omega.Int.ofNat_max]; rfl
theorem max_n (a b : Nat) : (max (a : Int) (b : Int) + 1).toNat = max a b + 1 := by rw [max_c, Int.toNat_natCast]
theorem max_nc (a b : Nat) : (max (b : Int) (a : Int) + 1).toNat = max a b + 1 := by rw [max_n, Nat.max_comm]
theorem or_le {a b : Nat} {p : Prop} : (p ∧ b < a ∨ p ∧ a = b) ↔ (p ∧ b ≤ a) := by
  constructor
  · rintro (⟨h, h1⟩ | ⟨h, h1⟩)
    · exact ⟨h, Nat.le_of_lt h1⟩
    · exact ⟨h, Nat.le_of_eq h1.symm⟩
  · rintro ⟨h, h1⟩
    rcases Nat.lt_or_eq_of_le h1 with h2 | h2
    · exact .inl ⟨h, h2⟩
    · exact .inr ⟨h, h2.symm⟩
theorem or_le' {a b : Nat} {p : Prop} : (p ∧ a < b ∨ p ∧ a = b) ↔ (p ∧ a ≤ b) := by
  constructor
  · rintro (⟨h, h1⟩ | ⟨h, h1⟩)
    · exact ⟨h, Nat.le_of_lt h1⟩
    · exact ⟨h, Nat.le_of_eq h1⟩
  · rintro ⟨h, h1⟩
    rcases Nat.lt_or_eq_of_le h1 with h2 | h2
    · exact .inl ⟨h, h2⟩
    · exact .inr ⟨h, h2⟩
theorem or_ne {a b : Nat} {p : Prop} : (p ∧ a < b ∨ p ∧ b < a) ↔ (p ∧ a ≠ b) := by
  constructor
  · rintro (⟨h, h1⟩ | ⟨h, h1⟩)
    · exact ⟨h, Nat.ne_of_lt h1⟩
    · exact ⟨h, Nat.ne_of_gt h1⟩
  · rintro ⟨h, h1⟩
    rcases Nat.lt_or_gt_of_ne h1 with h2 | h2
    · exact .inl ⟨h, h2⟩
    · exact .inr ⟨h, h2⟩
/-- where the wheel is cut, in keys -/
structure Thr (its : Nat → It) (gr : Nat → Bool) (κ : Nat → Int) (n : Nat) (low high : UInt64) (lo hi : Int) : Prop where
  a : ∀ i, i < n → gr i = false → (Float64.cmp (its i).h low == some .lt) = decide (κ i < lo)
  b : ∀ i, i < n → gr i = false → (Float64.cmp low (its i).h == some .lt) = decide (lo < κ i)
  c : ∀ i, i < n → gr i = false → (Float64.cmp (its i).h high == some .lt) = decide (κ i < hi)
  d : ∀ i, i < n → gr i = false → (Float64.cmp high (its i).h == some .lt) = decide (hi < κ i)
  lh : lo < hi
theorem cut_idx {its : Nat → It} {gr : Nat → Bool} {κ : Nat → Int} {n : Nat} {low high : UInt64} {lo hi : Int} (H : Thr its gr κ n low high lo hi) {o : List Nat} (pw : o.Pairwise (Lex κ)) (mem : ∀ j, j ∈ o ↔ j < n ∧ gr j = false) :
    ∃ oi oo oa : List Nat, (cutP (o.map its) low high).inner (o.map its) = oi.map its ∧ (cutP (o.map its) low high).outer (o.map its) = oo.map its ∧ (cutP (o.map its) low high).alike (o.map its) = oa.map its ∧
      (∀ i, i ∈ oi ↔ i ∈ o ∧ lo < κ i ∧ κ i < hi) ∧ (∀ i, i ∈ oo ↔ i ∈ o ∧ (κ i < lo ∨ hi < κ i)) ∧ (∀ i, i ∈ oa ↔ i ∈ o ∧ (κ i = lo ∨ κ i = hi)) ∧
      oi.Nodup ∧ oo.Nodup ∧ oa.Nodup ∧ oi.length ≤ o.length ∧ oo.length ≤ o.length + o.length ∧ oa.length ≤ o.length + o.length := by
  have nd : o.Nodup := pw.imp fun {a b} h e => by subst e; exact lex_irr κ a h
  have hin : ∀ {k i : Nat}, o[k]? = some i → i < n ∧ gr i = false := fun h => (mem _).mp (List.mem_of_getElem? h)
  have va : ∀ k i, o[k]? = some i → kvL low (hueAt (o.map its)) k = !decide (κ i < lo) := fun k i h => by
    unfold kvL; rw [hueAt_map h, H.a i (hin h).1 (hin h).2]
  have vb : ∀ k i, o[k]? = some i → kvR low (hueAt (o.map its)) k = decide (lo < κ i) := fun k i h => by
    unfold kvR; rw [hueAt_map h, H.b i (hin h).1 (hin h).2]
  have vc : ∀ k i, o[k]? = some i → kvL high (hueAt (o.map its)) k = !decide (κ i < hi) := fun k i h => by
    unfold kvL; rw [hueAt_map h, H.c i (hin h).1 (hin h).2]
  have vd : ∀ k i, o[k]? = some i → kvR high (hueAt (o.map its)) k = decide (hi < κ i) := fun k i h => by
    unfold kvR; rw [hueAt_map h, H.d i (hin h).1 (hin h).2]
  have gt : ∀ {k : Nat} (h : k < o.length), o[k]? = some o[k] := fun h => List.getElem?_eq_getElem h
  have lh := H.lh
  obtain ⟨ra, la, pa⟩ := mono_split (kvL low (hueAt (o.map its))) o.length (by
    intro i j hij hj h
    rw [va i _ (gt (by lia))] at h
    rw [va j _ (gt hj)]
    have := pw_le pw (gt (by omega : i < o.length)) (gt hj) hij
    simp only [Bool.not_eq_true', decide_eq_false_iff_not] at h ⊢
    omega)
  obtain ⟨rb, lb, pb⟩ := mono_split (kvR low (hueAt (o.map its))) o.length (by
    intro i j hij hj h
    rw [vb i _ (gt (by lia))] at h
    rw [vb j _ (gt hj)]
    have := pw_le pw (gt (by omega : i < o.length)) (gt hj) hij
    simp only [decide_eq_true_eq] at h ⊢
    omega)
  obtain ⟨rc, lc, pc⟩ := mono_split (kvL high (hueAt (o.map its))) o.length (by
    intro i j hij hj h
    rw [vc i _ (gt (by lia))] at h
    rw [vc j _ (gt hj)]
    have := pw_le pw (gt (by omega : i < o.length)) (gt hj) hij
    simp only [Bool.not_eq_true', decide_eq_false_iff_not] at h ⊢
    omega)
  obtain ⟨rd, ld, pd⟩ := mono_split (kvR high (hueAt (o.map its))) o.length (by
    intro i j hij hj h
    rw [vd i _ (gt (by lia))] at h
    rw [vd j _ (gt hj)]
    have := pw_le pw (gt (by omega : i < o.length)) (gt hj) hij
    simp only [decide_eq_true_eq] at h ⊢
    omega)
  have ka : ∀ {k i : Nat}, o[k]? = some i → (κ i < lo ↔ k < ra) := fun {k i} h => by
    have := va k i h
    rw [pa k (List.getElem?_eq_some_iff.mp h).1] at this
    have e : decide (κ i < lo) = decide (k < ra) := by
      rw [← Bool.not_inj_iff, ← this, ← decide_not]
      exact decide_eq_decide.mpr (by simp)
    exact decide_eq_decide.mp e
  have kb : ∀ {k i : Nat}, o[k]? = some i → (lo < κ i ↔ rb ≤ k) := fun {k i} h => by
    have := vb k i h
    rw [pb k (List.getElem?_eq_some_iff.mp h).1] at this
    exact (decide_eq_decide.mp this).symm
  have kc : ∀ {k i : Nat}, o[k]? = some i → (κ i < hi ↔ k < rc) := fun {k i} h => by
    have := vc k i h
    rw [pc k (List.getElem?_eq_some_iff.mp h).1] at this
    have e : decide (κ i < hi) = decide (k < rc) := by
      rw [← Bool.not_inj_iff, ← this, ← decide_not]
      exact decide_eq_decide.mpr (by simp)
    exact decide_eq_decide.mp e
  have kd : ∀ {k i : Nat}, o[k]? = some i → (hi < κ i ↔ rd ≤ k) := fun {k i} h => by
    have := vd k i h
    rw [pd k (List.getElem?_eq_some_iff.mp h).1] at this
    exact (decide_eq_decide.mp this).symm
  have ab : ra ≤ rb := by
    rcases Nat.lt_or_ge rb ra with h | h
    · have h1 := ka (gt (by (clear lb; lia) : rb < o.length))
      have h2 := kb (gt (by omega : rb < o.length))
      lia
    · exact h
  have bc : rb ≤ rc := by
    rcases Nat.lt_or_ge rc rb with h | h
    · have h1 := kb (gt (by (clear lc; lia) : rc < o.length))
      have h2 := kc (gt (by omega : rc < o.length))
      grind
    · exact h
  have cd : rc ≤ rd := by
    rcases Nat.lt_or_ge rd rc with h | h
    · have h1 := kc (gt (by (clear ld; lia) : rd < o.length))
      have h2 := kd (gt (by omega : rd < o.length))
      lia
    · exact h
  have hq : cutP (o.map its) low high = ⟨ra, rb, rc, rd⟩ := by
    unfold cutP
    simp only [List.length_map]
    rw [bis_spec _ _ _ (by simp) (by simp) la fun i _ hi => pa i hi]
    rw [bis_spec (r := rb) _ _ _ (by simp) ab lb fun i _ hi => pb i hi]
    rw [bis_spec (r := rc) _ _ _ (by simp) bc lc fun i _ hi => pc i hi]
    rw [bis_spec (r := rd) _ _ _ (by simp) cd ld fun i _ hi => pd i hi]
  rw [hq]
  have ex : ∀ {i}, i ∈ o → ∃ k, o[k]? = some i := fun h => List.mem_iff_getElem?.mp h
  have mi : ∀ i, i ∈ (o.drop rb).take (rc - rb) ↔ i ∈ o ∧ lo < κ i ∧ κ i < hi := by
    intro i
    rw [mem_run]
    constructor
    · rintro ⟨k, h1, h2, h3⟩
      exact ⟨List.mem_of_getElem? h3, (kb h3).mpr h1, (kc h3).mpr h2⟩
    · rintro ⟨h1, h2, h3⟩
      obtain ⟨k, hk⟩ := ex h1
      exact ⟨k, (kb hk).mp h2, (kc hk).mp h3, hk⟩
  have mt : ∀ i, i ∈ o.take ra ↔ i ∈ o ∧ κ i < lo := by
    intro i
    rw [mem_take']
    constructor
    · rintro ⟨k, h1, h3⟩
      exact ⟨List.mem_of_getElem? h3, (ka h3).mpr h1⟩
    · rintro ⟨h1, h2⟩
      obtain ⟨k, hk⟩ := ex h1
      exact ⟨k, (ka hk).mp h2, hk⟩
  have md : ∀ i, i ∈ o.drop rd ↔ i ∈ o ∧ hi < κ i := by
    intro i
    rw [mem_drop']
    constructor
    · rintro ⟨k, h1, h3⟩
      exact ⟨List.mem_of_getElem? h3, (kd h3).mpr h1⟩
    · rintro ⟨h1, h2⟩
      obtain ⟨k, hk⟩ := ex h1
      exact ⟨k, (kd hk).mp h2, hk⟩
  have m1 : ∀ i, i ∈ (o.drop ra).take (rb - ra) ↔ i ∈ o ∧ κ i = lo := by
    intro i
    rw [mem_run]
    constructor
    · rintro ⟨k, h1, h2, h3⟩
      have a1 := ka h3
      have a2 := kb h3
      exact ⟨List.mem_of_getElem? h3, by grind⟩
    · rintro ⟨h1, h2⟩
      obtain ⟨k, hk⟩ := ex h1
      have a1 := ka hk
      have a2 := kb hk
      exact ⟨k, by (clear mi va vb mt ka kb H a2; (subst_vars; lia)), by (clear mi va vb mt ka kb H a1; (subst_vars; lia)), hk⟩
  have m2 : ∀ i, i ∈ (o.drop rc).take (rd - rc) ↔ i ∈ o ∧ κ i = hi := by
    intro i
    rw [mem_run]
    constructor
    · rintro ⟨k, h1, h2, h3⟩
      have a1 := kc h3
      have a2 := kd h3
      exact ⟨List.mem_of_getElem? h3, by grind⟩
    · rintro ⟨h1, h2⟩
      obtain ⟨k, hk⟩ := ex h1
      have a1 := kc hk
      have a2 := kd hk
      exact ⟨k, by (clear mi vc vd md kc kd H a2; (subst_vars; lia)), by (clear mi vc vd md kc kd H a1; (subst_vars; lia)), hk⟩
  have sub : ∀ x y : Nat, ((o.drop x).take y).Nodup := fun x y => nd.sublist ((List.take_sublist _ _).trans (List.drop_sublist _ _))
  refine ⟨(o.drop rb).take (rc - rb), o.take ra ++ o.drop rd, (o.drop ra).take (rb - ra) ++ (o.drop rc).take (rd - rc), ?_, ?_, ?_, mi, fun i => ?_, fun i => ?_, sub _ _, ?_, ?_, ?_, ?_, ?_⟩
  · unfold Cut.inner
    rw [List.map_take, List.map_drop]
  · unfold Cut.outer
    rw [List.map_append, List.map_take, List.map_drop]
  · unfold Cut.alike
    rw [List.map_append, List.map_take, List.map_drop, List.map_take, List.map_drop]
  · rw [List.mem_append, mt, md]
    constructor
    · rintro (⟨a, b⟩ | ⟨a, b⟩)
      · exact ⟨a, .inl b⟩
      · exact ⟨a, .inr b⟩
    · rintro ⟨a, b | b⟩
      · exact .inl ⟨a, b⟩
      · exact .inr ⟨a, b⟩
  · rw [List.mem_append, m1, m2]
    constructor
    · rintro (⟨a, b⟩ | ⟨a, b⟩)
      · exact ⟨a, .inl b⟩
      · exact ⟨a, .inr b⟩
    · rintro ⟨a, b | b⟩
      · exact .inl ⟨a, b⟩
      · exact .inr ⟨a, b⟩
  · rw [List.nodup_append]
    refine ⟨nd.sublist (List.take_sublist _ _), nd.sublist (List.drop_sublist _ _), fun x hx y hy e => ?_⟩
    subst e
    have h1 := (mt x).mp hx
    have h2 := (md x).mp hy
    lia
  · rw [List.nodup_append]
    refine ⟨sub _ _, sub _ _, fun x hx y hy e => ?_⟩
    subst e
    have h1 := (m1 x).mp hx
    have h2 := (m2 x).mp hy
    lia
  · exact lt2 _ _ _
  · rw [List.length_append]; exact Nat.add_le_add (List.length_take_le' _ _) (len_drop _ _)
  · rw [List.length_append]; exact Nat.add_le_add (lt2 _ _ _) (lt2 _ _ _)

-- PAIRS
theorem rows_is {its : Nat → It} {n m : Nat} {k j : Nat} {most : Int} {f g : Nat → Int} {F G : Int → Int} {p : Int → Int → Bool} {X : List Nat} (hm : most = (m : Int)) (hmn : m ≤ n) (hn : ∀ i, i < n → (its i).n = 1 + (i : Int)) (hf : ∀ i, i < n → (its i).col k = f i) (hg : ∀ i, i < n → (its i).col j = g i)
    (hF : ∀ i, i < m → F (1 + (i : Int)) = f i) (hG : ∀ i, i < m → G (1 + (i : Int)) = g i) (hX : ∀ i, i ∈ X ↔ i < n ∧ p (f i) (g i) = true) (nd : X.Nodup) : wit p F G m = sortT (rowsP (X.map its) k j most) := by
  have hin : ∀ i ∈ X, i < n := fun i hi => ((hX i).mp hi).1
  refine sortT_is ?_ (wit_sorted m) fun x => ?_
  · unfold rowsP
    rw [List.map_map]
    have e : ((·.headD 0) ∘ fun t : It => [t.n, t.col k, t.col j]) = fun t => t.n := by funext t; rfl
    rw [e]
    have h2 : ((X.map its).map (·.n)).Nodup := by
      rw [List.map_map]
      refine List.pairwise_map.mpr (nd.imp_of_mem fun {a b} ha hb hab => ?_)
      show (its a).n ≠ (its b).n
      rw [hn a (hin a ha), hn b (hin b hb)]
      lia
    exact h2.sublist ((List.filter_sublist).map _)
  · rw [mem_wit]
    unfold rowsP
    rw [List.mem_map]
    constructor
    · rintro ⟨i, h1, h2, rfl⟩
      rw [hF i h1, hG i h1] at h2 ⊢
      refine ⟨its i, List.mem_filter.mpr ⟨List.mem_map.mpr ⟨i, (hX i).mpr ⟨by lia, h2⟩, rfl⟩, decide_eq_true ?_⟩, ?_⟩
      · rw [hn i (by omega)]; lia
      · rw [hn i (by omega), hf i (by omega), hg i (by omega)]
    · rintro ⟨t, ht, rfl⟩
      obtain ⟨h1, h2⟩ := List.mem_filter.mp ht
      obtain ⟨i, hi, rfl⟩ := List.mem_map.mp h1
      have hi' := (hX i).mp hi
      have := of_decide_eq_true h2
      rw [hn i hi'.1] at this
      refine ⟨i, by lia, ?_, ?_⟩
      · rw [hF i (by omega), hG i (by omega)]; exact hi'.2
      · rw [hF i (by omega), hG i (by omega), hn i hi'.1, hf i hi'.1, hg i hi'.1]
theorem emp_iff (its : Nat → It) (X : List Nat) : (X.map its).isEmpty = true ↔ ∀ i, ¬ i ∈ X := by
  cases X with
  | nil => simp
  | cons a r =>
    constructor
    · intro h; cases h
    · intro h; exact absurd (.head _) (h a)
theorem pair_true {its : Nat → It} {ns ns' : List Nat} {b b' n k j : Nat} (h5 : ∀ r ∈ ns, r ≤ 5) (h5' : ∀ r ∈ ns', r ≤ 5) (hmx : mxN ns b < n ∧ mxN ns' b' < n) (hn : ∀ i, i < n → (its i).n = 1 + (i : Int))
    (hf : ∀ i, i < n → (its i).col k = (lev ns b (1 + i) : Int)) (hg : ∀ i, i < n → (its i).col j = (lev ns' b' (1 + i) : Int)) {ol om oa : List Nat}
    (ml : ∀ i, i ∈ ol ↔ i < n ∧ lev ns b (1 + i) < lev ns' b' (1 + i)) (mm : ∀ i, i ∈ om ↔ i < n ∧ lev ns' b' (1 + i) < lev ns b (1 + i)) (ma : ∀ i, i ∈ oa ↔ i < n ∧ lev ns b (1 + i) = lev ns' b' (1 + i))
    (nl : ol.Nodup) (nm : om.Nodup) (na : oa.Nodup) (len : ol.length + (om.length + oa.length) < 64) :
    ItsOk (om.map its ++ oa.map its) ∧ ItsOk (ol.map its ++ oa.map its) ∧ ItsOk (ol.map its ++ om.map its) ∧
    pairB (Ld.n ns b).w (Ld.n ns' b').w (ol.map its) (om.map its) (oa.map its) k j (max (Ld.n ns b).mx (Ld.n ns' b').mx + 1) = true := by
  have app : ∀ {x y : List Nat}, x.Nodup → y.Nodup → (∀ i, i ∈ x → i ∈ y → False) → (x ++ y).Nodup := fun h1 h2 h3 => by
    rw [List.nodup_append]
    exact ⟨h1, h2, fun a ha c hc e => h3 a ha (e ▸ hc)⟩
  have nma := app nm na fun i h1 h2 => by have := (mm i).mp h1; have := (ma i).mp h2; lia
  have nla := app nl na fun i h1 h2 => by have := (ml i).mp h1; have := (ma i).mp h2; lia
  have nlm := app nl nm fun i h1 h2 => by have := (ml i).mp h1; have := (mm i).mp h2; lia
  have its_ok : ∀ {x y : List Nat}, (x ++ y).Nodup → (∀ i ∈ x ++ y, i < n) → (x ++ y).length < 64 → ItsOk (x.map its ++ y.map its) := fun {x y} h1 h2 h3 => by
    rw [← List.map_append]
    refine ⟨?_, by rw [List.length_map]; exact h3⟩
    rw [List.map_map]
    refine List.pairwise_map.mpr (h1.imp_of_mem fun {a c} ha hc hac => ?_)
    show (its a).n ≠ (its c).n
    rw [hn a (h2 a ha), hn c (h2 c hc)]
    lia
  have ima : ∀ i, i ∈ om ++ oa ↔ i < n ∧ lev ns' b' (1 + i) ≤ lev ns b (1 + i) := fun i => by
    rw [List.mem_append, mm, ma]; exact or_le
  have ila : ∀ i, i ∈ ol ++ oa ↔ i < n ∧ lev ns b (1 + i) ≤ lev ns' b' (1 + i) := fun i => by
    rw [List.mem_append, ml, ma]; exact or_le'
  have ilm : ∀ i, i ∈ ol ++ om ↔ i < n ∧ lev ns b (1 + i) ≠ lev ns' b' (1 + i) := fun i => by
    rw [List.mem_append, ml, mm]; exact or_ne
  have cm : ∀ i : Nat, (1 : Int) + (i : Int) = ((1 + i : Nat) : Int) := fun i => by simp
  have most : max (Ld.n ns b).mx (Ld.n ns' b').mx + 1 = ((max (mxN ns b) (mxN ns' b') + 1 : Nat) : Int) := by rw [mx_n, mx_n, max_c]
  have nlw : ∀ (p : Int → Int → Bool), wit p (Ld.n ns b).w.lvl (Ld.n ns' b').w.lvl (max (Ld.n ns b).w.lon (Ld.n ns' b').w.lon + 1).toNat = wit p (Ld.n ns b).w.lvl (Ld.n ns' b').w.lvl (max (mxN ns b) (mxN ns' b') + 1) := fun p => by
    rw [lon_n, lon_n, max_n]
  have nlw' : ∀ (p : Int → Int → Bool), wit p (Ld.n ns' b').w.lvl (Ld.n ns b).w.lvl (max (Ld.n ns' b').w.lon (Ld.n ns b).w.lon + 1).toNat = wit p (Ld.n ns' b').w.lvl (Ld.n ns b).w.lvl (max (mxN ns b) (mxN ns' b') + 1) := fun p => by
    rw [lon_n, lon_n, max_nc]
  have hF : ∀ i, i < max (mxN ns b) (mxN ns' b') + 1 → (Ld.n ns b).w.lvl (1 + (i : Int)) = (lev ns b (1 + i) : Int) := fun i _ => by rw [cm]; exact lvl_lev (Nat.le_add_right 1 i)
  have hG : ∀ i, i < max (mxN ns b) (mxN ns' b') + 1 → (Ld.n ns' b').w.lvl (1 + (i : Int)) = (lev ns' b' (1 + i) : Int) := fun i _ => by rw [cm]; exact lvl_lev (Nat.le_add_right 1 i)
  have hmn : max (mxN ns b) (mxN ns' b') + 1 ≤ n := Nat.succ_le_of_lt (Nat.max_lt.mpr hmx)
  have r1 : nlwP (Ld.n ns b).w (Ld.n ns' b').w = sortT (rowsP (om.map its ++ oa.map its) k j (max (Ld.n ns b).mx (Ld.n ns' b').mx + 1)) := by
    unfold nlwP
    rw [nlw, ← List.map_append]
    exact rows_is most hmn hn hf hg hF hG (fun i => by rw [ima, decide_eq_true_eq, Int.ofNat_le]) nma
  have r2 : nlwP (Ld.n ns' b').w (Ld.n ns b).w = sortT (rowsP (ol.map its ++ oa.map its) j k (max (Ld.n ns b).mx (Ld.n ns' b').mx + 1)) := by
    unfold nlwP
    rw [nlw', ← List.map_append]
    exact rows_is most hmn hn hg hf hG hF (fun i => by rw [ila, decide_eq_true_eq, Int.ofNat_le]) nla
  have r3 : newP (Ld.n ns b).w (Ld.n ns' b').w = sortT (rowsP (ol.map its ++ om.map its) k j (max (Ld.n ns b).mx (Ld.n ns' b').mx + 1)) := by
    unfold newP
    rw [nlw, ← List.map_append]
    exact rows_is most hmn hn hf hg hF hG (fun i => by rw [ilm]; simp only [bne_iff_ne, ne_eq]; lia) nlm
  have e1 : lessB (Ld.n ns b).w (Ld.n ns' b').w = (om.map its ++ oa.map its).isEmpty := by
    rw [Bool.eq_iff_iff, ← List.map_append, emp_iff, less_n ns ns' b b' n hmx]
    constructor
    · intro h i hi
      have := (ima i).mp hi
      have := h (1 + i) (by simp) (by lia)
      lia
    · intro h t h1 h2
      have := h (t - 1)
      rw [ima] at this
      have e : 1 + (t - 1) = t := by simp [*]
      rw [e] at this
      lia
  have e2 : lessB (Ld.n ns' b').w (Ld.n ns b).w = (ol.map its ++ oa.map its).isEmpty := by
    rw [Bool.eq_iff_iff, ← List.map_append, emp_iff, less_n ns' ns b' b n ⟨hmx.2, hmx.1⟩]
    constructor
    · intro h i hi
      have := (ila i).mp hi
      have := h (1 + i) (by simp) (by lia)
      lia
    · intro h t h1 h2
      have := h (t - 1)
      rw [ila] at this
      have e : 1 + (t - 1) = t := by omega
      rw [e] at this
      lia
  have e3 : eqW (Ld.n ns b).w (Ld.n ns' b').w = (ol.map its ++ om.map its).isEmpty := by
    rw [Bool.eq_iff_iff, ← List.map_append, emp_iff, eqW_n ns ns' b b' n hmx h5 h5']
    constructor
    · intro h i hi
      have := (ilm i).mp hi
      have := h (1 + i) (by simp) (by lia)
      lia
    · intro h t h1 h2
      have := h (t - 1)
      rw [ilm] at this
      have e : 1 + (t - 1) = t := by omega
      rw [e] at this
      lia
  refine ⟨its_ok nma (fun i hi => ((ima i).mp hi).1) (by rw [List.length_append]; lia), its_ok nla (fun i hi => ((ila i).mp hi).1) (by rw [List.length_append]; lia), its_ok nlm (fun i hi => ((ilm i).mp hi).1) (by rw [List.length_append]; lia), ?_⟩
  unfold pairB
  rw [if_neg (fun h => h r1), if_neg (fun h => h r2), if_neg (fun h => h r3), e1, e2, e3]
  exact decide_eq_true rfl
end Mine
end

section
open PySem PySem.W
set_option maxRecDepth 100000
namespace Mine

theorem mx_cast (r g b : Nat) : max (r : Int) (max (g : Int) (b : Int)) = (mx3 r g b : Int) := by
  unfold mx3; rw [Lean.Omega.Int.ofNat_max, Lean.Omega.Int.ofNat_max]
theorem mn_cast (r g b : Nat) : min (r : Int) (min (g : Int) (b : Int)) = (mn3 r g b : Int) := by
  unfold mn3; rw [Lean.Omega.Int.ofNat_min, Lean.Omega.Int.ofNat_min]
theorem spr_cast (r g b : Nat) : spr (r : Int) (g : Int) (b : Int) = (sp3 r g b : Int) := by
  have h : mn3 r g b ≤ mx3 r g b := Nat.le_trans (Nat.min_le_left _ _) (Nat.le_max_left _ _)
  unfold spr sp3
  rw [mx_cast, mn_cast, Int.natCast_sub h]
theorem fmod_is {x y m : Int} (k : Int) (h0 : 0 ≤ y) (h1 : y < m) (e : x = y + m * k) : x.fmod m = y := by
  rw [Int.fmod_eq_emod_of_nonneg _ (Int.le_of_lt (Int.lt_of_le_of_lt h0 h1)), e, Int.add_mul_emod_self_left]
  exact Int.emod_eq_of_lt h0 h1
theorem idx_ne {a x : Nat} {l : List Int} (h : ¬ x = a) : ((x : Int) :: l).idxOf (a : Int) = l.idxOf (a : Int) + 1 := by
  have e : ((x : Int) == (a : Int)) = false := beq_false_of_ne fun e => h (Int.ofNat.inj e)
  rw [List.idxOf_cons, e]; rfl
theorem way_cast {r g b : Nat} (hr : r ≤ 40) (hg : g ≤ 40) (hb : b ≤ 40) (hs : 1 ≤ sp3 r g b) : (wayI (r : Int) (g : Int) (b : Int)).fmod (6 * spr (r : Int) (g : Int) (b : Int)) = (wm3 r g b : Int) := by
  have hw : wm3 r g b < 6 * sp3 r g b := wm_lt (dat3 hr hg hb hs)
  clear hr hg hb hs
  rw [spr_cast]
  suffices h : ∃ k : Int, wayI (r : Int) (g : Int) (b : Int) = (wm3 r g b : Int) + 6 * (sp3 r g b : Int) * k by
    obtain ⟨k, h⟩ := h
    exact fmod_is k (Int.natCast_nonneg _) (by lia) h
  clear hw
  have t0 : ∀ {r g b : Nat}, r = mx3 r g b → wayI (r : Int) (g : Int) (b : Int) = (g : Int) - (b : Int) := by
    intro r g b h
    have ht : topI (r : Int) (g : Int) (b : Int) = 0 := by
      unfold topI
      rw [mx_cast, ← h, List.idxOf_cons_self]
    unfold wayI
    rw [ht]
    show 2 * ((0 : Nat) : Int) * _ + (g : Int) - (b : Int) = _
    simp
  have t1 : ∀ {r g b : Nat}, ¬ r = mx3 r g b → g = mx3 r g b → wayI (r : Int) (g : Int) (b : Int) = 2 * (sp3 r g b : Int) + (b : Int) - (r : Int) := by
    intro r g b h h2
    have ht : topI (r : Int) (g : Int) (b : Int) = 1 := by
      unfold topI
      rw [mx_cast, idx_ne h, ← h2, List.idxOf_cons_self]
    unfold wayI
    rw [ht, spr_cast]
    show 2 * ((1 : Nat) : Int) * _ + (b : Int) - (r : Int) = _
    simp
  have t2 : ∀ {r g b : Nat}, ¬ r = mx3 r g b → ¬ g = mx3 r g b → b = mx3 r g b → wayI (r : Int) (g : Int) (b : Int) = 4 * (sp3 r g b : Int) + (r : Int) - (g : Int) := by
    intro r g b h h2 h3
    have ht : topI (r : Int) (g : Int) (b : Int) = 2 := by
      unfold topI
      rw [mx_cast, idx_ne h, idx_ne h2, ← h3, List.idxOf_cons_self]
    unfold wayI
    rw [ht, spr_cast]
    show 2 * ((2 : Nat) : Int) * _ + (r : Int) - (g : Int) = _
    have : (2 : Int) * ((2 : Nat) : Int) = 4 := by decide
    rw [this]
  refine sector (fun r g b => ∃ k : Int, wayI (r : Int) (g : Int) (b : Int) = (wm3 r g b : Int) + 6 * (sp3 r g b : Int) * k) (fun m u v => ?_) (fun m u v hu => ?_) (fun m u v hu => ?_) (fun m u v hu => ?_) (fun m u v hu hv => ?_) (fun m u v hv => ?_) r g b
  · have S := sec0 m u v
    refine ⟨0, ?_⟩
    rw [t0 S.M.symm, S.w]; clear S; lia
  · have S := sec1 m u v hu
    refine ⟨0, ?_⟩
    rw [t1 (by rw [S.M]; lia) S.M.symm, S.w, S.s]; clear S; lia
  · have S := sec2 m u v hu
    refine ⟨0, ?_⟩
    rw [t1 (by rw [S.M]; lia) S.M.symm, S.w, S.s]; clear S; lia
  · have S := sec3 m u v hu
    refine ⟨0, ?_⟩
    rw [t2 (by rw [S.M]; omega) (by rw [S.M]; omega) S.M.symm, S.w, S.s]; clear S; lia
  · have S := sec4 m u v hu hv
    refine ⟨0, ?_⟩
    rw [t2 (by rw [S.M]; lia) (by rw [S.M]; (clear hv; omega)) S.M.symm, S.w, S.s]; clear S; lia
  · have S := sec5 m u v hv
    refine ⟨-1, ?_⟩
    rw [t0 S.M.symm, S.w, S.s]; clear S; lia
/-- the way tells which column is less -/
noncomputable def WayC (r g b : Nat) : Prop := 1 ≤ sp3 r g b →
    ((sp3 r g b < wm3 r g b ∧ wm3 r g b < 4 * sp3 r g b ↔ r < g) ∧ (wm3 r g b < sp3 r g b ∨ 4 * sp3 r g b < wm3 r g b ↔ g < r)) ∧
    ((0 < wm3 r g b ∧ wm3 r g b < 3 * sp3 r g b ↔ b < g) ∧ (3 * sp3 r g b < wm3 r g b ↔ g < b)) ∧
    ((2 * sp3 r g b < wm3 r g b ∧ wm3 r g b < 5 * sp3 r g b ↔ r < b) ∧ (wm3 r g b < 2 * sp3 r g b ∨ 5 * sp3 r g b < wm3 r g b ↔ b < r))
theorem way_cmp (r g b : Nat) : WayC r g b := sector WayC
  (fun m u v => by
    have S := sec0 m u v
    unfold WayC; rw [S.s, S.w]; clear S; intro hs
    refine ⟨⟨?_, ?_⟩, ⟨?_, ?_⟩, ⟨?_, ?_⟩⟩ <;> lia)
  (fun m u v hu => by
    have S := sec1 m u v hu
    unfold WayC; rw [S.s, S.w]; clear S; intro hs
    refine ⟨⟨?_, ?_⟩, ⟨?_, ?_⟩, ⟨?_, ?_⟩⟩ <;> (first | lia | (clear hu; lia) | omega))
  (fun m u v hu => by
    have S := sec2 m u v hu
    unfold WayC; rw [S.s, S.w]; clear S; intro hs
    refine ⟨⟨?_, ?_⟩, ⟨?_, ?_⟩, ⟨?_, ?_⟩⟩ <;> (first | lia | (clear hu; lia) | omega))
  (fun m u v hu => by
    have S := sec3 m u v hu
    unfold WayC; rw [S.s, S.w]; clear S; intro hs
    refine ⟨⟨?_, ?_⟩, ⟨?_, ?_⟩, ⟨?_, ?_⟩⟩ <;> (first | lia | simp | (clear hu; lia) | omega))
  (fun m u v hu hv => by
    have S := sec4 m u v hu hv
    unfold WayC; rw [S.s, S.w]; clear S; intro hs
    refine ⟨⟨?_, ?_⟩, ⟨?_, ?_⟩, ⟨?_, ?_⟩⟩ <;> (first | lia | simp [*] | (clear hv hu; lia) | omega))
  (fun m u v hv => by
    have S := sec5 m u v hv
    unfold WayC; rw [S.s, S.w]; clear S; intro hs
    refine ⟨⟨?_, ?_⟩, ⟨?_, ?_⟩, ⟨?_, ?_⟩⟩ <;> (first | lia | (clear hs; lia) | (clear hv; lia) | omega)) r g b

-- KEYS
theorem key_lt {κa κb sa sb wa wb W : Int} (ha : 0 < sa) (hb : 0 < sb) (hW : 0 < W) (ea : κa * sa = wa * W) (eb : κb * sb = wb * W) : κa < κb ↔ wa * sb < wb * sa := by
  have h1 : κa < κb ↔ κa * (sa * sb) < κb * (sa * sb) := (Int.mul_lt_mul_right (Int.mul_pos ha hb)).symm
  have h2 : wa * sb < wb * sa ↔ wa * sb * W < wb * sa * W := (Int.mul_lt_mul_right hW).symm
  have e1 : κa * (sa * sb) = wa * sb * W := by rw [← Int.mul_assoc, ea]; ac_rfl
  have e2 : κb * (sa * sb) = wb * sa * W := by rw [Int.mul_comm sa sb, ← Int.mul_assoc, eb]; ac_rfl
  rw [h1, h2, e1, e2]
theorem key_thr {κ s w W : Int} (hs : 0 < s) (hW : 0 < W) (e : κ * s = w * W) (j : Int) : (κ < j * W ↔ w < j * s) ∧ (j * W < κ ↔ j * s < w) := by
  have a := key_lt (κa := κ) (κb := j * W) (sb := 1) (wb := j) hs (by decide) hW e (by rw [Int.mul_one])
  have b := key_lt (κa := j * W) (κb := κ) (sa := 1) (wa := j) (by decide) hs hW (by rw [Int.mul_one]) e
  rw [Int.mul_one] at a b
  exact ⟨a, b⟩
theorem place_key {r g b : Nat} (hr : r ≤ 40) (hg : g ≤ 40) (hb : b ≤ 40) (hs : 1 ≤ sp3 r g b) {W c : Int} (hc : W = (sp3 r g b : Int) * c) : placeI (r : Int) (g : Int) (b : Int) W * (sp3 r g b : Int) = (wm3 r g b : Int) * W := by
  unfold placeI
  rw [way_cast hr hg hb hs, spr_cast, hc]
  have e : (wm3 r g b : Int) * ((sp3 r g b : Int) * c) = ((wm3 r g b : Int) * c) * (sp3 r g b : Int) := by ac_rfl
  rw [e, Int.fdiv_eq_ediv_of_nonneg _ (by simp), Int.mul_ediv_cancel _ (by lia)]
/-- the product of the spreads -/
theorem whole_dvd : ∀ (l : List Rw) (a : Int), 0 < a → (∀ t ∈ l, 0 < t.spr) → 0 < l.foldl (fun a t => a * t.spr) a ∧ (∃ c, l.foldl (fun a t => a * t.spr) a = a * c) ∧ ∀ t ∈ l, ∃ c, l.foldl (fun a t => a * t.spr) a = t.spr * c
  | [], a, ha, _ => ⟨ha, ⟨1, by simp⟩, fun t ht => absurd ht List.not_mem_nil⟩
  | t :: l, a, ha, h => by
    have ht := h t (.head _)
    obtain ⟨h1, ⟨c, h2⟩, h3⟩ := whole_dvd l (a * t.spr) (Int.mul_pos ha ht) (fun x hx => h x (.tail _ hx))
    rw [List.foldl_cons]
    refine ⟨h1, ⟨t.spr * c, by rw [h2, Int.mul_assoc]⟩, fun x hx => ?_⟩
    rcases List.mem_cons.mp hx with rfl | hx
    · exact ⟨a * c, by rw [h2]; ac_rfl⟩
    · exact h3 x hx
end Mine
end

section
open PySem PySem.W
set_option maxRecDepth 100000
namespace Mine

structure NsOk (ns : List Nat) (b : Nat) : Prop where
  len : ns.length ≤ 3
  r : ∀ r ∈ ns, r ≤ 5
  b : b ≤ 6
theorem lev_le {ns : List Nat} {b t : Nat} (h : NsOk ns b) (h1 : 1 ≤ t) (h7 : t ≤ 7) : lev ns b t ≤ 40 := by
  have e : ∀ ns : List Nat, (∀ r ∈ ns, r ≤ 5) → t * (quot ns t + ns.length) ≤ 10 * ns.length := by
    intro ns
    induction ns with
    | nil => intro _; simp [quot]
    | cons r ns ih =>
      intro h
      have i := ih fun x hx => h x (.tail _ hx)
      have hr := h r (.head _)
      have hq : t * (r / t + 1) ≤ 10 := by
        rw [Nat.mul_add, Nat.mul_one]
        by_cases h5 : t ≤ 5
        · have := Nat.mul_div_le r t; lia
        · rw [Nat.div_eq_of_lt (by lia)]; lia
      have e : quot (r :: ns) t + (r :: ns).length = (r / t + 1) + (quot ns t + ns.length) := by
        unfold quot
        rw [List.map_cons, List.sum_cons, List.length_cons]; lia
      rw [e, Nat.mul_add, List.length_cons]; lia
  have := e ns h.r
  have := h.len
  have := h.b
  unfold lev; lia
theorem mx_6 {ns : List Nat} {b : Nat} (h : NsOk ns b) : mxN ns b ≤ 6 := (mxN_le ns b 6).mpr ⟨h.b, fun r hr => by have := h.r r hr; lia⟩
theorem lead_sm {ns : List Nat} {b : Nat} (h : NsOk ns b) : LeadSm (Ld.n ns b).runs (Ld.n ns b).b ∧ (Ld.n ns b).w.Sm := by
  refine ⟨⟨?_, ?_, ?_, ?_⟩, ?_⟩
  · show (intL ns).length ≤ 5
    unfold intL; rw [List.length_map]; have := h.len; lia
  · intro r hr
    obtain ⟨x, hx, rfl⟩ := List.mem_map.mp hr
    have := h.r x hx
    lia
  · show (0 : Int) ≤ (b : Int); simp
  · show (b : Int) ≤ 8; have := h.b; lia
  · rw [wsp_n]
    have := (cntOf_len ns 6).mpr fun r hr => by have := h.r r hr; lia
    exact ⟨by show (cntOf ns).length ≤ 1000; lia, by show (0 : Int) ≤ (b : Int); simp, by show (b : Int) ≤ 1000; have := h.b; lia⟩
noncomputable def itN (R G B : Nat → Nat) (i : Nat) : It := ⟨hueN (R i) (G i) (B i), 1 + (i : Int), R i, G i, B i⟩
noncomputable def grN (R G B : Nat → Nat) (i : Nat) : Bool := decide (sp3 (R i) (G i) (B i) = 0)
noncomputable def rwN (R G B : Nat → Nat) (i : Nat) : Rw := ⟨1 + (i : Int), R i, G i, B i⟩
/-- all but the pairs -/
structure Wheel (R G B : Nat → Nat) (n : Nat) (o : List Nat) (κ : Nat → Int) (W0 : Int) : Prop where
  e : (wheelTo (itN R G B) (grN R G B) n).1 = o.map (itN R G B)
  pw : o.Pairwise (Lex κ)
  mem : ∀ j, j ∈ o ↔ j < n ∧ grN R G B j = false
  pos : 0 < W0
  thr : ∀ i, i < n → grN R G B i = false → ∀ j : Nat, j ≤ 5 → ((Float64.cmp (itN R G B i).h (Rf j 6) == some .lt) = decide (κ i < (j : Int) * W0) ∧ (κ i < (j : Int) * W0 ↔ wm3 (R i) (G i) (B i) < j * sp3 (R i) (G i) (B i))) ∧
    ((Float64.cmp (Rf j 6) (itN R G B i).h == some .lt) = decide ((j : Int) * W0 < κ i) ∧ ((j : Int) * W0 < κ i ↔ j * sp3 (R i) (G i) (B i) < wm3 (R i) (G i) (B i)))
theorem wheel_n {R G B : Nat → Nat} {n : Nat} (hR : ∀ i, i < n → R i ≤ 40) (hG : ∀ i, i < n → G i ≤ 40) (hB : ∀ i, i < n → B i ≤ 40) :
    ∃ o κ W0, Wheel R G B n o κ W0 ∧
      (wheelTo (itN R G B) (grN R G B) n).1.map It.row = (sortR (fun i => (((((List.range n).map (rwN R G B)).filter fun t => decide (0 < t.spr))[i]?).elim 0 fun t => t.place (wholeP (((List.range n).map (rwN R G B)).filter fun t => decide (0 < t.spr))))) (((List.range n).map (rwN R G B)).filter fun t => decide (0 < t.spr))).map Rw.row := by
  have hsp : ∀ i, (rwN R G B i).spr = (sp3 (R i) (G i) (B i) : Int) := fun i => spr_cast _ _ _
  have hL : (((List.range n).map (rwN R G B)).filter fun t => decide (0 < t.spr)) = ((List.range n).filter fun i => !grN R G B i).map (rwN R G B) := by
    rw [List.filter_map]
    congr 1
    refine List.filter_congr fun i _ => ?_
    show decide (0 < (rwN R G B i).spr) = _
    rw [hsp]
    unfold grN
    rw [← decide_not]
    exact decide_eq_decide.mpr (by lia)
  rw [hL]
  generalize hLd : ((List.range n).filter fun i => !grN R G B i) = L
  have hLm : ∀ j, j ∈ L ↔ j < n ∧ grN R G B j = false := fun j => by rw [← hLd, List.mem_filter, List.mem_range]; simp
  have hLp : L.Pairwise (· < ·) := by rw [← hLd]; exact List.Pairwise.filter _ List.pairwise_lt_range
  have sp1 : ∀ j, j < n → grN R G B j = false → 1 ≤ sp3 (R j) (G j) (B j) := fun j _ h => by
    unfold grN at h
    have := of_decide_eq_false h
    (clear h; lia)
  have wd := whole_dvd (L.map (rwN R G B)) 1 (by decide) (fun t ht => by
    obtain ⟨j, hj, rfl⟩ := List.mem_map.mp ht
    rw [hsp]
    have := sp1 j ((hLm j).mp hj).1 ((hLm j).mp hj).2
    lia)
  change 0 < wholeP (L.map (rwN R G B)) ∧ (∃ c, wholeP (L.map (rwN R G B)) = 1 * c) ∧ ∀ t ∈ L.map (rwN R G B), ∃ c, wholeP (L.map (rwN R G B)) = t.spr * c at wd
  generalize wholeP (L.map (rwN R G B)) = W0 at *
  obtain ⟨wpos, _, wdv⟩ := wd
  have key : ∀ j, j < n → grN R G B j = false → (rwN R G B j).place W0 * (sp3 (R j) (G j) (B j) : Int) = (wm3 (R j) (G j) (B j) : Int) * W0 := by
    intro j h1 h2
    obtain ⟨c, hc⟩ := wdv (rwN R G B j) (List.mem_map.mpr ⟨j, (hLm j).mpr ⟨h1, h2⟩, rfl⟩)
    rw [hsp] at hc
    exact place_key (hR j h1) (hG j h1) (hB j h1) (sp1 j h1 h2) hc
  have hue : ∀ j, j < n → grN R G B j = false → (itN R G B j).h = hue3 (R j) (G j) (B j) := by
    intro j h1 h2
    show hueN _ _ _ = _
    unfold hueN
    rw [if_neg (by have := sp1 j h1 h2; lia)]
  have dat : ∀ j, j < n → grN R G B j = false → DatOk (dT (R j) (G j) (B j)) (sp3 (R j) (G j) (B j)) (dY (R j) (G j) (B j)) (dX (R j) (G j) (B j)) := fun j h1 h2 => dat3 (hR j h1) (hG j h1) (hB j h1) (sp1 j h1 h2)
  have H : Wk (itN R G B) (grN R G B) (fun j => (rwN R G B j).place W0) n := by
    refine ⟨fun i j hi hj gi gj => ?_⟩
    rw [hue i hi gi, hue j hj gj]
    have h1 := hue_lt (dat i hi gi) (dat j hj gj)
    have h2 := key_lt (by have := sp1 i hi gi; lia : (0 : Int) < (sp3 (R i) (G i) (B i) : Int)) (by have := sp1 j hj gj; lia : (0 : Int) < (sp3 (R j) (G j) (B j) : Int)) wpos (key i hi gi) (key j hj gj)
    refine h1.trans (decide_eq_decide.mpr (Iff.trans ?_ h2.symm))
    show wm3 (R i) (G i) (B i) * sp3 (R j) (G j) (B j) < wm3 (R j) (G j) (B j) * sp3 (R i) (G i) (B i) ↔ _
    rw [← Int.natCast_mul, ← Int.natCast_mul]
    exact Int.ofNat_lt.symm
  obtain ⟨o, e, pw, mem⟩ := wheel_idx H n (Nat.le_refl _)
  refine ⟨o, fun j => (rwN R G B j).place W0, W0, ⟨e, pw, mem, wpos, fun i hi gi j hj => ?_⟩, ?_⟩
  · have t1 := hue_thr (dat i hi gi) hj
    have t2 := key_thr (by have := sp1 i hi gi; omega : (0 : Int) < (sp3 (R i) (G i) (B i) : Int)) wpos (key i hi gi) (j : Int)
    have c1 : ((wm3 (R i) (G i) (B i) : Int) < (j : Int) * (sp3 (R i) (G i) (B i) : Int)) ↔ wm3 (R i) (G i) (B i) < j * sp3 (R i) (G i) (B i) := by
      rw [← Int.natCast_mul]; exact Int.ofNat_lt
    have c2 : ((j : Int) * (sp3 (R i) (G i) (B i) : Int) < (wm3 (R i) (G i) (B i) : Int)) ↔ j * sp3 (R i) (G i) (B i) < wm3 (R i) (G i) (B i) := by
      rw [← Int.natCast_mul]; exact Int.ofNat_lt
    rw [hue i hi gi]
    exact ⟨⟨t1.1.trans (decide_eq_decide.mpr (t2.1.trans c1).symm), t2.1.trans c1⟩, ⟨t1.2.trans (decide_eq_decide.mpr (t2.2.trans c2).symm), t2.2.trans c2⟩⟩
  · have ho := order_idx (κ := fun j => (rwN R G B j).place W0) (rw_ := rwN R G B) (K := fun i => (((L.map (rwN R G B))[i]?).elim 0 fun t => t.place W0)) hLp (fun i j hij => by rw [List.getElem?_map, hij]; rfl) pw (fun j => (mem j).trans (hLm j).symm)
    rw [ho, e, List.map_map, List.map_map]
    rfl
/-- one corner -/
theorem corner_n {R G B : Nat → Nat} {n : Nat} {o : List Nat} {κ : Nat → Int} {W0 : Int} (H : Wheel R G B n o κ W0) {jl jh : Nat} (h1 : jl < jh) (h2 : jh ≤ 5) : Thr (itN R G B) (grN R G B) κ n (Rf jl 6) (Rf jh 6) ((jl : Int) * W0) ((jh : Int) * W0) :=
  ⟨fun i hi gi => (H.thr i hi gi jl (by lia)).1.1, fun i hi gi => (H.thr i hi gi jl (by omega)).2.1, fun i hi gi => (H.thr i hi gi jh h2).1.1, fun i hi gi => (H.thr i hi gi jh h2).2.1, Int.mul_lt_mul_of_pos_right (by simp [*]) H.pos⟩
theorem cutL_lt {X : List It} {c : Int} {jl jh : Nat} (e1 : c.fmod 3 = (jl : Int)) (e2 : c.fmod 3 + 3 = (jh : Int)) (h : c < 3) : cutL X c = ((cutP X (Rf jl 6) (Rf jh 6)).inner X, (cutP X (Rf jl 6) (Rf jh 6)).outer X, (cutP X (Rf jl 6) (Rf jh 6)).alike X) := by
  unfold cutL
  rw [e2, e1, frac_six, frac_six]
  simp only [if_pos h]
theorem cutL_ge {X : List It} {c : Int} {jl jh : Nat} (e1 : c.fmod 3 = (jl : Int)) (e2 : c.fmod 3 + 3 = (jh : Int)) (h : ¬ c < 3) : cutL X c = ((cutP X (Rf jl 6) (Rf jh 6)).outer X, (cutP X (Rf jl 6) (Rf jh 6)).inner X, (cutP X (Rf jl 6) (Rf jh 6)).alike X) := by
  unfold cutL
  rw [e2, e1, frac_six, frac_six]
  simp only [if_neg h]
end Mine
end

section
open PySem PySem.W
set_option maxRecDepth 100000
namespace Mine

theorem pair_of {R G B : Nat → Nat} {n : Nat} {o : List Nat} {κ : Nat → Int} {W0 : Int} (H : Wheel R G B n o κ W0) (h7 : n ≤ 7) {jl jh : Nat} (h1 : jl < jh) (h2 : jh ≤ 5) {Pi Po : Nat → Prop}
    (inn : ∀ i, i < n → grN R G B i = false → (jl * sp3 (R i) (G i) (B i) < wm3 (R i) (G i) (B i) ∧ wm3 (R i) (G i) (B i) < jh * sp3 (R i) (G i) (B i) ↔ Pi i))
    (out : ∀ i, i < n → grN R G B i = false → (wm3 (R i) (G i) (B i) < jl * sp3 (R i) (G i) (B i) ∨ jh * sp3 (R i) (G i) (B i) < wm3 (R i) (G i) (B i) ↔ Po i))
    (gre : ∀ i, i < n → grN R G B i = true → ¬ Pi i ∧ ¬ Po i) :
    ∃ oi oo oa : List Nat, (cutP (o.map (itN R G B)) (Rf jl 6) (Rf jh 6)).inner (o.map (itN R G B)) = oi.map (itN R G B) ∧ (cutP (o.map (itN R G B)) (Rf jl 6) (Rf jh 6)).outer (o.map (itN R G B)) = oo.map (itN R G B) ∧
      (cutP (o.map (itN R G B)) (Rf jl 6) (Rf jh 6)).alike (o.map (itN R G B)) ++ (wheelTo (itN R G B) (grN R G B) n).2 = oa.map (itN R G B) ∧
      (∀ i, i ∈ oi ↔ i < n ∧ Pi i) ∧ (∀ i, i ∈ oo ↔ i < n ∧ Po i) ∧ (∀ i, i ∈ oa ↔ i < n ∧ ¬ Pi i ∧ ¬ Po i) ∧ oi.Nodup ∧ oo.Nodup ∧ oa.Nodup ∧ oi.length + (oo.length + oa.length) < 64 := by
  obtain ⟨oi, oo, oa, e1, e2, e3, m1, m2, m3, n1, n2, n3, l1, l2, l3⟩ := cut_idx (corner_n H h1 h2) H.pw H.mem
  have hlen := wheelTo_len (itN R G B) (grN R G B) n
  rw [H.e, greys_idx, List.length_map, List.length_map] at hlen
  have gm : ∀ i, i ∈ (List.range n).filter (grN R G B) ↔ i < n ∧ grN R G B i = true := fun i => by rw [List.mem_filter, List.mem_range]
  have kin : ∀ i, i < n → grN R G B i = false → ((jl : Int) * W0 < κ i ∧ κ i < (jh : Int) * W0 ↔ Pi i) := fun i hi gi => by
    rw [(H.thr i hi gi jl (by lia)).2.2, (H.thr i hi gi jh h2).1.2]; exact inn i hi gi
  have kou : ∀ i, i < n → grN R G B i = false → (κ i < (jl : Int) * W0 ∨ (jh : Int) * W0 < κ i ↔ Po i) := fun i hi gi => by
    rw [(H.thr i hi gi jl (by omega)).1.2, (H.thr i hi gi jh h2).2.2]; exact out i hi gi
  have hlt : (jl : Int) * W0 < (jh : Int) * W0 := Int.mul_lt_mul_of_pos_right (by simp [*]) H.pos
  refine ⟨oi, oo, oa ++ (List.range n).filter (grN R G B), e1, e2, ?_, fun i => ?_, fun i => ?_, fun i => ?_, n1, n2, ?_, ?_⟩
  · rw [List.map_append, e3, greys_idx]
  · rw [m1, H.mem]
    constructor
    · rintro ⟨⟨hi, gi⟩, h⟩; exact ⟨hi, (kin i hi gi).mp h⟩
    · rintro ⟨hi, h⟩
      cases gi : grN R G B i with
      | true => exact absurd h (gre i hi gi).1
      | false => exact ⟨⟨hi, rfl⟩, (kin i hi gi).mpr h⟩
  · rw [m2, H.mem]
    constructor
    · rintro ⟨⟨hi, gi⟩, h⟩; exact ⟨hi, (kou i hi gi).mp h⟩
    · rintro ⟨hi, h⟩
      cases gi : grN R G B i with
      | true => exact absurd h (gre i hi gi).2
      | false => exact ⟨⟨hi, rfl⟩, (kou i hi gi).mpr h⟩
  · rw [List.mem_append, m3, H.mem, gm]
    constructor
    · rintro (⟨⟨hi, gi⟩, h⟩ | ⟨hi, gi⟩)
      · refine ⟨hi, fun hp => ?_, fun hp => ?_⟩
        · have := (kin i hi gi).mpr hp; grind
        · have := (kou i hi gi).mpr hp; omega
      · exact ⟨hi, gre i hi gi⟩
    · rintro ⟨hi, h, h'⟩
      cases gi : grN R G B i with
      | true => exact .inr ⟨hi, rfl⟩
      | false =>
        refine .inl ⟨⟨hi, rfl⟩, ?_⟩
        have a : ¬ ((jl : Int) * W0 < κ i ∧ κ i < (jh : Int) * W0) := fun q => h ((kin i hi gi).mp q)
        have c : ¬ (κ i < (jl : Int) * W0 ∨ (jh : Int) * W0 < κ i) := fun q => h' ((kou i hi gi).mp q)
        generalize (jl : Int) * W0 = x at *
        generalize (jh : Int) * W0 = y at *
        lia
  · rw [List.nodup_append]
    refine ⟨n3, (List.nodup_range).sublist List.filter_sublist, fun a ha c hc e => ?_⟩
    subst e
    have h3 := (H.mem a).mp ((m3 a).mp ha).1
    have h4 := (gm a).mp hc
    rw [h3.2] at h4
    exact Bool.false_ne_true h4.2
  · rw [List.length_append]; lia
theorem max3_mem (a b c : Nat) : max a (max b c) = a ∨ max a (max b c) = b ∨ max a (max b c) = c := by
  rcases Nat.le_total (max b c) a with h | h
  · exact .inl (Nat.max_eq_left h)
  · rw [Nat.max_eq_right h]
    rcases Nat.le_total c b with h | h
    · exact .inr (.inl (Nat.max_eq_left h))
    · exact .inr (.inr (Nat.max_eq_right h))
theorem three_of {i : Nat} (h : i < 3) : i = 0 ∨ i = 1 ∨ i = 2 := by lia
theorem eq_nlt {a b : Nat} {p : Prop} : (p ∧ ¬ a < b ∧ ¬ b < a) ↔ (p ∧ a = b) := ⟨fun h => ⟨h.1, Nat.le_antisymm (Nat.not_lt.mp h.2.2) (Nat.not_lt.mp h.2.1)⟩, fun h => ⟨h.1, by rw [h.2]; exact ⟨Nat.lt_irrefl _, Nat.lt_irrefl _⟩⟩⟩
theorem eq_nlt' {a b : Nat} {p : Prop} : (p ∧ ¬ b < a ∧ ¬ a < b) ↔ (p ∧ a = b) := ⟨fun h => ⟨h.1, Nat.le_antisymm (Nat.not_lt.mp h.2.1) (Nat.not_lt.mp h.2.2)⟩, fun h => ⟨h.1, by rw [h.2]; exact ⟨Nat.lt_irrefl _, Nat.lt_irrefl _⟩⟩⟩
theorem nlt2 {a b : Nat} (h : a = b) : ¬ a < b ∧ ¬ b < a := by rw [h]; exact ⟨Nat.lt_irrefl _, Nat.lt_irrefl _⟩
theorem cm1 (i : Nat) : (1 : Int) + (i : Int) = ((1 + i : Nat) : Int) := by simp
theorem col_sm {c : Nat} (h : c ≤ 40) : (0 : Int) ≤ (c : Int) ∧ (c : Int) ≤ 1000 := ⟨Int.natCast_nonneg _, Int.ofNat_le.mpr (Nat.le_trans h (by decide))⟩
theorem agree_n {ns0 ns1 ns2 : List Nat} {b0 b1 b2 : Nat} (k0 : NsOk ns0 b0) (k1 : NsOk ns1 b1) (k2 : NsOk ns2 b2) : ∃ M n its gr, AgreeF (Ld.n ns0 b0) (Ld.n ns1 b1) (Ld.n ns2 b2) M n its gr := by
  have mle : max (mxN ns0 b0) (max (mxN ns1 b1) (mxN ns2 b2)) ≤ 6 := Nat.max_le.mpr ⟨mx_6 k0, Nat.max_le.mpr ⟨mx_6 k1, mx_6 k2⟩⟩
  have z0 : mxN ns0 b0 ≤ max (mxN ns0 b0) (max (mxN ns1 b1) (mxN ns2 b2)) := Nat.le_max_left _ _
  have z1 : mxN ns1 b1 ≤ max (mxN ns0 b0) (max (mxN ns1 b1) (mxN ns2 b2)) := Nat.le_trans (Nat.le_max_left _ _) (Nat.le_max_right _ _)
  have z2 : mxN ns2 b2 ≤ max (mxN ns0 b0) (max (mxN ns1 b1) (mxN ns2 b2)) := Nat.le_trans (Nat.le_max_right _ _) (Nat.le_max_right _ _)
  have zm := max3_mem (mxN ns0 b0) (mxN ns1 b1) (mxN ns2 b2)
  generalize max (mxN ns0 b0) (max (mxN ns1 b1) (mxN ns2 b2)) = M at *
  have hn7 : M + 1 ≤ 7 := Nat.succ_le_succ mle
  have h17 : ∀ i, i < M + 1 → 1 + i ≤ 7 := fun i hi => by rw [Nat.add_comm]; exact Nat.le_trans hi hn7
  generalize hnM : M + 1 = n at *
  have hR : ∀ i, i < n → lev ns0 b0 (1 + i) ≤ 40 := fun i hi => lev_le k0 (Nat.le_add_right 1 i) (h17 i hi)
  have hG : ∀ i, i < n → lev ns1 b1 (1 + i) ≤ 40 := fun i hi => lev_le k1 (Nat.le_add_right 1 i) (h17 i hi)
  have hB : ∀ i, i < n → lev ns2 b2 (1 + i) ≤ 40 := fun i hi => lev_le k2 (Nat.le_add_right 1 i) (h17 i hi)
  have hrow : ∀ m, rowsTo (Ld.n ns0 b0) (Ld.n ns1 b1) (Ld.n ns2 b2) m = (List.range m).map (rwN (fun i => lev ns0 b0 (1 + i)) (fun i => lev ns1 b1 (1 + i)) (fun i => lev ns2 b2 (1 + i))) := by
    intro m
    unfold rowsTo
    congr 1
    funext i
    unfold rowAt rwN
    rw [cm1 i, col_lev (Nat.le_add_right 1 i), col_lev (Nat.le_add_right 1 i), col_lev (Nat.le_add_right 1 i)]
  have hlvl : ∀ (ns : List Nat) (b i : Nat), (Ld.n ns b).w.lvl (1 + (i : Int)) = (lev ns b (1 + i) : Int) := fun ns b i => by rw [cm1 i]; exact lvl_lev (Nat.le_add_right 1 i)
  generalize hRd : (fun i => lev ns0 b0 (1 + i)) = R at *
  generalize hGd : (fun i => lev ns1 b1 (1 + i)) = G at *
  generalize hBd : (fun i => lev ns2 b2 (1 + i)) = B at *
  have vR : ∀ i, lev ns0 b0 (1 + i) = R i := fun i => by rw [← hRd]
  have vG : ∀ i, lev ns1 b1 (1 + i) = G i := fun i => by rw [← hGd]
  have vB : ∀ i, lev ns2 b2 (1 + i) = B i := fun i => by rw [← hBd]
  have hR' : ∀ i, i < n → R i ≤ 40 := fun i hi => by rw [← vR]; exact hR i hi
  have hG' : ∀ i, i < n → G i ≤ 40 := fun i hi => by rw [← vG]; exact hG i hi
  have hB' : ∀ i, i < n → B i ≤ 40 := fun i hi => by rw [← vB]; exact hB i hi
  obtain ⟨o, κ, W0, H, hwh⟩ := wheel_n hR' hG' hB'
  have hsp : ∀ i, (rwN R G B i).spr = (sp3 (R i) (G i) (B i) : Int) := fun i => spr_cast _ _ _
  have eqg : ∀ i, i < n → grN R G B i = true → R i = G i ∧ G i = B i := by
    intro i hi h
    unfold grN at h
    obtain ⟨_, e1, e2, e3⟩ := sp0 (of_decide_eq_true h)
    exact ⟨e1.trans e2.symm, e2.trans e3.symm⟩
  have wc : ∀ i, i < n → grN R G B i = false → _ := fun i hi gi => way_cmp (R i) (G i) (B i) (Nat.pos_of_ne_zero (of_decide_eq_false gi))
  refine ⟨(M : Int), n, itN R G B, grN R G B, ?_⟩
  constructor
  · intro l hl
    simp only [List.mem_cons, List.not_mem_nil, or_false] at hl
    rcases hl with rfl | rfl | rfl
    · exact lead_sm k0
    · exact lead_sm k1
    · exact lead_sm k2
  · rw [mx_n, mx_n, mx_n]
    rcases zm with e | e | e <;> rw [e]
    · exact .head _
    · exact .tail _ (.head _)
    · exact .tail _ (.tail _ (.head _))
  · rw [mx_n, mx_n, mx_n]
    intro a ha
    simp only [List.mem_cons, List.not_mem_nil, or_false] at ha
    rcases ha with rfl | rfl | rfl
    · exact Int.ofNat_le.mpr z0
    · exact Int.ofNat_le.mpr z1
    · exact Int.ofNat_le.mpr z2
  · exact Int.natCast_nonneg _
  · exact Int.ofNat_le.mpr (Nat.le_trans mle (by decide))
  · rw [← hnM]; exact Int.toNat_natCast (M + 1)
  · intro i hi
    refine ⟨rfl, ?_⟩
    rw [hlvl, hlvl, hlvl, vR, vG, vB]
    cases gi : grN R G B i with
    | true =>
      have hz : sp3 (R i) (G i) (B i) = 0 := by unfold grN at gi; exact of_decide_eq_true gi
      unfold itN hueN
      rw [if_pos hz]
      exact size_grey (hR' i hi) (hG' i hi) (hB' i hi) hz
    | false =>
      have hz : sp3 (R i) (G i) (B i) ≠ 0 := by unfold grN at gi; exact of_decide_eq_false gi
      unfold itN hueN
      rw [if_neg hz]
      exact size_ng (hR' i hi) (hG' i hi) (hB' i hi) (Nat.pos_of_ne_zero hz)
  · intro t ht
    rw [hrow] at ht
    obtain ⟨i, hi, rfl⟩ := List.mem_map.mp ht
    have hi := List.mem_range.mp hi
    exact ⟨col_sm (hR' i hi), col_sm (hG' i hi), col_sm (hB' i hi)⟩
  · rw [greys_idx, hrow, List.filter_map, List.map_map, List.map_map]
    have e : (fun t : Rw => decide (t.spr = 0)) ∘ rwN R G B = grN R G B := by
      funext i
      show decide ((rwN R G B i).spr = 0) = _
      rw [hsp]
      unfold grN
      exact decide_eq_decide.mpr Int.natCast_eq_zero
    rw [e]
    rfl
  · unfold colored
    rw [hrow]
    exact hwh
  · intro i hi3
    have y0 : mxN ns0 b0 < n := hnM ▸ Nat.lt_succ_of_le z0
    have y1 : mxN ns1 b1 < n := hnM ▸ Nat.lt_succ_of_le z1
    have y2 : mxN ns2 b2 < n := hnM ▸ Nat.lt_succ_of_le z2
    rw [H.e]
    rcases three_of hi3 with rfl | rfl | rfl
    · obtain ⟨oi, oo, oa, e1, e2, e3, m1, m2, m3, n1, n2, n3, l⟩ := pair_of H hn7 (jl := 1) (jh := 4) (by decide) (by decide) (Pi := fun i => R i < G i) (Po := fun i => G i < R i)
        (fun i hi gi => by rw [Nat.one_mul]; exact (wc i hi gi).1.1) (fun i hi gi => by rw [Nat.one_mul]; exact (wc i hi gi).1.2) (fun i hi gi => nlt2 (eqg i hi gi).1)
      have c := cutL_lt (X := o.map (itN R G B)) (c := 2 * ((0 : Nat) : Int) + 1) (jl := 1) (jh := 4) (by decide) (by decide) (by decide)
      rw [c]
      simp only
      rw [e1, e2, e3]
      exact pair_true (k := 0) (j := 1) k0.r k1.r ⟨y0, y1⟩ (fun i hi => rfl) (fun i hi => by rw [vR]; rfl) (fun i hi => by rw [vG]; rfl)
        (fun i => by rw [m1, vR, vG]) (fun i => by rw [m2, vR, vG]) (fun i => by rw [m3, vR, vG]; exact eq_nlt) n1 n2 n3 l
    · obtain ⟨oi, oo, oa, e1, e2, e3, m1, m2, m3, n1, n2, n3, l⟩ := pair_of H hn7 (jl := 0) (jh := 3) (by decide) (by decide) (Pi := fun i => B i < G i) (Po := fun i => G i < B i)
        (fun i hi gi => by rw [Nat.zero_mul]; exact (wc i hi gi).2.1.1) (fun i hi gi => by rw [Nat.zero_mul]; exact ⟨fun h => (wc i hi gi).2.1.2.mp (h.resolve_left (Nat.not_lt_zero _)), fun h => .inr ((wc i hi gi).2.1.2.mpr h)⟩) (fun i hi gi => nlt2 (eqg i hi gi).2.symm)
      have c := cutL_ge (X := o.map (itN R G B)) (c := 2 * ((1 : Nat) : Int) + 1) (jl := 0) (jh := 3) (by decide) (by decide) (by decide)
      rw [c]
      simp only
      rw [e1, e2, e3]
      exact pair_true (k := 1) (j := 2) k1.r k2.r ⟨y1, y2⟩ (fun i hi => rfl) (fun i hi => by rw [vG]; rfl) (fun i hi => by rw [vB]; rfl)
        (fun i => by rw [m2, vG, vB]) (fun i => by rw [m1, vG, vB]) (fun i => by rw [m3, vG, vB]; exact eq_nlt') n2 n1 n3 (by rw [Nat.add_left_comm]; exact l)
    · obtain ⟨oi, oo, oa, e1, e2, e3, m1, m2, m3, n1, n2, n3, l⟩ := pair_of H hn7 (jl := 2) (jh := 5) (by decide) (by decide) (Pi := fun i => R i < B i) (Po := fun i => B i < R i)
        (fun i hi gi => (wc i hi gi).2.2.1) (fun i hi gi => (wc i hi gi).2.2.2) (fun i hi gi => nlt2 ((eqg i hi gi).1.trans (eqg i hi gi).2))
      have c := cutL_ge (X := o.map (itN R G B)) (c := 2 * ((2 : Nat) : Int) + 1) (jl := 2) (jh := 5) (by decide) (by decide) (by decide)
      rw [c]
      simp only
      rw [e1, e2, e3]
      exact pair_true (k := 2) (j := 0) k2.r k0.r ⟨y2, y0⟩ (fun i hi => rfl) (fun i hi => by rw [vB]; rfl) (fun i hi => by rw [vR]; rfl)
        (fun i => by rw [m2, vB, vR]) (fun i => by rw [m1, vB, vR]) (fun i => by rw [m3, vB, vR]; exact eq_nlt') n2 n1 n3 (by rw [Nat.add_left_comm]; exact l)

-- THE LEADS OF THE LAW
theorem mod_nn (d : Int) {m : Int} (hm : 0 < m) : 0 ≤ d.fmod m ∧ d.fmod m < m := by
  rw [Int.fmod_eq_emod_of_nonneg _ (by lia)]
  exact ⟨Int.emod_nonneg _ (by lia), Int.emod_lt_of_pos _ hm⟩
theorem ld_eq {a a' : List Int} {b b' : Int} (h : a = a') (h2 : b = b') : (⟨a, b⟩ : Ld) = ⟨a', b'⟩ := by rw [h, h2]
theorem lead_n {ns : List Nat} {b r0 c0 : Nat} (d : Int) (hl : ns.length ≤ 3) (hr : ∀ r ∈ ns, r ≤ r0) (hb : b ≤ c0) (h2 : 2 ≤ r0) (h3 : 3 ≤ c0) :
    ∃ ns2 b2, Ld.of (leadP d (intL ns) (b : Int)) = Ld.n ns2 b2 ∧ ns2.length ≤ 3 ∧ (∀ r ∈ ns2, r ≤ r0 + 1) ∧ b2 ≤ c0 + 1 := by
  have rev : (intL ns).reverse = intL ns.reverse := by unfold intL; rw [List.map_reverse]
  unfold leadP
  split
  · have m1 := mod_nn (d.fdiv 4) (m := 4) (by decide)
    have m2 := mod_nn (d.fdiv 1024) (m := 5) (by decide)
    refine ⟨(List.range ((d.fdiv 4).fmod 4).toNat).map fun j => ((d.fdiv (4 ^ (2 + j))).fmod 4).toNat, ((d.fdiv 1024).fmod 5).toNat, ?_, ?_, ?_, ?_⟩
    · unfold Ld.of Ld.n intL
      rw [List.map_map]
      refine ld_eq (List.map_congr_left fun j _ => ?_) (Int.toNat_of_nonneg m2.1).symm
      have := mod_nn (d.fdiv (4 ^ (2 + j))) (m := 4) (by decide)
      simp only [Function.comp]
      omega
    · rw [List.length_map, List.length_range]; (clear m1; lia)
    · intro r hr
      obtain ⟨j, _, rfl⟩ := List.mem_map.mp hr
      have := mod_nn (d.fdiv (4 ^ (2 + j))) (m := 4) (by decide)
      omega
    · (clear m2; lia)
  · split
    · exact ⟨ns.reverse, b, by rw [rev]; rfl, by rw [List.length_reverse]; exact hl, fun r h => by have := hr r (List.mem_reverse.mp h); lia, by lia⟩
    · split
      · exact ⟨ns.reverse, b + 1, by rw [rev]; rfl, by rw [List.length_reverse]; exact hl, fun r h => by have := hr r (List.mem_reverse.mp h); omega, by simp [*]⟩
      · refine ⟨ns.reverse.map (· + 1), b, ?_, by rw [List.length_map, List.length_reverse]; exact hl, fun r h => ?_, by lia⟩
        · rw [rev]
          unfold Ld.of Ld.n intL
          rw [List.map_map, List.map_map]
          refine ld_eq (List.map_congr_left fun j _ => ?_) rfl
          simp
        · obtain ⟨x, hx, rfl⟩ := List.mem_map.mp h
          have := hr x (List.mem_reverse.mp hx); simp [*]
theorem plain_all (ns : List Int) : (firstL ns).runs.length ≤ 3 ∧ (secondL ns).runs.length ≤ 3 ∧ ∃ M n its gr, AgreeF (firstL ns) (secondL ns) (thirdL ns) M n its gr := by
  obtain ⟨n0, b0, e0, l0, r0, c0⟩ := lead_n (ns := [2, 0]) (b := 1) (r0 := 2) (c0 := 3) ((drawTo ns ns.length).getD 0 0) (by simp) (by intro r hr; simp at hr; lia) (by simp) (by simp) (by simp)
  have f0 : firstL ns = Ld.n n0 b0 := e0
  obtain ⟨n1, b1, e1, l1, r1, c1⟩ := lead_n (ns := n0) (b := b0) (r0 := 3) (c0 := 4) ((drawTo ns ns.length).getD 1 0) l0 r0 c0 (by simp) (by simp)
  have f1 : secondL ns = Ld.n n1 b1 := by unfold secondL; rw [f0]; exact e1
  obtain ⟨n2, b2, e2, l2, r2, c2⟩ := lead_n (ns := n1) (b := b1) (r0 := 4) (c0 := 5) ((drawTo ns ns.length).getD 2 0) l1 r1 c1 (by simp) (by simp)
  have f2 : thirdL ns = Ld.n n2 b2 := by unfold thirdL; rw [f1]; exact e2
  have len : ∀ (ns : List Nat) b, (Ld.n ns b).runs.length = ns.length := fun ns b => by show (intL ns).length = _; unfold intL; rw [List.length_map]
  rw [f0, f1, f2]
  refine ⟨by rw [len]; exact l0, by rw [len]; exact l1, agree_n ⟨l0, fun r h => by have := r0 r h; lia, by lia⟩ ⟨l1, fun r h => by have := r1 r h; lia, by lia⟩ ⟨l2, fun r h => by have := r2 r h; omega, by omega⟩⟩
end Mine
end

section
open PySem PySem.W PyProof.Rows
set_option maxRecDepth 100000
set_option maxHeartbeats 8000000
namespace Mine
theorem kw (q : PySem.Params) : KW (KK q) where
  max_ := by kernel_rfl
  min_ := by kernel_rfl
  len_ := by kernel_rfl
  range_ := by kernel_rfl
  a_n := by constructor <;> kernel_rfl
  a_nt := by constructor <;> kernel_rfl
  a_norm := by constructor <;> kernel_rfl
  a_simple := by constructor <;> kernel_rfl
  m_longest := by constructor <;> kernel_rfl
  m_indent := by constructor <;> kernel_rfl
  m_equal := by constructor <;> kernel_rfl
  m_neq := by constructor <;> kernel_rfl
  m_less := by constructor <;> kernel_rfl
  m_nless := by constructor <;> kernel_rfl
  d_longest := ⟨⟨_, _, _, _, _, _, _, rfl⟩, by kernel_rfl, by kernel_rfl⟩
  d_indent := ⟨⟨_, _, _, _, _, _, _, rfl⟩, by kernel_rfl, by kernel_rfl⟩
  d_equal := ⟨⟨_, _, _, _, _, _, _, rfl⟩, by kernel_rfl, by kernel_rfl⟩
  d_neq := ⟨⟨_, _, _, _, _, _, _, rfl⟩, by kernel_rfl, by kernel_rfl⟩
  d_less := ⟨⟨_, _, _, _, _, _, _, rfl⟩, by kernel_rfl, by kernel_rfl⟩
  d_nless := ⟨⟨_, _, _, _, _, _, _, rfl⟩, by kernel_rfl, by kernel_rfl⟩
theorem kb (q : PySem.Params) : KB (KK q) where
  len_ := by kernel_rfl
  g_bisR := by kernel_rfl
  t_insort := ⟨_, _, _, rfl, rfl⟩
  t_bisR := ⟨_, _, _, rfl, rfl⟩
  t_bisL := ⟨_, _, _, rfl, rfl⟩
  d_insort := ⟨⟨_, _, _, _, _, _, _, rfl⟩, by kernel_rfl, by kernel_rfl⟩
  d_bisR := ⟨⟨_, _, _, _, _, _, _, rfl⟩, by kernel_rfl, by kernel_rfl⟩
  d_bisL := ⟨⟨_, _, _, _, _, _, _, rfl⟩, by kernel_rfl, by kernel_rfl⟩
theorem kc (q : PySem.Params) : KC (KK q) where
  max_ := by kernel_rfl
  min_ := by kernel_rfl
  int_ := by kernel_rfl
  d_rgb := ⟨⟨_, _, _, _, _, _, _, rfl⟩, by kernel_rfl, by kernel_rfl⟩
  d_hsv := ⟨⟨_, _, _, _, _, _, _, rfl⟩, by kernel_rfl, by kernel_rfl⟩
theorem kt (q : PySem.Params) : KT (KK q) where
  d_text := ⟨⟨_, _, _, _, _, _, _, rfl⟩, by kernel_rfl, by kernel_rfl⟩
theorem ki (q : PySem.Params) : KI (KK q) where
  len_ := by kernel_rfl
  tuple_ := by kernel_rfl
  g_W := by kernel_rfl
  k_W := by kernel_rfl
  mkW := by kernel_rfl
  ini := by kernel_rfl
  fn := by kernel_rfl
  set_ := by kernel_rfl
  over := by kernel_rfl
  hasd := by kernel_rfl
  s_raw := by constructor <;> kernel_rfl
  s_n := by constructor <;> kernel_rfl
  s_nt := by constructor <;> kernel_rfl
  s_norm := by constructor <;> kernel_rfl
  s_simple := by constructor <;> kernel_rfl
  a_raw := by constructor <;> kernel_rfl
  c_S := ⟨.type "type", 202, by kernel_rfl, by kernel_rfl, by kernel_rfl⟩
  c_T := ⟨.type "type", 203, by kernel_rfl, by kernel_rfl, by kernel_rfl⟩
  d_init := ⟨⟨_, _, _, _, _, _, _, rfl⟩, by kernel_rfl, by kernel_rfl⟩
theorem kr (q : PySem.Params) : KR (KK q) where
  sorted_ := by kernel_rfl
  d_rows := ⟨⟨_, _, _, _, _, _, _, rfl⟩, by kernel_rfl, by kernel_rfl⟩
  d_pair := ⟨⟨_, _, _, _, _, _, _, rfl⟩, by kernel_rfl, by kernel_rfl⟩
  d_order := ⟨⟨_, _, _, _, _, _, _, rfl⟩, by kernel_rfl, by kernel_rfl⟩
  g_rows := by kernel_rfl
  g_place := by kernel_rfl
  g_spread := by kernel_rfl
theorem ku (q : PySem.Params) : KU (KK q) where
  g_bisL := by kernel_rfl
  d_cut := ⟨⟨_, _, _, _, _, _, _, rfl⟩, by kernel_rfl, by kernel_rfl⟩
theorem kv (q : PySem.Params) : KV (KK q) where
  g_rgb := by kernel_rfl
  g_hsv := by kernel_rfl
  g_insort := by kernel_rfl
  range_ := by kernel_rfl
  int_ := by kernel_rfl
  k_rgb := by kernel_rfl
  k_hsv := by kernel_rfl
  d_wheel := ⟨⟨_, _, _, _, _, _, _, rfl⟩, by kernel_rfl, by kernel_rfl⟩
theorem ka (q : PySem.Params) : KA (KK q) where
  max_ := by kernel_rfl
  range_ := by kernel_rfl
  g_text := by kernel_rfl
  g_column := by kernel_rfl
  g_spread := by kernel_rfl
  g_wheel := by kernel_rfl
  g_order := by kernel_rfl
  g_cut := by kernel_rfl
  g_pair := by kernel_rfl
  d_agrees := ⟨⟨_, _, _, _, _, _, _, rfl⟩, by kernel_rfl, by kernel_rfl⟩
theorem kd (q : PySem.Params) : KD (KK q) := by
  constructor <;> first | kernel_rfl | exact ⟨⟨_, _, _, _, _, _, _, rfl⟩, by kernel_rfl, by kernel_rfl⟩
theorem kl (q : PySem.Params) : KL (KK q) where
  min_ := by kernel_rfl
  len_ := by kernel_rfl
  range_ := by kernel_rfl
  g_draws := by kernel_rfl
  g_lead := by kernel_rfl
  g_agrees := by kernel_rfl
  d_draws := ⟨⟨_, _, _, _, _, _, _, rfl⟩, by kernel_rfl, by kernel_rfl⟩
end Mine
end

section
open PySem PySem.W PyProof.Rows
set_option maxRecDepth 100000
set_option maxHeartbeats 8000000
namespace Mine
noncomputable def Plain : Prop := ∀ ns : List Int, ns.length ≤ 63 → (firstL ns).runs.length ≤ 3 ∧ (secondL ns).runs.length ≤ 3 ∧ ∃ M n its gr, AgreeF (firstL ns) (secondL ns) (thirdL ns) M n its gr
theorem law_go {prog : Program} {w : World} {p : Program} {loose : List Str} {mean : ExcName → Option Value} {mg mb : Str → Option Value} {K : Frag} (X : KL K) (XA : KA K) (XV : KV K) (XU : KU K) (XI : KI K) (XTx : KT K) (XD : KD K) (XR : KR K) (XB : KB K) (XC : KC K) (XW : KW K)
    {s : Shared} {g : Heap} {L fa a : Addr} {cd : Value} {ns : List Int} {vs : List Value} {m : Str → Option Value} {Q : Flow → Shared → Prop} {E : Value → Shared → Prop} (plain : Plain) (hz : ns.length ≤ 63) (X' : K.In g) (T' : Top p loose mean mg mb g) (K' : Below callerA g [] g) (F' : Fr g L s.heap m) (hm : m "script" = some (.ref a)) (N' : News g L s.heap [(173, tabObj #[]), (168, tabObj #[]), (161, tabObj #[])])
    (hl : g.IsList a vs.toArray) (hi : IntsAre vs ns) (c1 : CodeHd g 177 173) (c2 : CodeHd g 170 168) (c3 : CodeHd g 165 161)
    (hQ : ∀ s', (∀ b o, g.get? b = some o → s'.heap.get? b = some o) → s'.os = s.os → s'.gens = s.gens → GrownAt 173 s'.heap → GrownAt 168 s'.heap → GrownAt 161 s'.heap → Q (.ret (.bool true)) s') :
    wpAny (model prog w) (callerA.deeper (envX "law" (scD (stm 22)) L fa cd [])) (execs (bodyD (stm 22)) (envX "law" (scD (stm 22)) L fa cd [])) Q E s := by
  obtain ⟨p1, p2, M, n, its, gr, A⟩ := plain ns hz
  let P : Wd := { prog := prog, w := w, p := p, loose := loose, mean := mean, mg := mg, mb := mb, K := K, gens := s.gens, drawn := s.drawn, os := s.os, tabs := [(177, 173, ("_law_cut.<locals>.<lambda>" : Str)), (170, 168, ("_law_wheel.<locals>.<lambda>" : Str)), (165, 161, ("_law_order.<locals>.<lambda>" : Str))] }
  let e := envX "law" (scD (stm 22)) L fa cd []
  let C : Cx P := { A := callerA.deeper e, env := e, fenv := e, L := L, g := g, cm := none }
  have O : CxOk C 310 := ⟨⟨_, _, _, K', rfl⟩, X', T', rfl, rfl, rfl, rfl, fun _ => rfl, rfl, (show callerA.depth + 1 ≤ 310 by decide), (show callerA.units + 3 ≤ 10 * 310 by decide), ⟨c1, c2, c3, trivial⟩, List.nodup_nil⟩
  have F : Fd C 310 "law" (scD (stm 22)) fa cd := ⟨O, rfl, rfl⟩
  have XT : TabsP P := ⟨by simp [P], by simp [P], by simp [P]⟩
  have emp : ∀ q : Str, TabOk [] q #[] := fun q => ⟨by trivial, fun pos cv h => by cases h⟩
  have S0 : St C [] m [] [] s := ⟨⟨m, rfl, F'⟩, ⟨_, .cons (emp _) (.cons (emp _) (.cons (emp _) .nil)), N', by decide, by simp⟩, List.Subset.refl _, rfl, rfl, rfl⟩
  have E0 : EnvRep C [] m [] [] (Γof ((["script"] : List Str).zip [.val (.ref a)])) := by
    refine ⟨fun x gg e => ?_, fun x y b ds es e _ => ?_, fun x c e => by cases e⟩
    · unfold Γof at e
      by_cases hx : x = "script"
      · subst hx
        cases e
        exact ⟨_, hm, .val _⟩
      · have : (((["script"] : List Str).zip [D.val (.ref a)]).reverse.lookup x) = none := by
          simp [hx]
        rw [this] at e; cases e
    · unfold Γof at e
      cases q : (((["script"] : List Str).zip [D.val (.ref a)]).reverse.lookup x) <;> rw [q] at e <;> cases e
  refine wpAny_mono (law_body (C := C) X XA XV XU XI XTx XD XR XB XC XW XT F (by decide) ⟨vs, hl, hi⟩ hz p1 p2 A E0 S0 (Q := Q) (fun _ _ _ _ _ _ h => h.elim) (fun m' fz' mu' s' v d k' hd r' S' => ?_) (fun _ _ _ _ _ _ h => h.elim)) (fun _ _ h => h) (fun _ _ h => h.elim)
  subst hd
  obtain rfl := r'.bool_inv
  obtain ⟨tb, T, N, _⟩ := S'.N
  have gt : ∀ b o, (b, o) ∈ tb → s'.heap.get? b = some o := fun b o h => (N _ (List.mem_append_right _ (List.mem_append_right _ h))).1
  cases T with | cons t1 T => cases T with | cons t2 T => cases T with | cons t3 T =>
  cases T
  exact hQ s' S'.keep S'.wd.2.2 S'.wd.1 ⟨_, gt _ _ (.head _)⟩ ⟨_, gt _ _ (.tail _ (.head _))⟩ ⟨_, gt _ _ (.tail _ (.tail _ (.head _)))⟩
theorem xt_ (s : Shared) (e : (xlAt vw [] s && recOk (RowW.records rr) s) = true) : XL vw [] (s.heap.nsMap mainGlobals) s.heap ∧ RecFacts (RowW.records rr) s.heap :=
  let ⟨x, y⟩ := Bool.and_eq_true_iff.mp e
  ⟨xl_of s x, recFacts_of y⟩
theorem ok_ : (chainsOk vw && opensWell pgm && (frees rr && rr.within.isEmpty)) = true := by decide +kernel
theorem bare_ : pgm.bare := ⟨rfl, rfl, rfl, rfl, rfl, by decide +kernel⟩
theorem fin (plain : Plain) : PySem.Challenge.rw_pg0266_01.Holds := by
  w_on
  refine holds_law lawSaid fun said => ?_
  refine holds_open (left := hl_) (hY := Hook.of _) (hYk := Hook.keeps _) (hX := fun s e => (xt_ s e).1) (hXk := XL.keeps) (hRf := fun s e => (xt_ s e).2) (k1 := said) (ok := ok_) (hb := bare_) (hdef := by rfl) (hp := by rfl) (hk := by rfl) (hwr := by rfl) (hw := ?hw) (call := ?hc)
  case hw => w_witness2
  case hc =>
    k_go0
    rename_i w s₀ s₁ mg mb G Y fa o pm cd doc kV ho hcd hg X V T B TE TW ns hs hlay0 hL1 hr1 hl2 w4 w3 a vs w0 hL ra w1 r0 hI hr hcond1 hcond2 hD h₁ X' T' K' F' codeHd1 codeHd2 N' l0
    refine law_go (kl _) (ka _) (kv _) (ku _) (ki _) (kt _) (kd _) (kr _) (kb _) (kc _) (kw _) plain (ns := ns) (by omega) X' T' K' F' rfl N' lifted hI codeHd1 codeHd2 codeHd fun s' h1 h2 h3 h4 h5 h6 => ?_
    refine ⟨⟨.inl ⟨_, ofPy (.bool true), [], rfl, fun _ => rfl, ?_, ?_, ?_⟩, h1, h2, ?_⟩, h4, h5, h6, trivial⟩
    · exact .bool true
    · wrow_post
    · exact fun _ => ⟨List.nodup_nil, by simp⟩
    · exact h3.trans hg
end Mine
end

theorem PySem.Challenge.cw_pg0266_01_holds : PySem.Challenge.rw_pg0266_01.Holds := by
  exact Mine.fin fun ns _ => Mine.plain_all ns
