import PyProof.Rows.All
import Wide.All
import OpenK.AllK
import Wide.FinOn
import PySem.Challenge.RW_mq0208_01
set_option Elab.async false
set_option maxRecDepth 100000
set_option linter.unusedVariables false
set_option maxHeartbeats 8000000

section L0
open PySem PySem.W PyProof.Rows
namespace Mine
set_option genSizeOf false
set_option genInjectivity false

structure Cx where
  prog : Program
  w : World
  K : Frag
  C : Addr
  P : Addr
  q : Bool := true
  mu : Addr → Prop := fun _ => False
noncomputable abbrev Cx.M (X : Cx) : Model := model X.prog X.w

inductive D where
  | val (v : Value)
  | int (i : Int)
  | str (s : Str)
  | list (l : List D)
  | tup (l : List D)
  | rng (a b c : Int)
  | own (a : Addr) (l : List D)

noncomputable abbrev lobj (vs : List Value) (n : Nat) : Obj := { cls := .type "list", data := .seq vs.toArray n }
noncomputable abbrev tobj (vs : List Value) (n : Nat) : Obj := { cls := .type "tuple", data := .seq vs.toArray n }

mutual
inductive Rep (h : Heap) : Value → D → Prop
  | val (v : Value) : Rep h v (.val v)
  | int (i : Int) (t : Tok) : Rep h (.int i t) (.int i)
  | str (x : Str) (t : Tok) : Rep h (.str x t) (.str x)
  | list {a : Addr} {vs : List Value} {n : Nat} {ds : List D} : h.get? a = some (lobj vs n) → Reps h vs ds → Rep h (.ref a) (.list ds)
  | tup {a : Addr} {vs : List Value} {n : Nat} {ds : List D} : h.get? a = some (tobj vs n) → Reps h vs ds → Rep h (.ref a) (.tup ds)
  | rng {r : Addr} {a b c : Int} {t u v : Tok} : IsRange h r a b c t u v → Rep h (.ref r) (.rng a b c)
  | own {a : Addr} {vs : List Value} {n : Nat} {ds : List D} : h.get? a = some (lobj vs n) → Reps h vs ds → Rep h (.ref a) (.own a ds)
inductive Reps (h : Heap) : List Value → List D → Prop
  | nil : Reps h [] []
  | cons {v : Value} {d : D} {vs : List Value} {ds : List D} : Rep h v d → Reps h vs ds → Reps h (v :: vs) (d :: ds)
end

/-- an object that a datum may stand on -/
def IsVal (o : Obj) : Prop := match o.data with
  | .seq .. => True
  | .fields _ => o.cls = .type "range"
  | _ => False

mutual
theorem Rep.keepV {h h' : Heap} (hk : ∀ b o, IsVal o → h.get? b = some o → h'.get? b = some o) : ∀ {v : Value} {d : D}, Rep h v d → Rep h' v d
  | _, _, .val v => .val v
  | _, _, .int i t => .int i t
  | _, _, .str x t => .str x t
  | _, _, .list e r => .list (hk _ _ trivial e) (Reps.keepV hk r)
  | _, _, .tup e r => .tup (hk _ _ trivial e) (Reps.keepV hk r)
  | _, _, .rng e => .rng (hk _ _ rfl e)
  | _, _, .own e r => .own (hk _ _ trivial e) (Reps.keepV hk r)
theorem Reps.keepV {h h' : Heap} (hk : ∀ b o, IsVal o → h.get? b = some o → h'.get? b = some o) : ∀ {vs : List Value} {ds : List D}, Reps h vs ds → Reps h' vs ds
  | _, _, .nil => .nil
  | _, _, .cons r rs => .cons (Rep.keepV hk r) (Reps.keepV hk rs)
end

theorem Reps.ind {h : Heap} {P : List Value → List D → Prop} (n : P [] []) (c : ∀ v d vs ds, Rep h v d → Reps h vs ds → P vs ds → P (v :: vs) (d :: ds)) : ∀ {vs : List Value} {ds : List D}, Reps h vs ds → P vs ds
  | _, _, .nil => n
  | _, _, .cons r rs => c _ _ _ _ r rs (Reps.ind n c rs)
theorem Reps.length {h : Heap} {vs : List Value} {ds : List D} (r : Reps h vs ds) : vs.length = ds.length :=
  Reps.ind (P := fun vs ds => vs.length = ds.length) rfl (fun _ _ _ _ _ _ e => congrArg (· + 1) e) r
theorem Reps.append {h : Heap} {vs : List Value} {ds : List D} {vs' : List Value} {ds' : List D} (r : Reps h vs ds) (r' : Reps h vs' ds') : Reps h (vs ++ vs') (ds ++ ds') :=
  Reps.ind (P := fun vs ds => Reps h (vs ++ vs') (ds ++ ds')) r' (fun _ _ _ _ q _ ih => .cons q ih) r
theorem Reps.get {h : Heap} {vs : List Value} {ds : List D} {i : Nat} {d : D} (r : Reps h vs ds) (e : ds[i]? = some d) : ∃ v, vs[i]? = some v ∧ Rep h v d :=
  Reps.ind (P := fun vs ds => ∀ (i : Nat) d, ds[i]? = some d → ∃ v, vs[i]? = some v ∧ Rep h v d) (fun _ _ e => by cases e) (fun _ _ _ _ q _ ih i d e => by
    cases i with
    | zero => cases e; exact ⟨_, rfl, q⟩
    | succ i => exact ih i d e) r i d e
theorem Reps.get' {h : Heap} {vs : List Value} {ds : List D} {i : Nat} {v : Value} (r : Reps h vs ds) (e : vs[i]? = some v) : ∃ d, ds[i]? = some d ∧ Rep h v d :=
  Reps.ind (P := fun vs ds => ∀ (i : Nat) v, vs[i]? = some v → ∃ d, ds[i]? = some d ∧ Rep h v d) (fun _ _ e => by cases e) (fun _ _ _ _ q _ ih i d e => by
    cases i with
    | zero => cases e; exact ⟨_, rfl, q⟩
    | succ i => exact ih i d e) r i v e
theorem Reps.take {h : Heap} {vs : List Value} {ds : List D} (n : Nat) (r : Reps h vs ds) : Reps h (vs.take n) (ds.take n) :=
  Reps.ind (P := fun vs ds => ∀ n, Reps h (vs.take n) (ds.take n)) (fun n => by rw [List.take_nil, List.take_nil]; exact .nil) (fun _ _ _ _ q _ ih n => by
    cases n with
    | zero => exact .nil
    | succ n => exact .cons q (ih n)) r n
theorem Reps.drop {h : Heap} {vs : List Value} {ds : List D} (n : Nat) (r : Reps h vs ds) : Reps h (vs.drop n) (ds.drop n) :=
  Reps.ind (P := fun vs ds => ∀ n, Reps h (vs.drop n) (ds.drop n)) (fun n => by rw [List.drop_nil, List.drop_nil]; exact .nil) (fun _ _ _ _ q rs ih n => by
    cases n with
    | zero => exact .cons q rs
    | succ n => exact ih n) r n

theorem Rep.intE {h : Heap} {v : Value} {i : Int} (r : Rep h v (.int i)) : ∃ t, v = .int i t := by cases r with | int _ t => exact ⟨t, rfl⟩
theorem Rep.strE {h : Heap} {v : Value} {x : Str} (r : Rep h v (.str x)) : ∃ t, v = .str x t := by cases r with | str _ t => exact ⟨t, rfl⟩
theorem Rep.valE {h : Heap} {v u : Value} (r : Rep h v (.val u)) : v = u := by cases r; rfl
theorem Rep.listE {h : Heap} {v : Value} {ds : List D} (r : Rep h v (.list ds)) : ∃ a vs n, v = .ref a ∧ h.get? a = some (lobj vs n) ∧ Reps h vs ds := by
  cases r with | list e rs => exact ⟨_, _, _, rfl, e, rs⟩
theorem Rep.tupE {h : Heap} {v : Value} {ds : List D} (r : Rep h v (.tup ds)) : ∃ a vs n, v = .ref a ∧ h.get? a = some (tobj vs n) ∧ Reps h vs ds := by
  cases r with | tup e rs => exact ⟨_, _, _, rfl, e, rs⟩
/-- a datum that needs no heap -/
noncomputable def D.flat : D → Bool
  | .val _ | .int _ | .str _ => true
  | _ => false
theorem Rep.flat {h h' : Heap} {v : Value} {d : D} (r : Rep h v d) (hf : d.flat = true) : Rep h' v d := by
  cases r with
  | val v => exact .val v
  | int i t => exact .int i t
  | str x t => exact .str x t
  | list => cases hf
  | tup => cases hf
  | rng => cases hf
  | own => cases hf

structure Gd (X : Cx) (h : Heap) : Prop where
  k : X.K.In h
  kP : X.K.lookup X.P = none
  g : ∃ mg, h.Ns mainGlobals mg
  b : ∃ mb, h.Ns builtinsNs mb ∧ ∀ x : Str, x ≠ "__name__" → mb x = bootBuiltins x
  lim : h.NoLimit
  dig : ∃ mc, h.Ns cStatics mc ∧ mc "sys.int_max_str_digits" = none
  p0 : X.P ≠ builtinsNs ∧ X.P ≠ cStatics ∧ X.P ≠ mainGlobals
  bm : ∃ mg bm ob, BMod h mainGlobals mg bm ob ∧ bm ≠ X.P

def Tab (X : Cx) (h : Heap) : Prop := ∃ ps, h.IsCode X.C X.P ps ∧ h.TableAt X.C X.P ps

structure Gs (X : Cx) (s : Shared) : Prop where
  gd : Gd X s.heap
  tab : Tab X s.heap
  bare : X.q = false → AllBare s.gens

structure Grow (X : Cx) (s s' : Shared) : Prop where
  keep : ∀ b o, b ≠ X.P → s.heap.get? b = some o → s'.heap.get? b = some o
  tab : ∀ ps, s.heap.get? X.P = some (PySem.W.X.tableObj ps) → ∃ more, s'.heap.get? X.P = some (PySem.W.X.tableObj (ps ++ more))
  tok : Tab X s.heap → Tab X s'.heap
  os : s'.os = s.os
  bare : AllBare s.gens → AllBare s'.gens
  gens : ∀ (g : Nat) x, s.gens[g]? = some x → s'.gens[g]? = some x
  quiet : X.q = true → Keeps s s'

theorem Gd.keep {X : Cx} {h h' : Heap} (G : Gd X h) (hk : ∀ b o, b ≠ X.P → h.get? b = some o → h'.get? b = some o) : Gd X h' := by
  have ns : ∀ {a m}, h.Ns a m → a ≠ X.P → h'.Ns a m := fun hn ha => hn.at' fun o e => hk _ o ha e
  refine ⟨fun a o e => hk a o ?_ (G.k a o e), G.kP, ?_, ?_, ?_, ?_, G.p0, ?_⟩
  · rintro rfl; rw [G.kP] at e; cases e
  · obtain ⟨mg, hg⟩ := G.g; exact ⟨mg, ns hg G.p0.2.2.symm⟩
  · obtain ⟨mb, hb, e⟩ := G.b; exact ⟨mb, ns hb G.p0.1.symm, e⟩
  · obtain ⟨mc, hc, e⟩ := G.lim; exact ⟨mc, ns hc G.p0.2.1.symm, e⟩
  · obtain ⟨mc, hc, e⟩ := G.dig; exact ⟨mc, ns hc G.p0.2.1.symm, e⟩
  · obtain ⟨mg, bm, ob, B, e⟩ := G.bm; exact ⟨mg, bm, ob, ⟨ns B.ns G.p0.2.2.symm, B.name, B.ne, hk _ _ e B.obj, B.cls, B.dict, B.data⟩, e⟩

theorem Tab.keeps {X : Cx} {h h' : Heap} (T : Tab X h) (hk : ∀ b o, h.get? b = some o → h'.get? b = some o) : Tab X h' := by
  obtain ⟨ps, a, b⟩ := T; exact ⟨ps, a.keeps hk, b.keeps hk⟩
theorem Tab.P {X : Cx} {h : Heap} (T : Tab X h) : ∃ ps, h.get? X.P = some (PySem.W.X.tableObj ps) := by
  obtain ⟨ps, a, b⟩ := T; exact ⟨ps, b.2⟩

theorem Grow.refl (X : Cx) (s : Shared) : Grow X s s := ⟨fun _ _ _ e => e, fun ps e => ⟨#[], by simpa using e⟩, fun t => t, rfl, fun x => x, fun _ _ e => e, fun _ => ⟨_, _, rfl, fun _ _ e => e⟩⟩
theorem Keeps.trans' {s s' s'' : Shared} (a : Keeps s s') (b : Keeps s' s'') : Keeps s s'' := by
  obtain ⟨h, k, rfl, e⟩ := a
  obtain ⟨h', k', rfl, e'⟩ := b
  exact ⟨h', k', rfl, fun x o q => e' x o (e x o q)⟩
theorem Grow.trans {X : Cx} {s s' s'' : Shared} (a : Grow X s s') (b : Grow X s' s'') : Grow X s s'' where
  keep := fun c o hc e => b.keep c o hc (a.keep c o hc e)
  tab := fun ps e => by
    obtain ⟨m, e'⟩ := a.tab ps e
    obtain ⟨m', e''⟩ := b.tab _ e'
    exact ⟨m ++ m', by rw [e'', Array.append_assoc]⟩
  tok := fun t => b.tok (a.tok t)
  os := b.os.trans a.os
  bare := fun x => b.bare (a.bare x)
  gens := fun g x e => b.gens g x (a.gens g x e)
  quiet := fun h => Keeps.trans' (a.quiet h) (b.quiet h)

/-- the plain growth: heap extended, ticks moved -/
theorem Grow.of {X : Cx} {s : Shared} {h' : Heap} {tk : Nat} (hk : ∀ b o, s.heap.get? b = some o → h'.get? b = some o) : Grow X s { s with heap := h', toks := tk } :=
  ⟨fun b o _ e => hk b o e, fun ps e => ⟨#[], by simpa using hk _ _ e⟩, fun t => t.keeps hk, rfl, fun x => x, fun _ _ e => e, fun _ => ⟨_, _, rfl, hk⟩⟩
theorem Grow.toks {X : Cx} {s : Shared} {tk : Nat} : Grow X s { s with toks := tk } := Grow.of (h' := s.heap) (fun _ _ e => e)
theorem Grow.push {X : Cx} {s : Shared} {o : Obj} : Grow X s { s with heap := s.heap.push o } :=
  Grow.of (tk := s.toks) (fun _ _ e => Heap.get?_push_of_some _ e)

theorem Gs.grow {X : Cx} {s s' : Shared} (G : Gs X s) (g : Grow X s s') : Gs X s' := ⟨G.gd.keep g.keep, g.tok G.tab, fun q => g.bare (G.bare q)⟩
theorem Rep.grow {X : Cx} {s s' : Shared} {v : Value} {d : D} (r : Rep s.heap v d) (G : Gs X s) (g : Grow X s s') : Rep s'.heap v d := by
  refine r.keepV fun b o hv e => g.keep b o ?_ e
  rintro rfl
  obtain ⟨ps, e'⟩ := G.tab.P
  rw [e'] at e; cases e
  cases hv
theorem Reps.grow {X : Cx} {s s' : Shared} {vs : List Value} {ds : List D} (r : Reps s.heap vs ds) (G : Gs X s) (g : Grow X s s') : Reps s'.heap vs ds := by
  refine r.keepV fun b o hv e => g.keep b o ?_ e
  rintro rfl
  obtain ⟨ps, e'⟩ := G.tab.P
  rw [e'] at e; cases e
  cases hv

end Mine
end L0

section L1
open PySem PySem.W PyProof.Rows
namespace Mine

noncomputable def upd (ρ : Str → Option D) (x : Str) (d : D) : Str → Option D := fun y => if y = x then some d else ρ y
theorem upd_here {ρ : Str → Option D} {x : Str} {d : D} : upd ρ x d x = some d := if_pos rfl
theorem upd_there {ρ : Str → Option D} {x y : Str} {d : D} {r : Option D} (hne : y ≠ x) (h : ρ y = r) : upd ρ x d y = r := (if_neg hne).trans h

/-- the frame's standing facts -/
structure Fm (X : Cx) (s₀ : Shared) (env : Env) : Prop where
  kind : env.scope.kind = .function
  glob : env.globals = mainGlobals
  bi : env.builtins = builtinsNs
  above : s₀.heap.objs.size ≤ env.locals
  g0 : Gs X s₀

structure St (X : Cx) (s₀ : Shared) (env : Env) (ρ : Str → Option D) (s : Shared) : Prop where
  gs : Gs X s
  grow : Grow X s₀ s
  loc : ∃ m, s.heap.Ns env.locals m ∧ ∀ x d, env.kindOf x = some .local → ρ x = some d → ∃ v, m x = some v ∧ Rep s.heap v d
  cel : ∀ x d, (env.kindOf x = some .cell ∨ env.kindOf x = some .free) → ρ x = some d → ∃ c v, env.cells.lookup x = some c ∧ s.heap.IsCell c (some v) ∧ Rep s.heap v d
  own : ∀ x, env.kindOf x = some .cell → ∃ c v, env.cells.lookup x = some c ∧ s.heap.IsCell c v

/-- the frame's own cells -/
structure Oc (s₀ : Shared) (env : Env) : Prop where
  above : ∀ x c, env.cells.lookup x = some c → s₀.heap.objs.size ≤ c
  apart : ∀ x y c, env.cells.lookup x = some c → env.cells.lookup y = some c → x = y

theorem Tab.but {X : Cx} {h h' : Heap} {a : Addr} (T : Tab X h) (hk : ∀ b o, b ≠ a → h.get? b = some o → h'.get? b = some o) (hC : X.C ≠ a) (hP : X.P ≠ a) : Tab X h' := by
  obtain ⟨ps, x, t⟩ := T
  refine ⟨ps, ?_, t.extBut (fun b o hb e => hk b o hb e) hC hP⟩
  obtain ⟨o, vs, file, tf, flags, tg, inF, text, tt, op, q, r1, r2, r3, r4, r5, r6, b, r⟩ := x
  exact ⟨o, vs, file, tf, flags, tg, inF, text, tt, op, hk _ _ hC q, r1, r2, r3, r4, r5, r6, hk _ _ hP b, r⟩
theorem Tab.lt {X : Cx} {h : Heap} (T : Tab X h) : X.C < h.objs.size ∧ X.P < h.objs.size := by
  obtain ⟨ps, x, t⟩ := T
  obtain ⟨o, vs, a, _⟩ := t.1
  exact ⟨Heap.lt_size a, Heap.lt_size t.2⟩

section
variable {X : Cx} {s₀ : Shared} {env : Env} {ρ : Str → Option D}

theorem cellGrow {s s' : Shared} {c : Addr} {v : Option Value} (G : Gs X s) (g : Grow X s s') (hc : s.heap.IsCell c v) : s'.heap.IsCell c v := by
  obtain ⟨o, ho, hd⟩ := hc
  refine ⟨o, g.keep _ o ?_ ho, hd⟩
  rintro rfl
  obtain ⟨ps, e⟩ := G.tab.P
  rw [e] at ho; cases ho; cases hd
theorem St.more {s s' : Shared} (S : St X s₀ env ρ s) (g : Grow X s s') (hP : env.locals ≠ X.P) : St X s₀ env ρ s' := by
  refine ⟨S.gs.grow g, S.grow.trans g, ?_, fun x d hk hr => ?_, fun x hk => ?_⟩
  · obtain ⟨m, hn, hm⟩ := S.loc
    refine ⟨m, hn.at' fun o e => g.keep _ o hP e, fun x d hk hr => ?_⟩
    obtain ⟨v, hv, r⟩ := hm x d hk hr
    exact ⟨v, hv, r.grow S.gs g⟩
  · obtain ⟨c, v, hc, ⟨o, ho, hd⟩, r⟩ := S.cel x d hk hr
    exact ⟨c, v, hc, cellGrow S.gs g ⟨o, ho, hd⟩, r.grow S.gs g⟩
  · obtain ⟨c, v, hc, hcell⟩ := S.own x hk
    exact ⟨c, v, hc, cellGrow S.gs g hcell⟩
theorem Fm.P (F : Fm X s₀ env) : env.locals ≠ X.P := Nat.ne_of_gt (Nat.lt_of_lt_of_le F.g0.tab.lt.2 F.above)
theorem St.grown {s s' : Shared} (F : Fm X s₀ env) (S : St X s₀ env ρ s) (g : Grow X s s') : St X s₀ env ρ s' := S.more g F.P

/-- a change at an address above the start that bears no datum -/
theorem Grow.upd {s : Shared} {h' : Heap} {tk : Nat} {a : Addr} (g : Grow X s₀ s) (ha : s₀.heap.objs.size ≤ a) (hs : Heap.SameBut a s.heap h') : Grow X s₀ { s with heap := h', toks := tk } where
  keep := fun b o hb e => (hs.2 b (Nat.ne_of_lt (Nat.lt_of_lt_of_le (Heap.lt_size e) ha))).trans (g.keep b o hb e)
  tab := fun ps e => by
    obtain ⟨m, e'⟩ := g.tab ps e
    exact ⟨m, (hs.2 _ (Nat.ne_of_lt (Nat.lt_of_lt_of_le (Heap.lt_size e) ha))).trans e'⟩
  tok := fun t => (g.tok t).but (a := a) (fun b o hb e => (hs.2 b hb).trans e) (Nat.ne_of_lt (Nat.lt_of_lt_of_le t.lt.1 ha)) (Nat.ne_of_lt (Nat.lt_of_lt_of_le t.lt.2 ha))
  os := g.os
  bare := g.bare
  gens := g.gens
  quiet := fun q => by
    obtain ⟨h1, k1, e, hk⟩ := g.quiet q
    subst e
    exact ⟨h', tk, rfl, fun b o e => (hs.2 b (Nat.ne_of_lt (Nat.lt_of_lt_of_le (Heap.lt_size e) ha))).trans (hk b o e)⟩

theorem Gs.of_grow {s : Shared} (g0 : Gs X s₀) (g : Grow X s₀ s) : Gs X s := g0.grow g

theorem keepV_but {h h' : Heap} {a : Addr} (hs : Heap.SameBut a h h') (hn : ∀ o, h.get? a = some o → ¬ IsVal o) : ∀ b o, IsVal o → h.get? b = some o → h'.get? b = some o := fun b o hv e => by
  by_cases hb : b = a
  · subst hb; exact absurd hv (hn o e)
  · exact (hs.2 b hb).trans e
theorem ns_not_val {h : Heap} {a m} (hn : h.Ns a m) : ∀ o, h.get? a = some o → ¬ IsVal o := fun o e => by
  obtain ⟨o', es, ep, ho, hd, _⟩ := hn
  rw [ho] at e; cases e
  unfold IsVal; rw [hd]; exact id
theorem cell_not_val {h : Heap} {c v} (hc : h.IsCell c v) : ∀ o, h.get? c = some o → ¬ IsVal o := fun o e => by
  obtain ⟨o', ho, hd⟩ := hc
  rw [ho] at e; cases e
  unfold IsVal; rw [hd]; exact id

theorem St.storeLocal {s : Shared} {x : Str} {v : Value} {d : D} {h' : Heap} {tk : Nat} {m : Str → Option Value} (F : Fm X s₀ env) (S : St X s₀ env ρ s) (hx : env.kindOf x = some .local)
    (hn : s.heap.Ns env.locals m) (hm : ∀ x d, env.kindOf x = some .local → ρ x = some d → ∃ v, m x = some v ∧ Rep s.heap v d)
    (r : Rep s.heap v d) (hn' : h'.Ns env.locals (fun y => if y = x then some v else m y)) (hs : Heap.SameBut env.locals s.heap h') :
    St X s₀ env (upd ρ x d) { s with heap := h', toks := tk } := by
  have g' : Grow X s₀ { s with heap := h', toks := tk } := S.grow.upd F.above hs
  have kv := keepV_but hs (ns_not_val hn)
  have cne : ∀ c v, s.heap.IsCell c v → c ≠ env.locals := fun c v hcell => by
    rintro rfl
    obtain ⟨o, ho, hd⟩ := hcell
    obtain ⟨o', es, ep, ho', hd', _⟩ := hn
    rw [ho] at ho'; cases ho'; rw [hd] at hd'; cases hd'
  refine ⟨F.g0.grow g', g', ⟨_, hn', fun y e hk hr => ?_⟩, fun y e hk hr => ?_, fun y hk => ?_⟩
  · by_cases hy : y = x
    · subst hy
      rw [upd_here] at hr; cases hr
      exact ⟨v, if_pos rfl, r.keepV kv⟩
    · rw [upd_there hy rfl] at hr
      obtain ⟨v', hv', r'⟩ := hm y e hk hr
      exact ⟨v', (if_neg hy).trans hv', r'.keepV kv⟩
  · have hy : y ≠ x := by rintro rfl; rw [hx] at hk; rcases hk with h | h <;> cases h
    rw [upd_there hy rfl] at hr
    obtain ⟨c, v', hc, hcell, r'⟩ := S.cel y e hk hr
    exact ⟨c, v', hc, hcell.sameBut hs (cne c _ hcell), r'.keepV kv⟩
  · obtain ⟨c, v', hc, hcell⟩ := S.own y hk
    exact ⟨c, v', hc, hcell.sameBut hs (cne c _ hcell)⟩

theorem St.storeCell {s : Shared} {x : Str} {c : Addr} {v : Value} {d : D} {h' : Heap} {tk : Nat} {v₀ : Option Value} (F : Fm X s₀ env) (O : Oc s₀ env) (S : St X s₀ env ρ s) (hx : env.kindOf x = some .cell)
    (hc : env.cells.lookup x = some c) (hv₀ : s.heap.IsCell c v₀)
    (r : Rep s.heap v d) (hn' : h'.IsCell c (some v)) (hs : Heap.SameBut c s.heap h') :
    St X s₀ env (upd ρ x d) { s with heap := h', toks := tk } := by
  have g' : Grow X s₀ { s with heap := h', toks := tk } := S.grow.upd (O.above x c hc) hs
  have kv := keepV_but hs (cell_not_val hv₀)
  obtain ⟨m, hn, hm⟩ := S.loc
  refine ⟨F.g0.grow g', g', ⟨m, hn.sameBut hs ?_, fun y e hk hr => ?_⟩, fun y e hk hr => ?_, fun y hk => ?_⟩
  · intro e
    obtain ⟨o, ho, hd⟩ := hv₀
    obtain ⟨o', es, ep, ho', hd', _⟩ := hn
    rw [e] at ho'; rw [ho] at ho'; cases ho'; rw [hd] at hd'; cases hd'
  · have hy : y ≠ x := by rintro rfl; rw [hx] at hk; cases hk
    rw [upd_there hy rfl] at hr
    obtain ⟨v', hv', r'⟩ := hm y e hk hr
    exact ⟨v', hv', r'.keepV kv⟩
  · by_cases hy : y = x
    · subst hy
      rw [upd_here] at hr; cases hr
      exact ⟨c, v, hc, hn', r.keepV kv⟩
    · rw [upd_there hy rfl] at hr
      obtain ⟨c', v', hc', hcell, r'⟩ := S.cel y e hk hr
      exact ⟨c', v', hc', hcell.sameBut hs (fun e => hy (O.apart y x c' hc' (e ▸ hc))), r'.keepV kv⟩
  · by_cases hy : y = x
    · subst hy; exact ⟨c, _, hc, hn'⟩
    · obtain ⟨c', v', hc', hcell⟩ := S.own y hk
      exact ⟨c', v', hc', hcell.sameBut hs (fun e => hy (O.apart y x c' hc' (e ▸ hc)))⟩
end
end Mine
end L1

section L2
open PySem PySem.W PyProof.Rows
namespace Mine

structure Rm (n : Nat) (A : Around) : Prop where
  hd : A.handled = none
  gd : 40 ≤ n → A.guards = some []
  dp : A.depth + n ≤ 900
  un : A.units + 20 * n ≤ 9000

abbrev Gives (X : Cx) (s : Shared) (d : D) : Value → Shared → Prop := fun v s' => Grow X s s' ∧ Rep s'.heap v d
abbrev GivesB (X : Cx) (s : Shared) (b : Bool) : Bool → Shared → Prop := fun v s' => v = b ∧ Grow X s s'

/-- an expression's datum -/
def Ev (X : Cx) (A : Around) (s₀ : Shared) (env : Env) (ρ : Str → Option D) (e : Expr) (d : D) : Prop :=
  ∀ s E, St X s₀ env ρ s → wpAny X.M A (eval e env) (Gives X s d) E s
/-- a test's answer -/
def Ts (X : Cx) (A : Around) (s₀ : Shared) (env : Env) (ρ : Str → Option D) (e : Expr) (b : Bool) : Prop :=
  ∀ s E, St X s₀ env ρ s → wpAny X.M A (isTrue e env (eval e env)) (GivesB X s b) E s

section
variable {X : Cx} {A : Around} {s₀ : Shared} {env : Env} {ρ : Str → Option D}

theorem Ev.loc {x : Str} {pos : Pos} {d : D} (F : Fm X s₀ env) (hk : env.kindOf x = some .local) (hr : ρ x = some d) (hd : (x == ("__debug__" : Str)) = false) : Ev X A s₀ env ρ (.Name x pos) d := fun s E S => by
  obtain ⟨m, hn, hm⟩ := S.loc
  obtain ⟨v, hv, r⟩ := hm x d hk hr
  exact wpAny_Name (wpAny_loadName_local F.kind hk hn hv ⟨.refl .., r⟩) hd
theorem Ev.cell {x : Str} {pos : Pos} {d : D} (F : Fm X s₀ env) (hk : env.kindOf x = some .cell) (hr : ρ x = some d) (hd : (x == ("__debug__" : Str)) = false) : Ev X A s₀ env ρ (.Name x pos) d := fun s E S => by
  obtain ⟨c, v, hc, hv, r⟩ := S.cel x d (.inl hk) hr
  exact wpAny_Name (wpAny_loadName_cell F.kind hk hc hv ⟨.refl .., r⟩) hd
theorem Ev.free {x : Str} {pos : Pos} {d : D} (F : Fm X s₀ env) (hk : env.kindOf x = some .free) (hr : ρ x = some d) (hd : (x == ("__debug__" : Str)) = false) (hc : (x == ("__classdict__" : Str)) = false) : Ev X A s₀ env ρ (.Name x pos) d := fun s E S => by
  obtain ⟨c, v, hc', hv, r⟩ := S.cel x d (.inr hk) hr
  exact wpAny_Name (wpAny_loadName_free F.kind hk hc' hv ⟨.refl .., r⟩ hc) hd
theorem Ev.glob {x : Str} {pos : Pos} {v : Value} {d : D} (F : Fm X s₀ env) (hk : env.kindOf x = some .globalImplicit) (e : nsIn X.K mainGlobals x = some (some v)) (hr : ∀ h, X.K.In h → Rep h v d)
    (hd : (x == ("__debug__" : Str)) = false) : Ev X A s₀ env ρ (.Name x pos) d := fun s E S => by
  obtain ⟨mg, hg⟩ := S.gs.gd.g
  refine Calls.Name_function_global F.kind hk (Calls.loadGlobal_global (mg := mg) (by rw [F.glob]; exact hg) (mg_of S.gs.gd.k hg e) ⟨.refl .., hr _ S.gs.gd.k⟩) hd
theorem Ev.bi {x : Str} {pos : Pos} {v : Value} (F : Fm X s₀ env) (hk : env.kindOf x = some .globalImplicit) (e : nsIn X.K mainGlobals x = some none) (hv : bootBuiltins x = some v) (hn : x ≠ "__name__")
    (hd : (x == ("__debug__" : Str)) = false) : Ev X A s₀ env ρ (.Name x pos) (.val v) := fun s E S => by
  obtain ⟨mg, hg⟩ := S.gs.gd.g
  obtain ⟨mb, hb, eb⟩ := S.gs.gd.b
  exact Calls.Name_function_global F.kind hk (Calls.loadGlobal_builtin (mg := mg) (mb := mb) (by rw [F.glob]; exact hg) (mg_none_of S.gs.gd.k hg e) (by rw [F.bi]; exact hb) ((eb x hn).trans hv) ⟨.refl .., .val v⟩) hd

theorem Ev.cInt {i : Int} {k : Nat} {pos : Pos} : Ev X A s₀ env ρ (.Constant (.int i) k pos) (.int i) := fun _ _ _ => wpAny_Constant_int ⟨.toks, .int ..⟩
theorem Ev.cStr {x : Str} {k : Nat} {pos : Pos} : Ev X A s₀ env ρ (.Constant (.str x) k pos) (.str x) := fun _ _ _ => wpAny_Constant_str ⟨.toks, .str ..⟩
theorem Ev.cBool {b : Bool} {k : Nat} {pos : Pos} : Ev X A s₀ env ρ (.Constant (.bool b) k pos) (.val (.bool b)) := fun _ _ _ => wpAny_Constant_bool ⟨.refl .., .val ..⟩

/-- what a tree over two values gives -/
def Op2 (X : Cx) (A : Around) (t : Value → Value → Sem Value) (d1 d2 d : D) : Prop :=
  ∀ s v1 v2 E, Gs X s → Rep s.heap v1 d1 → Rep s.heap v2 d2 → wpAny X.M A (t v1 v2) (Gives X s d) E s
def Op1 (X : Cx) (A : Around) (t : Value → Sem Value) (d1 d : D) : Prop :=
  ∀ s v1 E, Gs X s → Rep s.heap v1 d1 → wpAny X.M A (t v1) (Gives X s d) E s
/-- truth -/
def Tr (X : Cx) (A : Around) (d : D) (b : Bool) : Prop := ∀ s v E, Gs X s → Rep s.heap v d → wpAny X.M A (truthy v) (GivesB X s b) E s

theorem Ev.bin {op : Operator} {l r : Expr} {pos : Pos} {d1 d2 d : D} (F : Fm X s₀ env) (hl : Ev X A s₀ env ρ l d1) (hr : Ev X A s₀ env ρ r d2) (ho : Op2 X A (binaryOp op) d1 d2 d) : Ev X A s₀ env ρ (.BinOp l op r pos) d := fun s E S =>
  wpAny_BinOp (wpAny_mono (hl s E S) (fun v1 s1 h1 => wpAny_mono (hr s1 E (S.grown F h1.1)) (fun v2 s2 h2 =>
    have S2 := (S.grown F h1.1).grown F h2.1
    wpAny_mono (ho s2 v1 v2 E S2.gs (h1.2.grow (S.grown F h1.1).gs h2.1) h2.2) (fun v s3 h3 => ⟨h1.1.trans (h2.1.trans h3.1), h3.2⟩) fun _ _ x => x) fun _ _ x => x) fun _ _ x => x)
theorem Ev.un {op : UnaryOp} {x : Expr} {pos : Pos} {d1 d : D} (F : Fm X s₀ env) (hx : Ev X A s₀ env ρ x d1) (ho : Op1 X A (unaryOp op) d1 d) : Ev X A s₀ env ρ (.UnaryOp op x pos) d := fun s E S =>
  wpAny_UnaryOp (wpAny_mono (hx s E S) (fun v1 s1 h1 => wpAny_mono (ho s1 v1 E (S.grown F h1.1).gs h1.2) (fun v s3 h3 => ⟨h1.1.trans h3.1, h3.2⟩) fun _ _ x => x) fun _ _ x => x)
theorem Tr.bool {b : Bool} : Tr X A (.val (.bool b)) b := fun s v E _ r => by
  rw [r.valE]; exact wpAny_truthy_bool ⟨rfl, .refl ..⟩
theorem Ts.cmp {op : CmpOp} {l r : Expr} {pos : Pos} {d1 d2 : D} {b : Bool} (F : Fm X s₀ env) (hl : Ev X A s₀ env ρ l d1) (hr : Ev X A s₀ env ρ r d2) (ho : Op2 X A (compareOp op) d1 d2 (.val (.bool b))) (hm : behindInMarks op r = false) :
    Ts X A s₀ env ρ (.Compare l [op] [r] pos) b := fun s E S =>
  wpAny_isTrue_Compare1 (wpAny_mono (hl s E S) (fun v1 s1 h1 => wpAny_mono (hr s1 E (S.grown F h1.1)) (fun v2 s2 h2 =>
    have S2 := (S.grown F h1.1).grown F h2.1
    wpAny_mono (ho s2 v1 v2 E S2.gs (h1.2.grow (S.grown F h1.1).gs h2.1) h2.2) (fun v s3 h3 =>
      wpAny_mono (Tr.bool s3 v E (S2.gs.grow h3.1) h3.2) (fun _ _ h4 => ⟨h4.1, h1.1.trans (h2.1.trans (h3.1.trans h4.2))⟩) fun _ _ x => x) fun _ _ x => x) fun _ _ x => x) fun _ _ x => x) hm
theorem Ts.not {x : Expr} {pos : Pos} {b : Bool} (hx : Ts X A s₀ env ρ x b) : Ts X A s₀ env ρ (.UnaryOp .Not x pos) (!b) := fun s E S =>
  wpAny_isTrue_Not (wpAny_mono (hx s E S) (fun _ _ h => ⟨by rw [h.1], h.2⟩) fun _ _ x => x)
/-- a test that is no comparison, no not, no and, no or, no if -/
theorem Ts.val {e : Expr} {d : D} {b : Bool} (F : Fm X s₀ env) (he : Ev X A s₀ env ρ e d) (ht : Tr X A d b) (hi : ∀ w, isTrue e env w = (do let v ← w; standAt e.pos; holding [v] (truthy v))) : Ts X A s₀ env ρ e b := fun s E S => by
  rw [hi]
  exact wpAny_bind (wpAny_mono (he s E S) (fun v s1 h1 => wpAny_bind (wpAny_standAt (wpAny_holding (wpAny_mono (ht s1 v E (S.grown F h1.1).gs h1.2) (fun _ _ h2 => ⟨h2.1, h1.1.trans h2.2⟩) fun _ _ x => x)))) fun _ _ x => x)

theorem Ts.orT {x : Expr} {xs : List Expr} {pos : Pos} (hx : Ts X A s₀ env ρ x true) : Ts X A s₀ env ρ (.BoolOp .Or (x :: xs) pos) true := fun s E S =>
  wpAny_isTrue_BoolOp (wpAny_allTrue_Or_cons (wpAny_mono (hx s E S) (fun b s1 h1 => by obtain ⟨rfl, g⟩ := h1; exact ⟨rfl, g⟩) fun _ _ x => x))
theorem Ts.orF {x : Expr} {xs : List Expr} {pos pos' : Pos} {b : Bool} (F : Fm X s₀ env) (hx : Ts X A s₀ env ρ x false) (hxs : Ts X A s₀ env ρ (.BoolOp .Or xs pos') b) : Ts X A s₀ env ρ (.BoolOp .Or (x :: xs) pos) b := fun s E S =>
  wpAny_isTrue_BoolOp (wpAny_allTrue_Or_cons (wpAny_mono (hx s E S) (fun b' s1 h1 => by
    obtain ⟨rfl, g⟩ := h1
    exact wpAny_mono (hxs s1 E (S.grown F g)) (fun _ _ h2 => ⟨h2.1, g.trans h2.2⟩) fun _ _ x => x) fun _ _ x => x))
theorem Ts.orNil {pos : Pos} : Ts X A s₀ env ρ (.BoolOp .Or [] pos) false := fun _ _ _ => wpAny_isTrue_BoolOp (wpAny_allTrue_Or_nil ⟨rfl, .refl ..⟩)
theorem Ts.andF {x : Expr} {xs : List Expr} {pos : Pos} (hx : Ts X A s₀ env ρ x false) : Ts X A s₀ env ρ (.BoolOp .And (x :: xs) pos) false := fun s E S =>
  wpAny_isTrue_BoolOp (wpAny_allTrue_And_cons (wpAny_mono (hx s E S) (fun b s1 h1 => by obtain ⟨rfl, g⟩ := h1; exact ⟨rfl, g⟩) fun _ _ x => x))
theorem Ts.andT {x : Expr} {xs : List Expr} {pos pos' : Pos} {b : Bool} (F : Fm X s₀ env) (hx : Ts X A s₀ env ρ x true) (hxs : Ts X A s₀ env ρ (.BoolOp .And xs pos') b) : Ts X A s₀ env ρ (.BoolOp .And (x :: xs) pos) b := fun s E S =>
  wpAny_isTrue_BoolOp (wpAny_allTrue_And_cons (wpAny_mono (hx s E S) (fun b' s1 h1 => by
    obtain ⟨rfl, g⟩ := h1
    exact wpAny_mono (hxs s1 E (S.grown F g)) (fun _ _ h2 => ⟨h2.1, g.trans h2.2⟩) fun _ _ x => x) fun _ _ x => x))
theorem Ev.ite {t b o : Expr} {pos : Pos} {c : Bool} {d : D} (F : Fm X s₀ env) (ht : Ts X A s₀ env ρ t c) (hb : c = true → Ev X A s₀ env ρ b d) (ho : c = false → Ev X A s₀ env ρ o d) : Ev X A s₀ env ρ (.IfExp t b o pos) d := fun s E S =>
  wpAny_IfExp (wpAny_mono (ht s E S) (fun c' s1 h1 => by
    obtain ⟨rfl, g⟩ := h1
    cases hc : c' with
    | true => simp only [if_true]; exact wpAny_mono (hb hc s1 E (S.grown F g)) (fun _ _ h2 => ⟨g.trans h2.1, h2.2⟩) fun _ _ x => x
    | false => simp only [Bool.false_eq_true, if_false]; exact wpAny_mono (ho hc s1 E (S.grown F g)) (fun _ _ h2 => ⟨g.trans h2.1, h2.2⟩) fun _ _ x => x) fun _ _ x => x)

theorem Op2.ints {t : Value → Value → Sem Value} {a b : Int} {d : D} (h : ∀ (s : Shared) (u v : Tok) E, wpAny X.M A (t (.int a u) (.int b v)) (Gives X s d) E s) : Op2 X A t (.int a) (.int b) d := fun s _ _ E _ r1 r2 => by
  obtain ⟨_, rfl⟩ := r1.intE; obtain ⟨_, rfl⟩ := r2.intE; exact h _ _ _ _
theorem Op1.int {t : Value → Sem Value} {a : Int} {d : D} (h : ∀ (s : Shared) (u : Tok) E, wpAny X.M A (t (.int a u)) (Gives X s d) E s) : Op1 X A t (.int a) d := fun s _ E _ r1 => by
  obtain ⟨_, rfl⟩ := r1.intE; exact h _ _ _
theorem Op2.strs {t : Value → Value → Sem Value} {a b : Str} {d : D} (h : ∀ (s : Shared) (u v : Tok) E, wpAny X.M A (t (.str a u) (.str b v)) (Gives X s d) E s) : Op2 X A t (.str a) (.str b) d := fun s _ _ E _ r1 r2 => by
  obtain ⟨_, rfl⟩ := r1.strE; obtain ⟨_, rfl⟩ := r2.strE; exact h _ _ _ _
theorem op_addI {a b : Int} : Op2 X A (binaryOp .Add) (.int a) (.int b) (.int (a + b)) := .ints fun s _ _ E => add_int ⟨.toks, .int ..⟩
theorem op_subI {a b : Int} : Op2 X A (binaryOp .Sub) (.int a) (.int b) (.int (a - b)) := .ints fun s _ _ E => sub_int ⟨.toks, .int ..⟩
theorem op_mulI {a b : Int} (hm : IntMulOk a b) : Op2 X A (binaryOp .Mult) (.int a) (.int b) (.int (a * b)) := .ints fun s _ _ E => mul_int ⟨.toks, .int ..⟩ hm
theorem op_andI {a b : Int} : Op2 X A (binaryOp .BitAnd) (.int a) (.int b) (.int (Builtin.bitAnd a b)) := .ints fun s _ _ E => and_int ⟨.toks, .int ..⟩
theorem op_xorI {a b : Int} : Op2 X A (binaryOp .BitXor) (.int a) (.int b) (.int (Builtin.bitXor a b)) := .ints fun s _ _ E => xor_int ⟨.toks, .int ..⟩
theorem op_divI {a b : Int} (hb : b ≠ 0) (hs : b.natAbs < 1073741824) : Op2 X A (binaryOp .FloorDiv) (.int a) (.int b) (.int (a.fdiv b)) := .ints fun s _ _ E => floordiv_int hb ⟨.toks, .int ..⟩ (.inl (PyProof.noPylong_small hs))
theorem op_modI {a b : Int} (hb : b ≠ 0) : Op2 X A (binaryOp .Mod) (.int a) (.int b) (.int (a.fmod b)) := .ints fun s _ _ E => mod_int' hb ⟨.toks, .int ..⟩
theorem op_powI {a n : Int} (hn : 0 ≤ n) (hn2 : n ≤ 1000000) (ha : a.natAbs < 2 ^ 64) : Op2 X A (binaryOp .Pow) (.int a) (.int n) (.int (a ^ n.toNat)) := .ints fun s _ _ E => pow_int_small hn hn2 ha ⟨.toks, .int ..⟩
theorem op_invI {a : Int} : Op1 X A (unaryOp .Invert) (.int a) (.int (Builtin.bitNot a)) := .int fun s _ E => invert_int ⟨.toks, .int ..⟩
theorem op_negI {a : Int} : Op1 X A (unaryOp .USub) (.int a) (.int (-a)) := .int fun s _ E => neg_int ⟨.toks, .int ..⟩
theorem op_eqI {a b : Int} : Op2 X A (compareOp .Eq) (.int a) (.int b) (.val (.bool (a == b))) := .ints fun s _ _ E => eq_int ⟨.refl .., .val ..⟩
theorem op_neI {a b : Int} : Op2 X A (compareOp .NotEq) (.int a) (.int b) (.val (.bool (a != b))) := .ints fun s _ _ E => ne_int ⟨.refl .., .val ..⟩
theorem op_ltI {a b : Int} : Op2 X A (compareOp .Lt) (.int a) (.int b) (.val (.bool (decide (a < b)))) := .ints fun s _ _ E => lt_int ⟨.refl .., .val ..⟩
theorem op_leI {a b : Int} : Op2 X A (compareOp .LtE) (.int a) (.int b) (.val (.bool (decide (a ≤ b)))) := .ints fun s _ _ E => le_int ⟨.refl .., .val ..⟩
theorem op_gtI {a b : Int} : Op2 X A (compareOp .Gt) (.int a) (.int b) (.val (.bool (decide (a > b)))) := .ints fun s _ _ E => gt_int ⟨.refl .., .val ..⟩
theorem op_isV {a b : Value} (hp : plainIs a b = true) : Op2 X A (compareOp .Is) (.val a) (.val b) (.val (.bool (a == b))) := fun s _ _ E _ r1 r2 => by
  rw [r1.valE, r2.valE]; exact wpAny_is_plain hp ⟨.refl .., .val ..⟩
theorem op_isNotV {a b : Value} (hp : plainIs a b = true) : Op2 X A (compareOp .IsNot) (.val a) (.val b) (.val (.bool (!(a == b)))) := fun s _ _ E _ r1 r2 => by
  rw [r1.valE, r2.valE]; exact wpAny_isNot_plain hp ⟨.refl .., .val ..⟩
theorem op_addS {x y : Str} (hf : x.length + y.length ≤ sizeLine) : Op2 X A (binaryOp .Add) (.str x) (.str y) (.str (x ++ y)) := .strs fun s _ _ E => add_str (fun _ _ => ⟨.toks, .str ..⟩) hf
theorem op_neS {x y : Str} : Op2 X A (compareOp .NotEq) (.str x) (.str y) (.val (.bool (x != y))) := .strs fun s _ _ E => ne_str ⟨.refl .., .val ..⟩
theorem Tr.str {x : Str} (hf : x.length < 2 ^ 60) : Tr X A (.str x) (x.length != 0) := fun s v E _ r => by
  obtain ⟨_, rfl⟩ := r.strE
  refine P.truthy_str (by omega) ⟨?_, Grow.toks⟩
  rw [Bool.eq_iff_iff, bne_iff_ne, bne_iff_ne]; omega
end
end Mine
end L2

section L3
open PySem PySem.W PyProof.Rows
namespace Mine
set_option genSizeOf false
set_option genInjectivity false

inductive Out where
  | next (ρ : Str → Option D)
  | brk (ρ : Str → Option D)
  | cont (ρ : Str → Option D)
  | ret (d : D)

theorem ff {p : Prop} (h : false = true) : p := by cases h
theorem tf {p : Prop} (h : true = false) : p := by cases h
theorem nx {ρ : Str → Option D} {d : D} {p : Prop} (h : Out.next ρ = Out.ret d) : p := by cases h
/-- an object that no name's binding turns -/
def Still (o : Obj) : Prop := match o.data with
  | .dict .. => False
  | .cell _ => False
  | _ => True
theorem still_val {o : Obj} (h : IsVal o) : Still o := by
  unfold Still; unfold IsVal at h; split at h <;> simp_all
/-- a statement's change: names and cells, and growth -/
structure Mv (X : Cx) (s s' : Shared) : Prop where
  keep : ∀ b o, b ≠ X.P → ¬ X.mu b → Still o → s.heap.get? b = some o → s'.heap.get? b = some o
theorem Mv.refl (X : Cx) (s : Shared) : Mv X s s := ⟨fun _ _ _ _ _ e => e⟩
theorem Mv.trans {X : Cx} {s s' s'' : Shared} (a : Mv X s s') (b : Mv X s' s'') : Mv X s s'' :=
  ⟨fun c o h1 h2 h3 e => b.keep c o h1 h2 h3 (a.keep c o h1 h2 h3 e)⟩
theorem Grow.mv {X : Cx} {s s' : Shared} (g : Grow X s s') : Mv X s s' := ⟨fun b o h _ _ e => g.keep b o h e⟩
theorem Mv.but {X : Cx} {s s' : Shared} {a : Addr} (hs : Heap.SameBut a s.heap s'.heap) (hn : ∀ o, s.heap.get? a = some o → ¬ Still o) : Mv X s s' := ⟨fun b o _ _ hS e => by
  by_cases hb : b = a
  · subst hb; exact absurd hS (hn o e)
  · exact (hs.2 b hb).trans e⟩
theorem ns_not_still {h : Heap} {a m} (hn : h.Ns a m) : ∀ o, h.get? a = some o → ¬ Still o := fun o e => by
  obtain ⟨o', es, ep, ho, hd, _⟩ := hn
  rw [ho] at e; cases e
  unfold Still; rw [hd]; exact id
theorem cell_not_still {h : Heap} {c v} (hc : h.IsCell c v) : ∀ o, h.get? c = some o → ¬ Still o := fun o e => by
  obtain ⟨o', ho, hd⟩ := hc
  rw [ho] at e; cases e
  unfold Still; rw [hd]; exact id

def Ends (X : Cx) (s₀ : Shared) (env : Env) (s : Shared) (K : Out → Prop) : Flow → Shared → Prop := fun f s' => match f with
  | .next => ∃ ρ, K (.next ρ) ∧ St X s₀ env ρ s' ∧ Mv X s s'
  | .brk => ∃ ρ, K (.brk ρ) ∧ St X s₀ env ρ s' ∧ Mv X s s'
  | .cont => ∃ ρ, K (.cont ρ) ∧ St X s₀ env ρ s' ∧ Mv X s s'
  | .ret v => ∃ d, K (.ret d) ∧ Grow X s₀ s' ∧ Rep s'.heap v d

def Ex (X : Cx) (A : Around) (s₀ : Shared) (env : Env) (ρ : Str → Option D) (ss : List Stmt) (K : Out → Prop) : Prop :=
  ∀ s E, St X s₀ env ρ s → wpAny X.M A (execs ss env) (Ends X s₀ env s K) E s
def Es (X : Cx) (A : Around) (s₀ : Shared) (env : Env) (ρ : Str → Option D) (st : Stmt) (K : Out → Prop) : Prop :=
  ∀ s E, St X s₀ env ρ s → wpAny X.M A (exec st env) (Ends X s₀ env s K) E s

def le (ρ ρ' : Str → Option D) : Prop := ∀ x d, ρ x = some d → ρ' x = some d
theorem le.refl (ρ : Str → Option D) : le ρ ρ := fun _ _ e => e
theorem le.trans {ρ ρ' ρ'' : Str → Option D} (a : le ρ ρ') (b : le ρ' ρ'') : le ρ ρ'' := fun x d e => b x d (a x d e)
theorem le.upd {ρ ρ' : Str → Option D} {x : Str} {d : D} (h : le ρ ρ') (hn : ρ x = none) : le ρ (Mine.upd ρ' x d) := fun y e hy => by
  by_cases hx : y = x
  · subst hx; rw [hn] at hy; cases hy
  · exact upd_there hx (h y e hy)
theorem le.upd2 {ρ ρ' : Str → Option D} {x : Str} {d : D} (h : le ρ ρ') : le (Mine.upd ρ x d) (Mine.upd ρ' x d) := fun y e hy => by
  by_cases hx : y = x
  · subst hx; rw [upd_here] at hy; cases hy; exact upd_here
  · rw [upd_there hx rfl] at hy; exact upd_there hx (h y e hy)

theorem St.weaken {X : Cx} {s₀ : Shared} {env : Env} {ρ ρ' : Str → Option D} {s : Shared} (S : St X s₀ env ρ' s) (h : le ρ ρ') : St X s₀ env ρ s :=
  ⟨S.gs, S.grow, let ⟨m, hn, hm⟩ := S.loc; ⟨m, hn, fun x d hk hr => hm x d hk (h x d hr)⟩, fun x d hk hr => S.cel x d hk (h x d hr), S.own⟩

theorem Ends.mono {X : Cx} {s₀ : Shared} {env : Env} {s s1 : Shared} {K K' : Out → Prop} {f : Flow} {s' : Shared} (h : Ends X s₀ env s1 K f s') (hm : Mv X s s1) (hK : ∀ o, K o → K' o) : Ends X s₀ env s K' f s' := by
  cases f with
  | next => obtain ⟨ρ, k, S, m⟩ := h; exact ⟨ρ, hK _ k, S, hm.trans m⟩
  | brk => obtain ⟨ρ, k, S, m⟩ := h; exact ⟨ρ, hK _ k, S, hm.trans m⟩
  | cont => obtain ⟨ρ, k, S, m⟩ := h; exact ⟨ρ, hK _ k, S, hm.trans m⟩
  | ret v => obtain ⟨d, k, r⟩ := h; exact ⟨d, hK _ k, r⟩

section
variable {X : Cx} {A : Around} {s₀ : Shared} {env : Env} {ρ : Str → Option D} {K : Out → Prop}

theorem Ex.nil (h : K (.next ρ)) : Ex X A s₀ env ρ [] K := fun s E S => wpAny_execs_nil ⟨ρ, h, S, .refl ..⟩
theorem Ex.cons {st : Stmt} {ss : List Stmt} {K1 : Out → Prop} (h1 : Es X A s₀ env ρ st K1) (hn : ∀ ρ', K1 (.next ρ') → Ex X A s₀ env ρ' ss K) (ho : ∀ o, (∀ ρ', o ≠ .next ρ') → K1 o → K o) : Ex X A s₀ env ρ (st :: ss) K := fun s E S =>
  wpAny_execs_cons (wpAny_mono (h1 s E S) (fun f s1 h => by
    cases f with
    | next => obtain ⟨ρ', k, S1, m⟩ := h; exact wpAny_mono (hn ρ' k s1 E S1) (fun f s2 h2 => h2.mono m fun _ x => x) fun _ _ x => x
    | brk => obtain ⟨ρ', k, S1, m⟩ := h; exact ⟨ρ', ho _ (fun _ e => nomatch e) k, S1, m⟩
    | cont => obtain ⟨ρ', k, S1, m⟩ := h; exact ⟨ρ', ho _ (fun _ e => nomatch e) k, S1, m⟩
    | ret v => obtain ⟨d, k, r⟩ := h; exact ⟨d, ho _ (fun _ e => nomatch e) k, r⟩) fun _ _ x => x)
/-- a statement that goes on with one state -/
theorem Ex.step {st : Stmt} {ss : List Stmt} {ρ' : Str → Option D} (h1 : Es X A s₀ env ρ st (fun o => o = .next ρ')) (hn : Ex X A s₀ env ρ' ss K) : Ex X A s₀ env ρ (st :: ss) K :=
  Ex.cons h1 (fun ρ'' e => by cases e; exact hn) fun o h e => absurd e (h ρ')
theorem Ex.weaken {ss : List Stmt} {ρ' : Str → Option D} (h : Ex X A s₀ env ρ ss K) (hl : le ρ ρ') : Ex X A s₀ env ρ' ss K := fun s E S => h s E (S.weaken hl)
theorem Ex.ret {e : Expr} {pos : Pos} {ss : List Stmt} {d : D} (F : Fm X s₀ env) (he : Ev X A s₀ env ρ e d) (h : K (.ret d)) : Ex X A s₀ env ρ (.Return (some e) pos :: ss) K := fun s E S =>
  wpAny_execs_cons (wpAny_Return_some (wpAny_mono (he s E S) (fun v s1 h1 => ⟨d, h, S.grow.trans h1.1, h1.2⟩) fun _ _ x => x))
theorem Ex.brk {pos : Pos} {ss : List Stmt} (h : K (.brk ρ)) : Ex X A s₀ env ρ (.Break pos :: ss) K := fun s E S => wpAny_execs_cons (wpAny_Break ⟨ρ, h, S, .refl ..⟩)

theorem store_local {x : Str} {v : Value} {d : D} {s : Shared} {E : Value → Shared → Prop} {Q : Unit → Shared → Prop} (F : Fm X s₀ env) (S : St X s₀ env ρ s) (hx : env.kindOf x = some .local) (r : Rep s.heap v d)
    (h : ∀ s', St X s₀ env (upd ρ x d) s' → Mv X s s' → Q () s') : wpAny X.M A (storeName env x v) Q E s := by
  obtain ⟨m, hn, hm⟩ := S.loc
  exact wpAny_storeName_local hx hn (fun h' hn' hs' => h _ (S.storeLocal F hx hn hm r hn' hs') (Mv.but hs' (ns_not_still hn))) (by rw [F.kind]; rfl)
theorem store_cell {x : Str} {v : Value} {d : D} {s : Shared} {E : Value → Shared → Prop} {Q : Unit → Shared → Prop} (F : Fm X s₀ env) (O : Oc s₀ env) (S : St X s₀ env ρ s) (hx : env.kindOf x = some .cell) (r : Rep s.heap v d)
    (h : ∀ s', St X s₀ env (upd ρ x d) s' → Mv X s s' → Q () s') : wpAny X.M A (storeName env x v) Q E s := by
  obtain ⟨c, v₀, hc, hv₀⟩ := S.own x hx
  exact wpAny_storeName_cell F.kind hx hc hv₀ (fun h' hn' hs' => h _ (S.storeCell (tk := s.toks) F O hx hc hv₀ r hn' hs') (Mv.but hs' (cell_not_still hv₀)))

theorem Es.asgL {x : Str} {value : Expr} {d : D} {pos' pos : Pos} (F : Fm X s₀ env) (he : Ev X A s₀ env ρ value d) (hx : env.kindOf x = some .local) (hs : swapsWith value (some (.Name x pos')) pos.line env = pure false) :
    Es X A s₀ env ρ (.Assign [.Name x pos'] value pos) (fun o => o = .next (upd ρ x d)) := fun s E S =>
  wpAny_Assign_Name (wpAny_mono (he s E S) (fun v s1 h1 => store_local F (S.grown F h1.1) hx h1.2 fun s' S' m => ⟨_, rfl, S', h1.1.mv.trans m⟩) fun _ _ x => x) hs
theorem Es.asgC {x : Str} {value : Expr} {d : D} {pos' pos : Pos} (F : Fm X s₀ env) (O : Oc s₀ env) (he : Ev X A s₀ env ρ value d) (hx : env.kindOf x = some .cell) (hs : swapsWith value (some (.Name x pos')) pos.line env = pure false) :
    Es X A s₀ env ρ (.Assign [.Name x pos'] value pos) (fun o => o = .next (upd ρ x d)) := fun s E S =>
  wpAny_Assign_Name (wpAny_mono (he s E S) (fun v s1 h1 => store_cell F O (S.grown F h1.1) hx h1.2 fun s' S' m => ⟨_, rfl, S', h1.1.mv.trans m⟩) fun _ _ x => x) hs
theorem Es.iff {test : Expr} {body orelse : List Stmt} {pos : Pos} {b : Bool} (F : Fm X s₀ env) (ht : Ts X A s₀ env ρ test b) (h1 : b = true → Ex X A s₀ env ρ body K) (h2 : b = false → Ex X A s₀ env ρ orelse K) :
    Es X A s₀ env ρ (.If test body orelse pos) K := fun s E S =>
  wpAny_If (wpAny_mono (ht s E S) (fun c s1 h => by
    obtain ⟨rfl, g⟩ := h
    cases hc : c with
    | true => simp only [if_true]; exact wpAny_mono (h1 hc s1 E (S.grown F g)) (fun _ _ x => x.mono g.mv fun _ k => k) fun _ _ x => x
    | false => simp only [Bool.false_eq_true, if_false]; exact wpAny_mono (h2 hc s1 E (S.grown F g)) (fun _ _ x => x.mono g.mv fun _ k => k) fun _ _ x => x) fun _ _ x => x)
theorem Es.assert {test : Expr} {msg : Option Expr} {pos : Pos} (F : Fm X s₀ env) (ht : Ts X A s₀ env ρ test true) : Es X A s₀ env ρ (.Assert test msg pos) (fun o => o = .next ρ) := fun s E S =>
  wpAny_Assert_holds (wpAny_mono (ht s E S) (fun c s1 h => ⟨h.1, ρ, rfl, S.grown F h.2, h.2.mv⟩) fun _ _ x => x)
end
end Mine
end L3

section L4
open PySem PySem.W PyProof.Rows
namespace Mine

/-- what a call gives -/
def Fc (X : Cx) (A : Around) (f : Value) (ds : List D) (d : D) : Prop := ∀ s vs E, Gs X s → Reps s.heap vs ds → wpAny X.M A (call f vs) (Gives X s d) E s
/-- a def's contract -/
def Fn (X : Cx) (n : Nat) (f : Addr) (ds : List D) (d : D) : Prop := ∀ A, Rm n A → Fc X A (.ref f) ds d

noncomputable def iniE (ρ : Str → Option D) : List (Str × D) → Str → Option D
  | [] => ρ
  | (x, d) :: r => iniE (upd ρ x d) r

/-- the names that a call binds -/
inductive Bs (h : Heap) : List (Str × Value) → List (Str × D) → Prop
  | nil : Bs h [] []
  | cons {x : Str} {v : Value} {d : D} {bs : List (Str × Value)} {ps : List (Str × D)} : Rep h v d → Bs h bs ps → Bs h ((x, v) :: bs) ((x, d) :: ps)
theorem Bs.keepV {h h' : Heap} (hk : ∀ b o, IsVal o → h.get? b = some o → h'.get? b = some o) {bs : List (Str × Value)} {ps : List (Str × D)} (B : Bs h bs ps) : Bs h' bs ps := by
  induction B with
  | nil => exact .nil
  | cons r rs ih => exact .cons (r.keepV hk) ih
theorem Bs.names {h : Heap} {bs : List (Str × Value)} {ps : List (Str × D)} (B : Bs h bs ps) : bs.map (·.1) = ps.map (·.1) := by
  induction B with
  | nil => rfl
  | cons r rs ih => exact congrArg (List.cons _) ih

theorem bindL_spec {h : Heap} {kindOf : Str → Option NameKind} : ∀ {bs : List (Str × Value)} {ps : List (Str × D)} (B : Bs h bs ps) (ρ : Str → Option D) (m : Str → Option Value),
    (∀ x d, kindOf x = some .local → ρ x = some d → ∃ v, m x = some v ∧ Rep h v d) →
    ∀ x d, kindOf x = some .local → iniE ρ ps x = some d → ∃ v, bindL kindOf bs m x = some v ∧ Rep h v d
  := by
  intro bs ps B
  induction B with
  | nil => intro ρ m hm x d hk hr; exact hm x d hk hr
  | @cons y v e bs ps r rs ih =>
    intro ρ m hm x d hk hr
    unfold bindL
    refine ih (upd ρ y e) _ (fun z dz hkz hz => ?_) x d hk hr
    by_cases hzy : z = y
    · subst hzy
      rw [upd_here] at hz; cases hz
      exact ⟨v, by rw [if_pos hkz]; exact if_pos rfl, r⟩
    · rw [upd_there hzy rfl] at hz
      obtain ⟨v', hv', r'⟩ := hm z dz hkz hz
      refine ⟨v', ?_, r'⟩
      split
      · exact (if_neg hzy).trans hv'
      · exact hv'
theorem bindC_spec {h : Heap} {kindOf : Str → Option NameKind} : ∀ {bs : List (Str × Value)} {ps : List (Str × D)} (B : Bs h bs ps) (ρ : Str → Option D) (m : Str → Option Value),
    (∀ x d, kindOf x ≠ some .local → ρ x = some d → ∃ v, m x = some v ∧ Rep h v d) →
    ∀ x d, kindOf x ≠ some .local → iniE ρ ps x = some d → ∃ v, bindC kindOf bs m x = some v ∧ Rep h v d
  := by
  intro bs ps B
  induction B with
  | nil => intro ρ m hm x d hk hr; exact hm x d hk hr
  | @cons y v e bs ps r rs ih =>
    intro ρ m hm x d hk hr
    unfold bindC
    refine ih (upd ρ y e) _ (fun z dz hkz hz => ?_) x d hk hr
    by_cases hzy : z = y
    · subst hzy
      rw [upd_here] at hz; cases hz
      exact ⟨v, by rw [if_neg hkz]; exact if_pos rfl, r⟩
    · rw [upd_there hzy rfl] at hz
      obtain ⟨v', hv', r'⟩ := hm z dz hkz hz
      refine ⟨v', ?_, r'⟩
      split
      · exact hv'
      · exact (if_neg hzy).trans hv'

/-- how a def binds its arguments -/
def Bnd (X : Cx) (fd : FuncData) (ds : List D) (ps : List (Str × D)) : Prop :=
  ∀ s vs A (Q : List (Str × Value) → Shared → Prop) E, Gs X s → Reps s.heap vs ds → (∀ bs s', Grow X s s' → Bs s'.heap bs ps → Q bs s') → wpAny X.M A (bindArgs fd ⟨vs, []⟩) Q E s

theorem Rm.deeper {n : Nat} {A : Around} {env : Env} (R : Rm (n + 1) A) : Rm n (A.deeper env) := ⟨R.hd, fun h => R.gd (by omega), by have := R.dp; show A.depth + 1 + n ≤ 900; omega, by have := R.un; show A.units + 3 + 20 * n ≤ 9000; omega⟩
theorem Rm.less {n m : Nat} {A : Around} (R : Rm n A) (h : m ≤ n) : Rm m A := ⟨R.hd, fun h => R.gd (by omega), by have := R.dp; omega, by have := R.un; omega⟩
theorem Rm.room {n : Nat} {A : Around} (R : Rm n A) : A.depth < recursionLimit := by have := R.dp; show A.depth < 1000; omega
theorem Rm.units {n : Nat} {A : Around} (R : Rm n A) : A.units < cLine := by have := R.un; show A.units < 9900; omega

theorem Fn.enter {X : Cx} {n : Nat} {f : Addr} {o : Obj} {fd : FuncData} {body : List Stmt} {ds : List D} {ps : List (Str × D)} {r : D}
    (hK : X.K.lookup f = some o) (hd : o.data = .func fd) (hbody : fd.body = .stmts body) (hcd : codeIn X.K fd.code fd.qualname = true) (hco : fd.scope.isCoroutine = false) (hgen : fd.scope.isGenerator = false) (hk : fd.scope.kind = .function)
    (hglob : fd.globals = mainGlobals) (hbi : fd.builtins = builtinsNs) (hclo : fd.closure = [])
    (hb : Bnd X fd ds ps) (hkind : (ps.all fun y => fd.scope.names.lookup y.1 == some .local || fd.scope.names.lookup y.1 == some .cell) = true)
    (h : ∀ A s₀, Rm n A → Gs X s₀ → ∀ env, env = callEnvC fd s₀.heap.objs.size f → Fm X s₀ env → Oc s₀ env → Ex X A s₀ env (iniE (fun _ => none) ps) body (fun o => o = .ret r)) : Fn X (n + 1) f ds r := by
  have hcells : ∀ x, fd.scope.names.lookup x = some .cell → ∀ k, ((cellsFrom k fd.scope.names []).lookup x).isSome = true := fun x hx k => cellsFrom_some _ _ _ (.inl hx)
  intro A R s vs E G rs
  refine wpAny_call (codeAny_call_function R.room (G.gd.k f o hK) hd hco hgen hbody (codeRec_of G.gd.k hcd) ?_)
  refine hb s vs _ _ _ G rs fun bs s1 g1 B => ?_
  have G1 := G.grow g1
  rw [hclo]
  refine wpAny_newFunctionEnv_cells hk ?_ fun env he s2 I => ?_
  · intro x hx
    have hx' : x.1 ∈ ps.map (·.1) := by rw [← B.names]; exact List.mem_map_of_mem hx
    obtain ⟨y, hy, e⟩ := List.mem_map.mp hx'
    have q := List.all_eq_true.mp hkind y hy
    rw [e] at q
    rcases Bool.or_eq_true_iff.mp q with q | q
    · exact .inl (by simpa using q)
    · have q' : fd.scope.names.lookup x.1 = some .cell := by simpa using q
      exact .inr ⟨q', hcells _ q' _⟩
  · have he' : env = callEnvC fd s1.heap.objs.size f := he
    obtain ⟨h2, tk2, rfl⟩ := I.toInCall.same
    have k2 := I.toInCall.keep
    refine ⟨G1.gd.lim.keeps k2, codeAny_func ?_⟩
    have g2 : Grow X s1 { s1 with heap := h2, toks := tk2 } := Grow.of k2
    have F : Fm X s1 env := ⟨by rw [he]; exact hk, by rw [he]; exact hglob, by rw [he]; exact hbi, I.toInCall.fresh, G1⟩
    have O : Oc s1 env := ⟨fun x c hc => Nat.le_of_lt (Nat.lt_of_le_of_lt I.toInCall.fresh (I.above x c (mem_of_lookup hc))), fun x y c hx hy => name_of_addr I.apart (mem_of_lookup hx) (mem_of_lookup hy)⟩
    have B2 : Bs h2 bs ps := B.keepV fun b o _ e => k2 b o e
    have S : St X s1 env (iniE (fun _ => none) ps) { s1 with heap := h2, toks := tk2 } := by
      refine ⟨G1.grow g2, g2, ⟨_, I.toInCall.ns, bindL_spec B2 _ _ fun _ _ _ e => by cases e⟩, fun x d hkx hr => ?_, fun x hkx => ?_⟩
      · have hnl : env.kindOf x ≠ some .local := by rcases hkx with q | q <;> rw [q] <;> intro z <;> cases z
        obtain ⟨v, hv, rv⟩ := bindC_spec B2 _ (fun _ => none) (fun _ _ _ e => by cases e) x d hnl hr
        have hx' : x ∈ ps.map (·.1) := by
          refine Classical.byContradiction fun hno => ?_
          have : ∀ (ps : List (Str × D)) (ρ : Str → Option D), ρ x = none → x ∉ ps.map (·.1) → iniE ρ ps x = none := by
            intro ps
            induction ps with
            | nil => intro ρ e _; exact e
            | cons p r ih =>
              intro ρ e hn
              simp only [List.map_cons, List.mem_cons, not_or] at hn
              obtain ⟨y, dy⟩ := p
              exact ih _ (upd_there hn.1 e) hn.2
          rw [this ps _ rfl hno] at hr; cases hr
        obtain ⟨y, hy, e⟩ := List.mem_map.mp hx'
        have q := List.all_eq_true.mp hkind y hy
        rw [e] at q
        have hkn : fd.scope.names.lookup x = env.kindOf x := by rw [he]; rfl
        have q' : env.kindOf x = some .cell := by
          rcases Bool.or_eq_true_iff.mp q with q | q
          · exact absurd (by rw [← hkn]; simpa using q) hnl
          · rw [← hkn]; simpa using q
        obtain ⟨c, hc⟩ := Option.isSome_iff_exists.mp (hcells x (hkn.trans q') (s1.heap.objs.size + 1))
        have hc' : env.cells.lookup x = some c := by rw [he]; exact hc
        exact ⟨c, v, hc', hv ▸ I.cell x c hc', rv⟩
      · have hkn : fd.scope.names.lookup x = env.kindOf x := by rw [he]; rfl
        obtain ⟨c, hc⟩ := Option.isSome_iff_exists.mp (hcells x (hkn.trans hkx) (s1.heap.objs.size + 1))
        have hc' : env.cells.lookup x = some c := by rw [he]; exact hc
        exact ⟨c, _, hc', I.cell x c hc'⟩
    refine wpAny_mono (h _ s1 R.deeper G1 env he' F O _ _ S) (fun fl s3 e3 => ?_) fun _ _ x => x
    cases fl with
    | ret v => obtain ⟨d, k, g3, r3⟩ := e3; cases k; exact ⟨g1.trans g3, r3⟩
    | next => obtain ⟨ρ, k, _⟩ := e3; cases k
    | brk => obtain ⟨ρ, k, _⟩ := e3; cases k
    | cont => obtain ⟨ρ, k, _⟩ := e3; cases k

/-- plain parameters -/
theorem Bnd.plain {X : Cx} {fd : FuncData} {ds : List D} {ns : List Str} (hlen : ns.length = ds.length) (hb : ∀ vs, vs.length = ns.length → bindArgs fd ⟨vs, []⟩ = pure (ns.zip vs)) : Bnd X fd ds (ns.zip ds) := by
  intro s vs A Q E G rs hQ
  rw [hb vs (by rw [rs.length, hlen])]
  refine wpAny_pure (hQ _ s (.refl ..) ?_)
  have : ∀ (ns : List Str) {vs : List Value} {ds : List D}, Reps s.heap vs ds → Bs s.heap (ns.zip vs) (ns.zip ds) := by
    intro ns
    induction ns with
    | nil => intro vs ds _; exact .nil
    | cons x r ih =>
      intro vs ds rs
      cases rs with
      | nil => exact .nil
      | cons r rs => exact .cons r (ih rs)
  exact this ns rs

def Evs (X : Cx) (A : Around) (s₀ : Shared) (env : Env) (ρ : Str → Option D) (pos : Pos) (es : List Expr) (ds : List D) : Prop :=
  ∀ s E, St X s₀ env ρ s → wpAny X.M A (spliced (backTo pos (starEach es env))) (fun vs s' => Grow X s s' ∧ Reps s'.heap vs ds) E s

section
variable {X : Cx} {A : Around} {s₀ : Shared} {env : Env} {ρ : Str → Option D} {pos : Pos}

theorem Evs.nil : Evs X A s₀ env ρ pos [] [] := fun s E S => wpAny_items_nil ⟨.refl .., .nil⟩
theorem Evs.cons {e : Expr} {es : List Expr} {d : D} {ds : List D} (F : Fm X s₀ env) (he : starEach (e :: es) env = (false, eval e env) :: starEach es env) (h1 : Ev X A s₀ env ρ e d) (h2 : Evs X A s₀ env ρ pos es ds) : Evs X A s₀ env ρ pos (e :: es) (d :: ds) := fun s E S =>
  wpAny_items_cons (wpAny_mono (h1 s E S) (fun v s1 q1 => wpAny_mono (h2 s1 E (S.grown F q1.1)) (fun vs s2 q2 => ⟨q1.1.trans q2.1, .cons (q1.2.grow (S.grown F q1.1).gs q2.1) q2.2⟩) fun _ _ x => x) fun _ _ x => x) he

theorem Ev.tup {es : List Expr} {k : Nat} {ds : List D} (hs : ds.length ≤ sizeLine) (h : Evs X A s₀ env ρ pos es ds) : Ev X A s₀ env ρ (.Tuple es k pos) (.tup ds) := fun s E S =>
  wpAny_Tuple (wpAny_mono (h s E S) (fun vs s1 q => ⟨by rw [q.2.length]; exact hs, q.1.trans .push, .tup (n := 0) (Heap.get?_push_size _ rfl) (q.2.keepV fun b o _ e => Heap.get?_push_of_some _ e)⟩) fun _ _ x => x)
theorem Ev.list {es : List Expr} {ds : List D} (hs : ds.length ≤ sizeLine) (h : Evs X A s₀ env ρ pos es ds) : Ev X A s₀ env ρ (.List es pos) (.list ds) := fun s E S =>
  wpAny_List (wpAny_mono (h s E S) (fun vs s1 q => ⟨by rw [q.2.length]; exact hs, q.1.trans .push, .list (n := 0) (Heap.get?_push_size _ rfl) (q.2.keepV fun b o _ e => Heap.get?_push_of_some _ e)⟩) fun _ _ x => x)

theorem eval_Call_plain {f : Expr} {args : List Expr} (hf : ∀ o n p, f ≠ .Attribute o n p) : eval (.Call f args [] pos) env = (do callWith pos (← eval f env) [] (backTo pos (starEach args env)) (backToKw pos (keywordEach [] env))) := by
  cases f <;> first | rfl | exact absurd rfl (hf _ _ _)

theorem Ev.call {f e : Expr} {es : List Expr} {fv : Value} {ds : List D} {d : D} (F : Fm X s₀ env) (hf : ∀ o n p, f ≠ .Attribute o n p) (h1 : Ev X A s₀ env ρ f (.val fv)) (he : starEach (e :: es) env = (false, eval e env) :: starEach es env)
    (hplain : (backTo pos (starEach es env)).any (·.1) = false) (h2 : Evs X A s₀ env ρ pos (e :: es) ds)
    (hfv : (∀ a, fv = .ref a → ∃ o fd, X.K.lookup a = some o ∧ o.data = .func fd) ∧ ((∃ a, fv = .ref a) ∨ (∃ i, fv = .builtin i) ∨ (∃ T, fv = .type T))) (h3 : Fc X A fv ds d) : Ev X A s₀ env ρ (.Call f (e :: es) [] pos) d := fun s E S => by
  rw [eval_Call_plain hf]
  refine wpAny_bind (wpAny_mono (h1 s E S) (fun v s1 q1 => ?_) fun _ _ x => x)
  obtain ⟨g1, r1⟩ := q1
  cases r1
  have S1 := S.grown F g1
  have main : ∀ vs s2, Grow X s1 s2 → Reps s2.heap vs ds → wpAny X.M A (PySem.call fv ([] ++ vs) []) (Gives X s d) E s2 := fun vs s2 g2 r2 =>
    wpAny_mono (h3 s2 vs E (S1.gs.grow g2) r2) (fun v s3 q3 => ⟨g1.trans (g2.trans q3.1), q3.2⟩) fun _ _ x => x
  have hany : (backTo pos (starEach (e :: es) env)).any (·.1) = false := by rw [he]; show (false || (backTo pos (starEach es env)).any (·.1)) = false; rw [hplain]; rfl
  obtain ⟨hfn, hkind⟩ := hfv
  rcases hkind with ⟨a, rfl⟩ | ⟨i, rfl⟩ | ⟨T, rfl⟩
  · obtain ⟨o, fd, hl, hd⟩ := hfn a rfl
    have z := h2 s1 E S1
    rw [he] at z ⊢
    exact Calls.callWith_function (Calls.evalArgs_plain (wpAny_mono z (fun vs s2 q2 => ⟨⟨(S1.gs.grow q2.1).gd.k a o hl, hd⟩, main vs s2 q2.1 q2.2⟩) fun _ _ x => x))
  · have z := h2 s1 E S1
    rw [he] at z hany ⊢
    exact Calls.callWith_builtin hany (Calls.evalArgs_plain (wpAny_mono z (fun vs s2 q2 => main vs s2 q2.1 q2.2) fun _ _ x => x))
  · have z := h2 s1 E S1
    rw [he] at z hany ⊢
    exact PyProof.Rows.callWith_type hany (Calls.evalArgs_plain (wpAny_mono z (fun vs s2 q2 => main vs s2 q2.1 q2.2) fun _ _ x => x))
end
end Mine
end L4

section L5
open PySem PySem.W PyProof.Rows
namespace Mine

def Iobj (o : Obj) : Prop := (∃ fs, o.data = .fields fs) ∧ o.cls ≠ .type "range" ∧ o.cls ≠ .none
theorem Iobj.notVal {o : Obj} (h : Iobj o) : ¬ IsVal o := by
  obtain ⟨⟨fs, e⟩, h1, _⟩ := h
  unfold IsVal; rw [e]; exact h1

theorem Tab.on {X : Cx} {h h' : Heap} (T : Tab X h) (h1 : ∀ o, h.get? X.C = some o → h'.get? X.C = some o) (h2 : ∀ o, h.get? X.P = some o → h'.get? X.P = some o) : Tab X h' := by
  obtain ⟨ps, x, t⟩ := T
  refine ⟨ps, ?_, ?_⟩
  · obtain ⟨o, vs, file, tf, flags, tg, inF, text, tt, op, q, r1, r2, r3, r4, r5, r6, b, r⟩ := x
    exact ⟨o, vs, file, tf, flags, tg, inF, text, tt, op, h1 _ q, r1, r2, r3, r4, r5, r6, h2 _ b, r⟩
  · obtain ⟨⟨o, vs, a, r⟩, e⟩ := t
    exact ⟨⟨o, vs, h1 _ a, r⟩, h2 _ e⟩

/-- growth where the addresses of wr, all above the start, may turn -/
theorem Grow.but {X : Cx} {s₀ s : Shared} {h' : Heap} {tk : Nat} {wr : List Addr} (g : Grow X s₀ s) (G : Gs X s₀) (hw : ∀ b ∈ wr, s₀.heap.objs.size ≤ b) (hk : ∀ b o, b ∉ wr → s.heap.get? b = some o → h'.get? b = some o) :
    Grow X s₀ { s with heap := h', toks := tk } := by
  have low : ∀ b, b < s₀.heap.objs.size → b ∉ wr := fun b hb hm => absurd (hw b hm) (Nat.not_le.mpr hb)
  refine ⟨fun b o hb e => hk b o (low b (Heap.lt_size e)) (g.keep b o hb e), fun ps e => ?_, fun t => ?_, g.os, g.bare, g.gens, fun q => ?_⟩
  · obtain ⟨m, e'⟩ := g.tab ps e
    exact ⟨m, hk _ _ (low _ (Heap.lt_size e)) e'⟩
  · exact (g.tok t).on (fun o e => hk _ o (low _ t.lt.1) e) fun o e => hk _ o (low _ t.lt.2) e
  · obtain ⟨h1, k1, e, hq⟩ := g.quiet q
    subst e
    exact ⟨h', tk, rfl, fun b o e => hk b o (low b (Heap.lt_size e)) (hq b o e)⟩

section
variable {X : Cx} {A : Around} {s₀ : Shared} {env : Env} {ρ : Str → Option D}

theorem St.iter {s : Shared} {h' : Heap} {tk : Nat} {wr : List Addr} (F : Fm X s₀ env) (S : St X s₀ env ρ s) (hw : ∀ b ∈ wr, s₀.heap.objs.size ≤ b) (hi : ∀ b ∈ wr, ∃ o, s.heap.get? b = some o ∧ Iobj o)
    (hk : ∀ b o, b ∉ wr → s.heap.get? b = some o → h'.get? b = some o) : St X s₀ env ρ { s with heap := h', toks := tk } := by
  have g' : Grow X s₀ { s with heap := h', toks := tk } := S.grow.but F.g0 hw hk
  have other : ∀ b o, s.heap.get? b = some o → ¬ Iobj o → b ∉ wr := fun b o e hn hm => by
    obtain ⟨o', e', h⟩ := hi b hm
    rw [e] at e'; cases e'; exact hn h
  have kv : ∀ b o, IsVal o → s.heap.get? b = some o → h'.get? b = some o := fun b o hv e => hk b o (other b o e fun h => h.notVal hv) e
  have kc : ∀ c v, s.heap.IsCell c v → h'.IsCell c v := fun c v ⟨o, ho, hd⟩ => ⟨o, hk c o (other c o ho fun h => by obtain ⟨⟨fs, e⟩, _⟩ := h; rw [hd] at e; cases e) ho, hd⟩
  refine ⟨F.g0.grow g', g', ?_, fun x d hkx hr => ?_, fun x hkx => ?_⟩
  · obtain ⟨m, hn, hm⟩ := S.loc
    refine ⟨m, hn.at' fun o e => hk _ o (other _ o e fun h => ?_) e, fun x d hkx hr => ?_⟩
    · obtain ⟨o', es, ep, ho', hd', _⟩ := hn
      rw [e] at ho'; cases ho'
      obtain ⟨⟨fs, q⟩, _⟩ := h; rw [hd'] at q; cases q
    · obtain ⟨v, hv, r⟩ := hm x d hkx hr; exact ⟨v, hv, r.keepV kv⟩
  · obtain ⟨c, v, hc, hv, r⟩ := S.cel x d hkx hr; exact ⟨c, v, hc, kc _ _ hv, r.keepV kv⟩
  · obtain ⟨c, v, hc, hv⟩ := S.own x hkx; exact ⟨c, v, hc, kc _ _ hv⟩

/-- the i-th item -/
def PI (ds : List D) (i : Nat) (v : Value) : Prop := ∃ d, ds[i]? = some d ∧ ∀ h, Rep h v d

structure ItOk (X : Cx) (A : Around) (s : Shared) (ds : List D) (I : Addr) (fp wr : List Addr) (SI : Nat → Heap → Prop) (s' : Shared) : Prop where
  w : Walks X.prog X.w A I fp wr ds.length (PI ds) SI
  st : SI 0 s'.heap
  grow : Grow X s s'
  lt : ∀ b ∈ fp, b < s'.heap.objs.size
  old : ∀ b ∈ fp, b ∈ wr ∨ ∃ o, s.heap.get? b = some o ∧ IsVal o
  new : ∀ b ∈ wr, s.heap.objs.size ≤ b
  size : s.heap.objs.size ≤ s'.heap.objs.size
  io : ∀ i h, SI i h → ∀ b ∈ wr, ∃ o, h.get? b = some o ∧ Iobj o

def Itb (X : Cx) (A : Around) (d : D) (ds : List D) : Prop := ∀ s v E (Q : Value → Shared → Prop), Gs X s → Rep s.heap v d →
  (∀ I fp wr SI s', ItOk X A s ds I fp wr SI s' → Q (.ref I) s') → wpAny X.M A (pyIter v) Q E s

theorem PI.of {h : Heap} {vs : List Value} {ds : List D} (rs : Reps h vs ds) (hf : ∀ d ∈ ds, d.flat = true) : ∀ i v, vs.toArray[i]? = some v → PI ds i v := fun i v e => by
  obtain ⟨d, hd, r⟩ := rs.get' (i := i) (v := v) (by simpa using e)
  exact ⟨d, hd, fun h' => r.flat (hf d (List.mem_of_getElem? hd))⟩

theorem Itb.list {ds : List D} (hh : A.handled = none) (hf : ∀ d ∈ ds, d.flat = true) : Itb X A (.list ds) ds := fun s v E Q G r hQ => by
  cases r with
  | list e rs =>
    rename_i a vs n
    refine wpAny_pyIter_list (items := vs.toArray) ⟨_, e, rfl, n, rfl⟩ ?_
    have hne : a ≠ s.heap.objs.size := Nat.ne_of_lt (Heap.lt_size e)
    have W := (Walks.list (prog := X.prog) (w := X.w) hh s.heap.objs.size a hne vs.toArray).weaken (PI.of rs hf)
    rw [show vs.toArray.size = ds.length by rw [List.size_toArray, rs.length]] at W
    refine hQ _ _ _ _ _ ⟨W, ⟨⟨_, Heap.get?_push_size _ rfl, rfl, rfl⟩, ⟨_, Heap.get?_push_of_some _ e, rfl, n, rfl⟩⟩, .push, ?_, ?_, ?_, (by show _ ≤ (s.heap.push _).objs.size; rw [Heap.size_push]; exact Nat.le_succ _), ?_⟩
    · intro b hb
      show b < (s.heap.push _).objs.size
      rw [Heap.size_push]
      simp only [List.mem_cons, List.not_mem_nil, or_false] at hb
      rcases hb with rfl | rfl
      · exact Nat.lt_succ_self _
      · exact Nat.lt_succ_of_lt (Heap.lt_size e)
    · intro b hb
      simp only [List.mem_cons, List.not_mem_nil, or_false] at hb
      rcases hb with rfl | rfl
      · exact .inl (List.mem_singleton.mpr rfl)
      · exact .inr ⟨_, e, trivial⟩
    · intro b hb; simp only [List.mem_cons, List.not_mem_nil, or_false] at hb; rw [hb]; exact Nat.le_refl _
    · intro i h st b hb
      simp only [List.mem_cons, List.not_mem_nil, or_false] at hb; subst hb
      obtain ⟨⟨o, ho, hc, hd⟩, _⟩ := st
      exact ⟨o, ho, ⟨_, hd⟩, by rw [hc]; decide, by rw [hc]; decide⟩

theorem Itb.tup {ds : List D} (hh : A.handled = none) (hf : ∀ d ∈ ds, d.flat = true) : Itb X A (.tup ds) ds := fun s v E Q G r hQ => by
  cases r with
  | tup e rs =>
    rename_i a vs n
    refine wpAny_pyIter_tuple (items := vs.toArray) ⟨_, e, rfl, n, rfl⟩ ?_
    have hne : a ≠ s.heap.objs.size := Nat.ne_of_lt (Heap.lt_size e)
    have W := (Walks.tuple (prog := X.prog) (w := X.w) hh s.heap.objs.size a hne vs.toArray).weaken (PI.of rs hf)
    rw [show vs.toArray.size = ds.length by rw [List.size_toArray, rs.length]] at W
    refine hQ _ _ _ _ _ ⟨W, ⟨⟨_, Heap.get?_push_size _ rfl, rfl, rfl⟩, ⟨_, Heap.get?_push_of_some _ e, rfl, n, rfl⟩⟩, .push, ?_, ?_, ?_, (by show _ ≤ (s.heap.push _).objs.size; rw [Heap.size_push]; exact Nat.le_succ _), ?_⟩
    · intro b hb
      show b < (s.heap.push _).objs.size
      rw [Heap.size_push]
      simp only [List.mem_cons, List.not_mem_nil, or_false] at hb
      rcases hb with rfl | rfl
      · exact Nat.lt_succ_self _
      · exact Nat.lt_succ_of_lt (Heap.lt_size e)
    · intro b hb
      simp only [List.mem_cons, List.not_mem_nil, or_false] at hb
      rcases hb with rfl | rfl
      · exact .inl (List.mem_singleton.mpr rfl)
      · exact .inr ⟨_, e, trivial⟩
    · intro b hb; simp only [List.mem_cons, List.not_mem_nil, or_false] at hb; rw [hb]; exact Nat.le_refl _
    · intro i h st b hb
      simp only [List.mem_cons, List.not_mem_nil, or_false] at hb; subst hb
      obtain ⟨⟨o, ho, hc, hd⟩, _⟩ := st
      exact ⟨o, ho, ⟨_, hd⟩, by rw [hc]; decide, by rw [hc]; decide⟩

/-- the ints of a range by ones -/
noncomputable def rngL (a b : Int) : List D := (List.range (b - a).toNat).map fun (i : Nat) => D.int (a + i)
theorem rngL_length (a b : Int) : (rngL a b).length = (b - a).toNat := by simp [rngL]
theorem rngL_get {a b : Int} {i : Nat} (h : i < (b - a).toNat) : (rngL a b)[i]? = some (.int (a + i)) := by
  simp [rngL, List.getElem?_map, List.getElem?_range h]

theorem fits_41 {x : Int} (h : x.natAbs < 2 ^ 41) : Builtin.Range.rangeFitsLong x = true := by
  unfold Builtin.Range.rangeFitsLong
  rw [Bool.and_eq_true, decide_eq_true_eq, decide_eq_true_eq]
  omega
theorem size_one (a b : Int) : Builtin.Range.rangeSize a b 1 = ((b - a).toNat : Int) := by
  unfold Builtin.Range.rangeSize
  simp
  split <;> omega
theorem small_one {a b : Int} (ha : a.natAbs < 2 ^ 40) (hb : b.natAbs < 2 ^ 40) : Builtin.Range.small a b 1 = true ∧ Builtin.Range.rangeSize a b 1 = ((b - a).toNat : Int) := by
  refine ⟨?_, size_one a b⟩
  have hz : ((b - a).toNat : Int).natAbs < 2 ^ 41 := by rw [Int.natAbs_natCast]; omega
  have fb : Builtin.Range.rangeFitsLong b = true := fits_41 (Nat.lt_trans hb (by decide))
  unfold Builtin.Range.small
  rw [size_one, fits_41 (Nat.lt_trans ha (by decide)), fb, fits_41 (x := 1) (by decide), fits_41 hz, if_pos (by decide), show b + ((1 : Int) - 1) = b from Int.add_zero b, fb]
  rw [Bool.or_true]; rfl

theorem Itb.rng {a b : Int} (hh : A.handled = none) (ha : a.natAbs < 2 ^ 40) (hb : b.natAbs < 2 ^ 40) : Itb X A (.rng a b 1) (rngL a b) := fun s v E Q G r hQ => by
  cases r with
  | rng e =>
    obtain ⟨h1, h2⟩ := small_one ha hb
    refine wpAny_pyIter_range e h1 ?_
    rw [h2]
    have W := (Walks.range (prog := X.prog) (w := X.w) (A := A) hh s.heap.objs.size a 1 (b - a).toNat).bound.weaken (P' := PI (rngL a b)) (by
      rintro i v ⟨hi, t, rfl⟩
      exact ⟨_, rngL_get hi, fun h => by rw [Int.mul_one]; exact .int ..⟩)
    rw [← rngL_length a b] at W
    refine hQ _ _ _ _ _ ⟨W, ?_, .push, ?_, ?_, ?_, (by show _ ≤ (s.heap.push _).objs.size; rw [Heap.size_push]; exact Nat.le_succ _), ?_⟩
    · have : IsRangeIter (s.heap.push { cls := .type "range_iterator", data := .fields #[rawInt a, rawInt ((b - a).toNat : Int), rawInt 1] }) s.heap.objs.size a ((b - a).toNat : Int) 1 := Heap.get?_push_size _ rfl
      simpa [rngL_length] using this
    · intro b' hb'
      show b' < (s.heap.push _).objs.size
      rw [Heap.size_push]
      simp only [List.mem_cons, List.not_mem_nil, or_false] at hb'
      rw [hb']; exact Nat.lt_succ_self _
    · intro b' hb'; simp only [List.mem_cons, List.not_mem_nil, or_false] at hb'; rw [hb']; exact .inl (List.mem_singleton.mpr rfl)
    · intro b' hb'; simp only [List.mem_cons, List.not_mem_nil, or_false] at hb'; rw [hb']; exact Nat.le_refl _
    · intro i h st b' hb'
      simp only [List.mem_cons, List.not_mem_nil, or_false] at hb'; subst hb'
      exact ⟨_, st, ⟨_, rfl⟩, (by show Value.type "range_iterator" ≠ Value.type "range"; decide), (by show Value.type "range_iterator" ≠ Value.none; decide)⟩

/-- a loop, its name stored as hst says -/
theorem Es.forG {x : Str} {px pos : Pos} {iter : Expr} {body orelse : List Stmt} {d : D} {ds : List D} {K : Out → Prop} (F : Fm X s₀ env) (hit : Ev X A s₀ env ρ iter d) (hI : Itb X A d ds) (hst : ∀ ρ' s v d E (Q : Unit → Shared → Prop), St X s₀ env ρ' s → Rep s.heap v d → (∀ s', St X s₀ env (upd ρ' x d) s' → Mv X s s' → Q () s') → wpAny X.M A (storeName env x v) Q E s)
    (Inv : Nat → (Str → Option D) → Prop) (h0 : Inv 0 ρ)
    (hb : ∀ i d ρ', ds[i]? = some d → Inv i ρ' → Ex X A s₀ env (upd ρ' x d) body (fun o => match o with | .next ρ'' => Inv (i + 1) ρ'' | .cont ρ'' => Inv (i + 1) ρ'' | .brk ρ'' => K (.next ρ'') | .ret d => K (.ret d)))
    (he : ∀ ρ', Inv ds.length ρ' → Ex X A s₀ env ρ' orelse K)
    (hs : ∀ v, foldedSetIterable iter env v = pure v) (hmu : ∀ b, ¬ X.mu b) : Es X A s₀ env ρ (.For (.Name x px) iter body orelse pos) K := fun s E S => by
  refine wpAny_For (wpAny_mono (hit s E S) (fun v s1 q1 => ?_) fun _ _ x => x) hs
  obtain ⟨g1, r1⟩ := q1
  have S1 := S.grown F g1
  refine hI s1 v E _ S1.gs r1 fun I fp wr SI s2 W => ?_
  have S2 := S1.grown F W.grow
  obtain ⟨m1, hn1, _⟩ := S1.loc
  have sz : s₀.heap.objs.size ≤ s1.heap.objs.size := Nat.le_of_lt (Nat.lt_of_le_of_lt F.above hn1.lt)
  have hw : ∀ b ∈ wr, s₀.heap.objs.size ≤ b := fun b hb => Nat.le_trans sz (W.new b hb)
  have low : ∀ b o, s1.heap.get? b = some o → b ∉ wr := fun b o e hm => absurd (Heap.lt_size e) (Nat.not_lt.mpr (W.new b hm))
  have wP : ∀ b ∈ wr, b ≠ X.P := fun b hb e => absurd S1.gs.tab.lt.2 (Nat.not_lt.mpr (e ▸ W.new b hb))
  have step : ∀ {i : Nat} {s' : Shared} {h1 : Heap} {tk1 : Nat}, Mv X s1 s' → (∀ b o, b ∉ wr → s'.heap.get? b = some o → h1.get? b = some o) → Mv X s1 { s' with heap := h1, toks := tk1 } :=
    fun mv hk1 => ⟨fun b o h1' h2' h3' e => hk1 b o (low b o e) (mv.keep b o h1' h2' h3' e)⟩
  refine codeAny_forLoop (fun k s' => ∃ i ρ', Inv i ρ' ∧ St X s₀ env ρ' s' ∧ SI i s'.heap ∧ i ≤ ds.length ∧ k = ds.length + 1 - i ∧ Mv X s1 s') ?_ (ds.length + 1)
    ⟨0, ρ, h0, S2, W.st, Nat.zero_le _, rfl, W.grow.mv⟩
  rintro k s' ⟨i, ρ', hinv, S', si, hi, rfl, mv⟩
  by_cases hlt : i < ds.length
  · refine W.w.item i s' _ _ hlt si fun v h1 tk1 hp si1 hk1 => ?_
    obtain ⟨d', hd', rv⟩ := hp
    have S3 : St X s₀ env ρ' { s' with heap := h1, toks := tk1 } := S'.iter F hw (W.io i _ si) hk1
    have mv3 := step (i := i) (tk1 := tk1) mv hk1
    refine wpAny_assign_Name (hst _ _ _ _ _ _ S3 (rv _) fun s4 S4 mv4 => ?_)
    refine wpAny_mono (hb i d' ρ' hd' hinv s4 _ S4) (fun f s5 q5 => ?_) fun _ _ x => x
    have fin : ∀ ρ'', St X s₀ env ρ'' s5 → Mv X s4 s5 → Inv (i + 1) ρ'' → ∃ m, m < ds.length + 1 - i ∧ ∃ i' ρ', Inv i' ρ' ∧ St X s₀ env ρ' s5 ∧ SI i' s5.heap ∧ i' ≤ ds.length ∧ m = ds.length + 1 - i' ∧ Mv X s1 s5 := fun ρ'' S5 mv5 hinv' => by
      refine ⟨ds.length + 1 - (i + 1), by omega, i + 1, ρ'', hinv', S5, ?_, hlt, rfl, mv3.trans (mv4.trans mv5)⟩
      refine W.w.frame (i + 1) h1 s5.heap si1 fun b hb o e => ?_
      rcases W.old b hb with q | ⟨o', ho', hv⟩
      · obtain ⟨o', ho', hio⟩ := W.io _ _ si1 b q
        rw [e] at ho'; cases ho'
        exact (mv4.trans mv5).keep b o (wP b q) (hmu b) (by obtain ⟨⟨fs, z⟩, _⟩ := hio; unfold Still; rw [z]; trivial) e
      · have hP : b ≠ X.P := by
          rintro rfl
          obtain ⟨ps, e'⟩ := S1.gs.tab.P
          rw [e'] at ho'; cases ho'; cases hv
        have hst : Still o' := still_val hv
        have e' : h1.get? b = some o' := mv3.keep b o' hP (hmu b) hst ho'
        rw [e] at e'; cases e'
        exact (mv4.trans mv5).keep b o hP (hmu b) hst e
    cases f with
    | next => obtain ⟨ρ'', k', S5, mv5⟩ := q5; exact fin ρ'' S5 mv5 k'
    | cont => obtain ⟨ρ'', k', S5, mv5⟩ := q5; exact fin ρ'' S5 mv5 k'
    | brk => obtain ⟨ρ'', k', S5, mv5⟩ := q5; exact ⟨ρ'', k', S5, g1.mv.trans (mv3.trans (mv4.trans mv5))⟩
    | ret v => exact q5
  · have hin : i = ds.length := by omega
    subst hin
    refine W.w.done s' _ _ si fun h1 tk1 hk1 => ?_
    have S3 : St X s₀ env ρ' { s' with heap := h1, toks := tk1 } := S'.iter F hw (W.io _ _ si) hk1
    exact wpAny_mono (he ρ' hinv _ _ S3) (fun f s5 q5 => q5.mono (g1.mv.trans (step (i := 0) mv hk1)) fun _ k => k) fun _ _ x => x
theorem Es.for {x : Str} {px pos : Pos} {iter : Expr} {body orelse : List Stmt} {d : D} {ds : List D} {K : Out → Prop} (F : Fm X s₀ env) (hit : Ev X A s₀ env ρ iter d) (hI : Itb X A d ds) (hx : env.kindOf x = some .local)
    (Inv : Nat → (Str → Option D) → Prop) (h0 : Inv 0 ρ)
    (hb : ∀ i d ρ', ds[i]? = some d → Inv i ρ' → Ex X A s₀ env (upd ρ' x d) body (fun o => match o with | .next ρ'' => Inv (i + 1) ρ'' | .cont ρ'' => Inv (i + 1) ρ'' | .brk ρ'' => K (.next ρ'') | .ret d => K (.ret d)))
    (he : ∀ ρ', Inv ds.length ρ' → Ex X A s₀ env ρ' orelse K)
    (hs : ∀ v, foldedSetIterable iter env v = pure v) (hmu : ∀ b, ¬ X.mu b) : Es X A s₀ env ρ (.For (.Name x px) iter body orelse pos) K :=
  Es.forG F hit hI (fun _ _ _ _ _ _ S r h => store_local F S hx r h) Inv h0 hb he hs hmu
theorem Es.forC {x : Str} {px pos : Pos} {iter : Expr} {body orelse : List Stmt} {d : D} {ds : List D} {K : Out → Prop} (F : Fm X s₀ env) (O : Oc s₀ env) (hit : Ev X A s₀ env ρ iter d) (hI : Itb X A d ds) (hx : env.kindOf x = some .cell)
    (Inv : Nat → (Str → Option D) → Prop) (h0 : Inv 0 ρ)
    (hb : ∀ i d ρ', ds[i]? = some d → Inv i ρ' → Ex X A s₀ env (upd ρ' x d) body (fun o => match o with | .next ρ'' => Inv (i + 1) ρ'' | .cont ρ'' => Inv (i + 1) ρ'' | .brk ρ'' => K (.next ρ'') | .ret d => K (.ret d)))
    (he : ∀ ρ', Inv ds.length ρ' → Ex X A s₀ env ρ' orelse K)
    (hs : ∀ v, foldedSetIterable iter env v = pure v) (hmu : ∀ b, ¬ X.mu b) : Es X A s₀ env ρ (.For (.Name x px) iter body orelse pos) K :=
  Es.forG F hit hI (fun _ _ _ _ _ _ S r h => store_cell F O S hx r h) Inv h0 hb he hs hmu
end
end Mine
end L5

section L6
open PySem PySem.W PyProof.Rows
namespace Mine

theorem closureFor_spec {scope : Scope} {env : Env} {cl : List (Str × Addr)} (h : closureFor scope env = pure cl) : ∀ y, scope.names.lookup y = some .free → ∃ c, env.cells.lookup y = some c ∧ cl.lookup y = some c := by
  have key : ∀ (names : List (Str × NameKind)) (acc cl : List (Str × Addr)),
      (forIn names acc fun (x : Str × NameKind) cs => if (x.2 == NameKind.free) = true then do let a ← cellOf env x.1; pure (ForInStep.yield ((x.1, a) :: cs)) else pure (ForInStep.yield cs) : Sem _) = pure cl →
      (∀ n k, (n, k) ∈ names → k = .free → (env.cells.lookup n).isSome = true) ∧ (∀ y, (∀ k, (y, k) ∈ names → k ≠ .free) → cl.lookup y = acc.lookup y) ∧ (∀ y, (y, NameKind.free) ∈ names → cl.lookup y = env.cells.lookup y) := by
    intro names
    induction names with
    | nil =>
      intro acc cl e
      rw [List.forIn_nil] at e
      have e' : acc = cl := by injection e
      subst e'
      exact ⟨fun _ _ h => (nomatch h), fun _ _ => rfl, fun _ h => (nomatch h)⟩
    | cons p r ih =>
      obtain ⟨n, k⟩ := p
      intro acc cl e
      rw [List.forIn_cons] at e
      by_cases hk : k = .free
      · subst hk
        cases hc : env.cells.lookup n with
        | none =>
          exfalso
          have : cellOf env n = unsupported "internal:no-cell-for-name" := by unfold cellOf; rw [hc]
          simp only [beq_self_eq_true, if_true, this] at e
          cases e
        | some c =>
          have hcell : cellOf env n = pure c := by unfold cellOf; rw [hc]
          simp only [beq_self_eq_true, if_true, hcell] at e
          obtain ⟨h1, h2, h3⟩ := ih ((n, c) :: acc) cl e
          refine ⟨?_, ?_, ?_⟩
          · intro n' k' hm hk'
            rcases List.mem_cons.mp hm with q | q
            · cases q; rw [hc]; rfl
            · exact h1 n' k' q hk'
          · intro y hy
            have hne : y ≠ n := fun e => hy .free (e ▸ .head _) rfl
            have hb : (y == n) = false := by simpa using hne
            rw [h2 y fun k hm => hy k (.tail _ hm), List.lookup_cons, hb]
          · intro y hy
            by_cases hr : (y, NameKind.free) ∈ r
            · exact h3 y hr
            · have hyn : y = n := by
                rcases List.mem_cons.mp hy with q | q
                · cases q; rfl
                · exact absurd q hr
              subst hyn
              rw [h2 y fun k hm => by rintro rfl; exact hr hm, List.lookup_cons]
              simp [hc]
      · have hb : (k == NameKind.free) = false := by simpa using hk
        simp only [hb, Bool.false_eq_true, if_false] at e
        obtain ⟨h1, h2, h3⟩ := ih acc cl e
        refine ⟨?_, ?_, ?_⟩
        · intro n' k' hm hk'
          rcases List.mem_cons.mp hm with q | q
          · cases q; exact absurd hk' hk
          · exact h1 n' k' q hk'
        · intro y hy
          exact h2 y fun k hm => hy k (.tail _ hm)
        · intro y hy
          rcases List.mem_cons.mp hy with q | q
          · cases q; exact absurd rfl hk
          · exact h3 y q
  intro y hy
  have hy' : (y, NameKind.free) ∈ scope.names := mem_of_lookup hy
  have e := h
  unfold closureFor at e
  have inv : ∀ {t : Sem (List (Str × Addr))}, Sem.bind t (fun cs => pure cs) = pure cl → t = pure cl := by
    intro t ht
    cases t <;> first | exact ht | cases ht
  have e2 := inv e
  obtain ⟨h1, h2, h3⟩ := key _ _ _ e2
  obtain ⟨c, hc⟩ := Option.isSome_iff_exists.mp (h1 _ _ hy' rfl)
  exact ⟨c, hc, by rw [h3 y hy', hc]⟩

theorem lookup_map_snd {f : Str → NameKind → NameKind} : ∀ {names : List (Str × NameKind)} {y : Str}, (names.map fun p => (p.1, f p.1 p.2)).lookup y = (names.lookup y).map (f y)
  | [], y => rfl
  | (n, k) :: r, y => by
    rw [List.map_cons, List.lookup_cons, List.lookup_cons]
    by_cases h : y = n
    · subst h; simp
    · have : (y == n) = false := by simpa using h
      simp only [this]
      exact lookup_map_snd
theorem kindOf_comp {scope : Scope} {cl : List (Str × Addr)} {C : Addr} {env : Env} {y : Str} :
    (compEnvC scope cl C env).kindOf y = (scope.names.lookup y).map fun k => if (k == .free && env.scope.kind == .function && env.kindOf y == some .cell) then .cell else k := by
  show (scope.names.map fun (n, k) => if (k == NameKind.free && env.scope.kind == .function && env.kindOf n == some .cell) then (n, NameKind.cell) else (n, k)).lookup y = _
  have e : (scope.names.map fun (n, k) => if (k == NameKind.free && env.scope.kind == .function && env.kindOf n == some .cell) then (n, NameKind.cell) else (n, k))
      = scope.names.map fun p => (p.1, if (p.2 == NameKind.free && env.scope.kind == .function && env.kindOf p.1 == some .cell) then NameKind.cell else p.2) := by
    apply List.map_congr_left; rintro ⟨n, k⟩ _; dsimp only; split <;> rfl
  rw [e]
  exact lookup_map_snd (f := fun n k => if (k == NameKind.free && env.scope.kind == .function && env.kindOf n == some .cell) then NameKind.cell else k)

noncomputable def isCF : Option NameKind → Bool
  | some .cell => true
  | some .free => true
  | _ => false
/-- what a comprehension's block sees of its surroundings -/
noncomputable def seen (env : Env) (ρ : Str → Option D) : Str → Option D := fun y => if isCF (env.kindOf y) then ρ y else none

theorem Reps.flat {h h' : Heap} {vs : List Value} {ds : List D} (r : Reps h vs ds) (hf : ∀ d ∈ ds, d.flat = true) : Reps h' vs ds :=
  Reps.ind (P := fun vs ds => (∀ d ∈ ds, d.flat = true) → Reps h' vs ds) (fun _ => .nil) (fun _ _ _ _ q _ ih hf => .cons (q.flat (hf _ (.head _))) (ih fun d hd => hf d (.tail _ hd))) r hf
/-- the tests of a clause -/
def Tests (X : Cx) (A : Around) (s₀ : Shared) (env : Env) (ρ : Str → Option D) (ifs : List Expr) (b : Bool) : Prop :=
  ∀ s E, St X s₀ env ρ s → wpAny X.M A (forIn ifs true fun c r => if r = true then do let ok ← isTrue c env (eval c env); pure (ForInStep.yield ok) else pure (ForInStep.yield r)) (GivesB X s b) E s
theorem Tests.nil {X : Cx} {A : Around} {s₀ : Shared} {env : Env} {ρ : Str → Option D} : Tests X A s₀ env ρ [] true := fun s E S => wpAny_tests_nil ⟨rfl, .refl ..⟩
theorem Tests.one {X : Cx} {A : Around} {s₀ : Shared} {env : Env} {ρ : Str → Option D} {c : Expr} {b : Bool} (h : Ts X A s₀ env ρ c b) : Tests X A s₀ env ρ [c] b := fun s E S => wpAny_tests_one (h s E S)

/-- one item of a comprehension -/
def Item (X : Cx) (A : Around) (s₀ : Shared) (env : Env) (ρ : Str → Option D) (ifs : List Expr) (elt : Expr) (e : Option D) : Prop :=
  match e with
  | some e => e.flat = true ∧ Tests X A s₀ env ρ ifs true ∧ Ev X A s₀ env ρ elt e
  | none => Tests X A s₀ env ρ ifs false

section
variable {X : Cx} {A : Around} {s₀ : Shared} {env : Env} {ρ : Str → Option D}

theorem filterMap_snoc {α β : Type} (f : α → Option β) (l : List α) (i : Nat) (a : α) (h : l[i]? = some a) : (l.take (i + 1)).filterMap f = (l.take i).filterMap f ++ (f a).toList := by
  rw [List.take_add_one, h, List.filterMap_append]
  congr 1

theorem Grow.updN {s1 s : Shared} {h' : Heap} {tk : Nat} {a : Addr} (g : Grow X s1 s) (ha : s1.heap.get? a = none) (hs : Heap.SameBut a s.heap h') : Grow X s1 { s with heap := h', toks := tk } := by
  have ne : ∀ b o, s1.heap.get? b = some o → b ≠ a := fun b o e h => by rw [h, ha] at e; cases e
  refine ⟨fun b o hb e => (hs.2 b (ne b o e)).trans (g.keep b o hb e), fun ps e => ?_, fun t => ?_, g.os, g.bare, g.gens, fun q => ?_⟩
  · obtain ⟨mo, e'⟩ := g.tab ps e
    exact ⟨mo, (hs.2 _ (ne _ _ e)).trans e'⟩
  · have t' := t
    obtain ⟨ps, x1, ⟨o, vs, q, _⟩, b⟩ := t
    exact (g.tok t').on (fun o' e => (hs.2 _ (ne _ _ q)).trans e) fun o' e => (hs.2 _ (ne _ _ b)).trans e
  · obtain ⟨h1, k1, e, hq⟩ := g.quiet q
    subst e
    exact ⟨h', tk, rfl, fun b o e => (hs.2 b (ne b o e)).trans (hq b o e)⟩
/-- a dict that is not the frame's turns -/
theorem St.aside {s : Shared} {h' : Heap} {tk : Nat} {a : Addr} {m : Str → Option Value} (F : Fm X s₀ env) (S : St X s₀ env ρ s) (hn : s.heap.Ns a m) (hL : a ≠ env.locals) (ha : s₀.heap.get? a = none) (hs : Heap.SameBut a s.heap h') : St X s₀ env ρ { s with heap := h', toks := tk } := by
  have g' : Grow X s₀ { s with heap := h', toks := tk } := S.grow.updN ha hs
  have kv := keepV_but hs (ns_not_val hn)
  have kc : ∀ c v, s.heap.IsCell c v → h'.IsCell c v := fun c v hc => hc.sameBut hs fun e => by
    subst e
    obtain ⟨o, ho, hd⟩ := hc
    obtain ⟨o', es, ep, ho', hd', _⟩ := hn
    rw [ho] at ho'; cases ho'; rw [hd] at hd'; cases hd'
  refine ⟨F.g0.grow g', g', ?_, fun x d hk hr => ?_, fun x hk => ?_⟩
  · obtain ⟨mL, hnL, hm⟩ := S.loc
    exact ⟨mL, hnL.sameBut hs (Ne.symm hL), fun x d hk hr => let ⟨v, hv, r⟩ := hm x d hk hr; ⟨v, hv, r.keepV kv⟩⟩
  · obtain ⟨c, v, hc, hv, r⟩ := S.cel x d hk hr; exact ⟨c, v, hc, kc _ _ hv, r.keepV kv⟩
  · obtain ⟨c, v, hc, hv⟩ := S.own x hk; exact ⟨c, v, hc, kc _ _ hv⟩

/-- the loop of a list comprehension, from its start -/
theorem comp_block {elt iter : Expr} {x : Str} {px pos : Pos} {ifs : List Expr} {scope : Scope} {cl : List (Str × Addr)} {s1 s2 : Shared} {I : Addr} {fp wr : List Addr} {SI : Nat → Heap → Prop} {ds : List D} {RR : Value → Addr → Result → Shared → Prop} {E : Value → Shared → Prop}
    (F : Fm X s₀ env) (S : St X s₀ env ρ s1) (W : ItOk X A s1 ds I fp wr SI s2) (hsz : ds.length ≤ sizeLine) (f : D → Option D)
    (hclos : closureFor scope env = pure cl) (hcell : ∀ y ∈ scope.names, y.2 ≠ .cell) (hkind : scope.kind = .function) (hx : scope.names.lookup x = some .local)
    (hfree : (scope.names.all fun p => p.2 != .free || env.kindOf p.1 == some .cell) = true)
    (helt : ∀ d ∈ ds, ∀ s C cenv, cenv = compEnvC scope cl C env → Gs X s → Fm X s cenv → Item X A s cenv (upd (seen cenv ρ) x d) ifs elt (f d))
    (hR : ∀ (D' C : Addr) (s5 : Shared) (m' : Str → Option Value) (n : Nat) (ys : List Value), D' ≠ C → s1.heap.get? D' = none → s1.heap.get? C = none → s5.heap.Ns C m' → s5.heap.get? D' = some (lobj ys n) → Reps s5.heap ys (ds.filterMap f) → Grow X s1 s5 → RR (.ref D') C (.ok .next) s5) :
    wpAny X.M A (newList []) (fun acc s₃ => wpAny X.M A (newFunctionEnv scope env.globals cl [] env.qual none .none (some env)) (fun cenv s₄ =>
      codeAny X.M A (.compStart (.ListComp elt [⟨.Name x px, iter, ifs, 0⟩] scope pos) 0 (.ref I) acc { cenv with scope := relabel scope env }) (RR acc cenv.locals) s₄) E s₃) E s2 := by
  have G1 : Gs X s1 := S.gs
  refine wpAny_newObj_type (wpAny_newFunctionEnv hcell (by intro y hy; simp at hy) (fun h₁ hns₁ hsb₁ => ?_) hkind)
  dsimp only at hns₁ hsb₁ ⊢
  generalize hH2 : s2.heap.push { cls := .type "list", dict := none, data := .seq ([] : List Value).toArray } = H2 at hns₁ hsb₁ ⊢
  have hC : H2.objs.size = s2.heap.objs.size + 1 := by rw [← hH2, Heap.size_push]
  generalize hDd : s2.heap.objs.size = D' at *
  generalize hCc : H2.objs.size = C at *
  have hDC : D' ≠ C := by rw [hC]; exact Nat.ne_of_lt (Nat.lt_succ_self _)
  have hDle : s2.heap.objs.size ≤ D' := Nat.le_of_eq hDd
  have hCle : s2.heap.objs.size ≤ C := by rw [hC, hDd]; exact Nat.le_succ _
  have old : ∀ b o, s2.heap.get? b = some o → h₁.get? b = some o := fun b o e =>
    hsb₁.extBut b o (Nat.ne_of_lt (Nat.lt_of_lt_of_le (Heap.lt_size e) hCle)) (Heap.get?_push_of_some _ (hH2 ▸ Heap.get?_push_of_some _ e))
  have hacc : h₁.PlainList D' #[] := ⟨_, hsb₁.extBut _ _ hDC (Heap.get?_push_of_some _ (by rw [← hH2, ← hDd]; exact Heap.get?_push_size _ rfl))⟩
  have hst₁ : SI 0 h₁ := W.w.frame _ _ _ W.st fun b _ o e => old b o e
  generalize hce : compEnvC scope cl C env = cenv
  have hcl : cenv.locals = C := by rw [← hce]; rfl
  have F1 : Fm X s1 cenv := by rw [← hce]; exact ⟨hkind, F.glob, F.bi, Nat.le_trans W.size hCle, G1⟩
  have hxk : cenv.kindOf x = some .local := by rw [← hce]; exact lookup_relabel_local hx
  -- what the closure bears
  have cfs : ∀ y, (cenv.kindOf y = some .cell ∨ cenv.kindOf y = some .free) → env.kindOf y = some .cell ∧ ∃ c, env.cells.lookup y = some c ∧ cenv.cells.lookup y = some c := fun y hy => by
    rw [← hce, kindOf_comp] at hy
    have hfr : scope.names.lookup y = some .free := by
      cases hl : scope.names.lookup y with
      | none => rw [hl] at hy; rcases hy with h | h <;> cases h
      | some k =>
        have hk := hcell _ (mem_of_lookup hl)
        rw [hl] at hy
        simp only [Option.map_some, Option.some.injEq] at hy
        clear hns₁ hsb₁ old hacc hst₁ hclos helt hR F1 F S G1 W hce hH2 hDd
        cases k <;> first | rfl | exact absurd rfl hk | (simp at hy)
    obtain ⟨c, h1, h2⟩ := closureFor_spec hclos y hfr
    have q := List.all_eq_true.mp hfree _ (mem_of_lookup hfr)
    refine ⟨by simpa using q, c, h1, by rw [← hce]; exact h2⟩
  have mk : ∀ {s' : Shared} {m : Str → Option Value} {v : Value} {d : D}, Grow X s1 s' → s'.heap.Ns C m → m x = some v → (∀ h, Rep h v d) → St X s1 cenv (upd (seen cenv ρ) x d) s' := fun {s' m v d} g hn hm hv => by
    refine ⟨G1.grow g, g, ⟨m, by rw [hcl]; exact hn, fun y e hk hr => ?_⟩, fun y e hk hr => ?_, fun y hk => ?_⟩
    · by_cases hy : y = x
      · subst hy; rw [upd_here] at hr; cases hr; exact ⟨v, hm, hv _⟩
      · rw [upd_there hy rfl] at hr
        unfold seen at hr; rw [hk] at hr; cases hr
    · have hy : y ≠ x := by rintro rfl; rw [hxk] at hk; rcases hk with h | h <;> cases h
      rw [upd_there hy rfl] at hr
      have hr' : ρ y = some e := by
        unfold seen at hr
        split at hr
        · exact hr
        · cases hr
      obtain ⟨hke, c, h1, h2⟩ := cfs y hk
      obtain ⟨c', v', hc', hv', r'⟩ := S.cel y e (.inl hke) hr'
      rw [h1] at hc'; cases hc'
      exact ⟨c, v', h2, cellGrow G1 g hv', r'.grow G1 g⟩
    · obtain ⟨hke, c, h1, h2⟩ := cfs y (.inl hk)
      obtain ⟨c', v', hc', hv'⟩ := S.own y hke
      rw [h1] at hc'; cases hc'
      exact ⟨c, v', h2, cellGrow G1 g hv'⟩
  have wlt : ∀ b ∈ wr, b < s2.heap.objs.size := fun b hb => W.lt b (W.w.sub b hb)
  have hDf : D' ∉ fp := fun hm => absurd (W.lt _ hm) (Nat.not_lt.mpr hDle)
  have hCf : C ∉ fp := fun hm => absurd (W.lt _ hm) (Nat.not_lt.mpr hCle)
  have hDw : D' ∉ wr := fun hm => hDf (W.w.sub _ hm)
  have hCw : C ∉ wr := fun hm => hCf (W.w.sub _ hm)
  have w1 : ∀ b ∈ wr, s1.heap.objs.size ≤ b := W.new
  have hD1 : s1.heap.objs.size ≤ D' := Nat.le_trans W.size hDle
  have hC1 : s1.heap.objs.size ≤ C := Nat.le_trans W.size hCle
  have none1 : ∀ a, s1.heap.objs.size ≤ a → s1.heap.get? a = none := fun a ha => by
    cases e : s1.heap.get? a with
    | none => rfl
    | some o' => exact absurd (Heap.lt_size e) (Nat.not_lt.mpr ha)
  have wP : ∀ b ∈ fp, b ≠ X.P := fun b hb e => by
    rcases W.old b hb with q | ⟨o, ho, hv⟩
    · exact absurd G1.tab.lt.2 (Nat.not_lt.mpr (e ▸ W.new b q))
    · subst e
      obtain ⟨ps, e'⟩ := G1.tab.P
      rw [e'] at ho; cases ho; cases hv
  have cP : C ≠ X.P := fun e => absurd G1.tab.lt.2 (Nat.not_lt.mpr (e ▸ hC1))
  have dP : D' ≠ X.P := fun e => absurd G1.tab.lt.2 (Nat.not_lt.mpr (e ▸ hD1))
  have hns0 : cenv.locals = C := hcl
  have flatL : ∀ i, ∀ e ∈ (ds.take i).filterMap f, e.flat = true := fun i e he => by
    obtain ⟨d, hd, hf⟩ := List.mem_filterMap.mp he
    have z := helt d (List.mem_of_mem_take hd) s1 C cenv hce.symm G1 F1
    rw [hf] at z
    exact z.1
  have loop : ∀ s₃ : Shared, s₃ = { s2 with heap := h₁, toks := s2.toks + ([] : List (Str × Value)).length } →
      codeAny X.M A (.compLoop (.ListComp elt [⟨.Name x px, iter, ifs, 0⟩] scope pos) 0 (.ref I) (.ref D') cenv) (RR (.ref D') C) s₃ := by
    rintro s₃ rfl
    refine codeAny_compLoop_tests (fun k s' => ∃ i n ys m, Grow X s1 s' ∧ s'.heap.Ns C m ∧ SI i s'.heap ∧ s'.heap.get? D' = some (lobj ys n) ∧ Reps s'.heap ys ((ds.take i).filterMap f) ∧ i ≤ ds.length ∧ k = ds.length + 1 - i) ?_ (ds.length + 1)
      ⟨0, hacc.choose, [], _, W.grow.trans (Grow.of old), hns₁, hst₁, hacc.choose_spec, .nil, Nat.zero_le _, rfl⟩
    rintro k s' ⟨i, n, ys, m, g, hn, si, hD, rs, hi, rfl⟩
    have hflat : ∀ h, Reps h ys ((ds.take i).filterMap f) := fun h => rs.flat (flatL i)
    by_cases hlt : i < ds.length
    · refine W.w.item i s' _ _ hlt si fun v h1 tk1 hp si1 hk1 => ?_
      obtain ⟨d, hd, rv⟩ := hp
      have g2 : Grow X s1 { s' with heap := h1, toks := tk1 } := g.but G1 w1 hk1
      have hn2 : h1.Ns C m := hn.at' fun o e => hk1 _ o hCw e
      have hD2 : h1.get? D' = some (lobj ys n) := hk1 _ _ hDw hD
      refine wpAny_assign_Name (wpAny_storeName_local hxk (m := m) (by rw [hcl]; exact hn2) (fun h2 hn3 hs3 => ?_) (by rw [F1.kind]; rfl))
      rw [hcl] at hn3 hs3
      have g3 : Grow X s1 { s' with heap := h2, toks := tk1 + 1 } := g2.upd (tk := tk1 + 1) hC1 hs3
      have S3 := mk (s' := { s' with heap := h2, toks := tk1 + 1 }) g3 hn3 (if_pos rfl) rv
      have si3 : SI (i + 1) h2 := W.w.frame _ _ _ si1 fun b hb o e => (hs3.2 b (fun e' => hCf (e' ▸ hb))).trans e
      have hD3 : h2.get? D' = some (lobj ys n) := (hs3.2 _ hDC).trans hD2
      have z := helt d (List.mem_of_getElem? hd) s1 C cenv hce.symm G1 F1
      have keepG : ∀ {sa sb : Shared}, Grow X sa sb → SI (i + 1) sa.heap → SI (i + 1) sb.heap := fun gg ss => W.w.frame _ _ _ ss fun b hb o e => gg.keep b o (wP b hb) e
      cases hf : f d with
      | none =>
        rw [hf] at z
        refine wpAny_mono (z _ _ S3) (fun ok s4 q4 => ?_) fun _ _ x => x
        obtain ⟨rfl, g4⟩ := q4
        simp only [Bool.false_eq_true, if_false]
        refine ⟨ds.length + 1 - (i + 1), by omega, i + 1, n, ys, _, g3.trans g4, hn3.at' fun o e => g4.keep _ o cP e, keepG g4 si3, g4.keep _ _ dP hD3, ?_, hlt, rfl⟩
        rw [filterMap_snoc f ds i d hd, hf]
        simpa using hflat _
      | some e =>
        rw [hf] at z
        obtain ⟨hfl, zt, ze⟩ := z
        refine wpAny_mono (zt _ _ S3) (fun ok s4 q4 => ?_) fun _ _ x => x
        obtain ⟨rfl, g4⟩ := q4
        simp only [if_true]
        have S4 := S3.grown F1 g4
        refine wpAny_mono (ze _ _ S4) (fun y s5 q5 => ?_) fun _ _ x => x
        obtain ⟨g5, r5⟩ := q5
        have hD5 : s5.heap.get? D' = some (lobj ys n) := g5.keep _ _ dP (g4.keep _ _ dP hD3)
        have hsz' : ys.toArray.size ≤ sizeLine := by
          have e1 := rs.length
          have e2 : ((ds.take i).filterMap f).length ≤ (ds.take i).length := List.length_filterMap_le _ _
          have e3 : (ds.take i).length ≤ ds.length := by rw [List.length_take]; exact Nat.min_le_right _ _
          rw [List.size_toArray]; omega
        refine wpAny_list_append_plain (hsz := hsz') (items := ys.toArray) ⟨n, hD5⟩ fun h6 hl6 hs6 => ?_
        · obtain ⟨n6, hn6⟩ := hl6
          have g6 : Grow X s1 { s5 with heap := h6 } := (g3.trans (g4.trans g5)).upd (tk := s5.toks) hD1 hs6
          have hn6' := ((hn3.at' fun o e => g4.keep _ o cP e).at' fun o e => g5.keep _ o cP e).sameBut hs6 (Ne.symm hDC)
          refine ⟨ds.length + 1 - (i + 1), by omega, i + 1, n6, ys ++ [y], _, g6, hn6', ?_, ?_, ?_, hlt, rfl⟩
          · exact W.w.frame _ _ _ (keepG g5 (keepG g4 si3)) fun b hb o e => (hs6.2 b (fun e' => hDf (e' ▸ hb))).trans e
          · rw [hn6]; simp
          · rw [filterMap_snoc f ds i d hd, hf]
            exact (hflat _).append (.cons (r5.flat hfl) .nil)
    · have hin : i = ds.length := by omega
      subst hin
      refine W.w.done s' _ _ si fun h1 tk1 hk1 => ?_
      have g2 : Grow X s1 { s' with heap := h1, toks := tk1 } := g.but G1 w1 hk1
      have hn2 : h1.Ns C m := hn.at' fun o e => hk1 _ o hCw e
      refine hR D' C { s' with heap := h1, toks := tk1 } m n ys hDC (none1 _ hD1) (none1 _ hC1) hn2 (hk1 _ _ hDw hD) ?_ g2
      have := hflat h1
      rwa [List.take_length] at this
  have e : ({ newEnv scope C env.globals cl env.qual none .none (some env) env.builtins with scope := relabel scope env } : Env) = cenv := by rw [← hce]; rfl
  have l0 := loop _ rfl
  rw [← e] at l0
  exact codeAny_compStart_list l0 (W.w.self 0 _ _ _ hst₁ l0)

theorem Ev.comp {elt iter : Expr} {x : Str} {px pos : Pos} {ifs : List Expr} {scope : Scope} {cl : List (Str × Addr)} {dI : D} {ds : List D} (f : D → Option D)
    (F : Fm X s₀ env) (hit : Ev X A s₀ env ρ iter dI) (hI : Itb X A dI ds) (hsz : ds.length ≤ sizeLine)
    (hclos : closureFor scope env = pure cl) (hcell : ∀ y ∈ scope.names, y.2 ≠ .cell) (hkind : scope.kind = .function) (hnames : ∀ y ∈ scope.names, y.2 = .local → scope.names.lookup y.1 = some .local) (hx : scope.names.lookup x = some .local)
    (hfree : (scope.names.all fun p => p.2 != .free || env.kindOf p.1 == some .cell) = true)
    (helt : ∀ d ∈ ds, ∀ s C cenv, cenv = compEnvC scope cl C env → Gs X s → Fm X s cenv → Item X A s cenv (upd (seen cenv ρ) x d) ifs elt (f d))
    (hs : ∀ v, foldedSetIterable iter env v = pure v) : Ev X A s₀ env ρ (.ListComp elt [⟨.Name x px, iter, ifs, 0⟩] scope pos) (.list (ds.filterMap f)) := fun s E S => by
  rw [eval_ListComp]
  refine wpAny_comprehension_free (use := none) rfl hs hclos hkind hnames (wpAny_mono (hit s E S) (fun v s1 q1 => ?_) fun _ _ e => e)
  have S1 := S.grown F q1.1
  refine hI s1 v E _ S1.gs q1.2 fun I fp wr SI s2 W => ?_
  refine comp_block (RR := fun acc C => compPost X.M A E none (Gives X s (.list (ds.filterMap f))) acc C) F S1 W hsz f hclos hcell hkind hx hfree helt ?_
  intro D' C s5 m' n ys hDC hD hC hn hl rs g
  refine ⟨m', hn, fun h6 hs6 => ?_⟩
  have kv := keepV_but hs6 (ns_not_val hn)
  have g6 : Grow X s1 { s5 with heap := h6 } := g.updN (tk := s5.toks) hC hs6
  exact ⟨q1.1.trans g6, .list (n := n) (kv _ _ trivial hl) (rs.keepV kv)⟩

theorem Es.asgComp {elt iter : Expr} {x y : Str} {px py pos spos : Pos} {ifs : List Expr} {scope : Scope} {cl : List (Str × Addr)} {dI : D} {ds : List D} (f : D → Option D)
    (hsw : swapsWith (.ListComp elt [⟨.Name x px, iter, ifs, 0⟩] scope pos) (some (.Name y py)) spos.line env = pure true)
    (F : Fm X s₀ env) (hit : Ev X A s₀ env ρ iter dI) (hI : Itb X A dI ds) (hsz : ds.length ≤ sizeLine)
    (hclos : closureFor scope env = pure cl) (hcell : ∀ y ∈ scope.names, y.2 ≠ .cell) (hkind : scope.kind = .function) (hnames : ∀ y ∈ scope.names, y.2 = .local → scope.names.lookup y.1 = some .local) (hx : scope.names.lookup x = some .local)
    (hfree : (scope.names.all fun p => p.2 != .free || env.kindOf p.1 == some .cell) = true) (hy : env.kindOf y = some .local)
    (helt : ∀ d ∈ ds, ∀ s C cenv, cenv = compEnvC scope cl C env → Gs X s → Fm X s cenv → Item X A s cenv (upd (seen cenv ρ) x d) ifs elt (f d))
    (hs : ∀ v, foldedSetIterable iter env v = pure v) : Es X A s₀ env ρ (.Assign [.Name y py] (.ListComp elt [⟨.Name x px, iter, ifs, 0⟩] scope pos) spos) (fun o => o = .next (upd ρ y (.list (ds.filterMap f)))) := fun s E S => by
  rw [exec_Assign_Name_used _ _ _ _ hsw]
  refine wpAny_bind (wpAny_standAt (wpAny_bind ?_))
  show wpAny _ A (do let _ ← comprehension (.ListComp elt [⟨.Name x px, iter, ifs, 0⟩] scope pos) scope env _ (newList []) false (eval iter env) (some (assign (.Name y py) env))) _ _ s
  refine wpAny_bind (wpAny_mono (wpAny_comprehension_free (use := some (assign (.Name y py) env)) (Q := fun _ s' => Ends X s₀ env s (fun o => o = .next (upd ρ y (.list (ds.filterMap f)))) .next s') rfl hs hclos hkind hnames
    (wpAny_mono (hit s E S) (fun v s1 q1 => ?_) fun _ _ e => e)) (fun _ s' hq => wpAny_pure (wpAny_pure hq)) fun _ _ e => e)
  have S1 := S.grown F q1.1
  refine hI s1 v E _ S1.gs q1.2 fun I fp wr SI s2 W => ?_
  refine comp_block (RR := fun acc C => compPost X.M A E (some (assign (.Name y py) env)) (fun _ s' => Ends X s₀ env s (fun o => o = .next (upd ρ y (.list (ds.filterMap f)))) .next s') acc C) F S1 W hsz f hclos hcell hkind hx hfree helt ?_
  intro D' C s5 m' n ys hDC hD hC hn hl rs g
  have S5 := S1.grown F g
  obtain ⟨mL, hnL, hmL⟩ := S5.loc
  obtain ⟨mL1, hnL1, _⟩ := S1.loc
  have hCL : C ≠ env.locals := fun e => by obtain ⟨o, _, _, ho, _⟩ := hnL1; rw [← e, hC] at ho; cases ho
  refine wpAny_assign_Name (wpAny_storeName_local hy hnL (fun h6 hn6 hs6 => ?_) (by rw [F.kind]; rfl))
  have S6 := S5.storeLocal (tk := s5.toks + 1) F hy hnL hmL (.list hl rs) hn6 hs6
  have hnC6 : h6.Ns C m' := hn.sameBut hs6 hCL
  refine ⟨m', hnC6, fun h7 hs7 => ⟨_, rfl, S6.aside (tk := s5.toks + 1) F hnC6 hCL ?_ hs7, ?_⟩⟩
  · cases e : s₀.heap.get? C with
    | none => rfl
    | some o =>
      have hP : C ≠ X.P := fun h => by
        have := S1.gs.tab.P
        obtain ⟨ps, e'⟩ := this
        rw [← h, hC] at e'; cases e'
      have := S1.grow.keep C o hP e
      rw [hC] at this; cases this
  · exact q1.1.mv.trans (g.mv.trans ((Mv.but (s' := { s5 with heap := h6 }) hs6 (ns_not_still hnL)).trans (Mv.but (s := { s5 with heap := h6 }) hs7 (ns_not_still hnC6))))
end
end Mine
end L6

section L7
open PySem PySem.W PyProof.Rows
namespace Mine

/-- a text by its signs -/
noncomputable abbrev S (l : List Nat) : Str := ⟨l.toArray⟩
theorem S_app (a b : List Nat) : S a ++ S b = S (a ++ b) := by
  show Str.mk (a.toArray ++ b.toArray) = _; simp
theorem S_len (a : List Nat) : (S a).length = a.length := by simp [Str.length]
theorem S_inj {a b : List Nat} : (S a == S b) = (a == b) := by
  by_cases h : a = b
  · subst h; simp
  · have : S a ≠ S b := fun e => h (by injection e with e; simpa using e)
    rw [beq_eq_false_iff_ne.mpr h, beq_eq_false_iff_ne.mpr this]

section
variable {X : Cx} {A : Around} {s₀ : Shared} {env : Env} {ρ : Str → Option D}

theorem Ev.sub {value slice : Expr} {pos : Pos} {d1 d2 d : D} {T id : String} (F : Fm X s₀ env) (hv : Ev X A s₀ env ρ value d1) (hi : Ev X A s₀ env ρ slice d2)
    (hT : ∀ (s : Shared) v, Rep s.heap v d1 → s.TypeIs v T) (hl : typeLookup (.type T) "__getitem__" = pure (some (.builtin id))) (ho : Op2 X A getItem d1 d2 d)
    (hs : ∀ o i, subscripted slice false o i = operate [o, i] (getItem o i)) : Ev X A s₀ env ρ (.Subscript value slice pos) d := fun s E S =>
  Subscript_ (wpAny_mono (hv s E S) (fun v1 s1 h1 => wpAny_mono (hi s1 E (S.grown F h1.1)) (fun v2 s2 h2 => by
    have S1 := S.grown F h1.1
    have S2 := S1.grown F h2.1
    have r1 := h1.2.grow S1.gs h2.1
    exact tail_any (hT s2 v1 r1) hl (wpAny_mono (ho s2 v1 v2 E S2.gs r1 h2.2) (fun v s3 h3 => ⟨h1.1.trans (h2.1.trans h3.1), h3.2⟩) fun _ _ x => x) (hs v1 v2)) fun _ _ x => x) fun _ _ x => x)

theorem tyList {ds : List D} (s : Shared) (v : Value) (r : Rep s.heap v (.list ds)) : s.TypeIs v "list" := by obtain ⟨_, _, _, rfl, e, _⟩ := r.listE; exact ⟨_, e, rfl⟩
theorem tyTup {ds : List D} (s : Shared) (v : Value) (r : Rep s.heap v (.tup ds)) : s.TypeIs v "tuple" := by obtain ⟨_, _, _, rfl, e, _⟩ := r.tupE; exact ⟨_, e, rfl⟩
theorem tyStr {x : Str} (s : Shared) (v : Value) (r : Rep s.heap v (.str x)) : s.TypeIs v "str" := by obtain ⟨_, rfl⟩ := r.strE; exact typeIs_str s x _

theorem op_itemL {ds : List D} {k : Int} {d : D} (h0 : 0 ≤ k) (hk : k < 2 ^ 63) (hd : ds[k.toNat]? = some d) : Op2 X A getItem (.list ds) (.int k) d := fun s _ _ E G r1 r2 => by
  obtain ⟨_, _, _, rfl, e, rs⟩ := r1.listE
  obtain ⟨_, rfl⟩ := r2.intE
  obtain ⟨v, hv, r⟩ := rs.get hd
  exact wpAny_getItem_list (items := _) ⟨_, e, rfl, _, rfl⟩ h0 hk (by simpa using hv) ⟨.refl .., r⟩
theorem op_itemLn {ds : List D} {k : Int} {d : D} (h0 : k < 0) (h1 : -(ds.length : Int) ≤ k) (hk : -(2 ^ 63) ≤ k) (hd : ds[(k + ds.length).toNat]? = some d) : Op2 X A getItem (.list ds) (.int k) d := fun s _ _ E G r1 r2 => by
  obtain ⟨_, _, _, rfl, e, rs⟩ := r1.listE
  obtain ⟨_, rfl⟩ := r2.intE
  obtain ⟨v, hv, r⟩ := rs.get hd
  exact wpAny_getItem_list_neg (items := _) ⟨_, e, rfl, _, rfl⟩ h0 (by rw [List.size_toArray, rs.length]; exact h1) hk (by rw [List.size_toArray, rs.length]; simpa using hv) ⟨.refl .., r⟩
theorem seqIndex_in {k : Int} {n : Nat} (h0 : 0 ≤ k) (h1 : k < n) : seqIndex? k n = some k.toNat := by
  unfold seqIndex?
  simp only [Int.not_lt.mpr h0, if_false]
  rw [if_pos (by simp [h0, h1])]
theorem op_itemT {ds : List D} {k : Int} {d : D} (h0 : 0 ≤ k) (hk : k < 2 ^ 63) (hd : ds[k.toNat]? = some d) : Op2 X A getItem (.tup ds) (.int k) d := fun s _ _ E G r1 r2 => by
  obtain ⟨_, _, _, rfl, e, rs⟩ := r1.tupE
  obtain ⟨_, rfl⟩ := r2.intE
  obtain ⟨v, hv, r⟩ := rs.get hd
  have hlt := (List.getElem?_eq_some_iff.mp hv).1
  exact PyProof.Rows.getItem_tuple (items := _) ⟨_, e, rfl, _, rfl⟩ (by omega) hk (seqIndex_in h0 (by simp; omega)) (by simpa using hv) ⟨.refl .., r⟩
theorem op_itemS {l : List Nat} {k : Int} {c : Nat} (h0 : 0 ≤ k) (hk : k < 2 ^ 63) (hd : l[k.toNat]? = some c) : Op2 X A getItem (.str (S l)) (.int k) (.str (S [c])) := fun s _ _ E G r1 r2 => by
  obtain ⟨_, rfl⟩ := r1.strE
  obtain ⟨_, rfl⟩ := r2.intE
  have hlt := (List.getElem?_eq_some_iff.mp hd).1
  refine PyProof.Rows.getItem_str (c := c) (by simp; omega) ?_ ⟨.toks, .str ..⟩
  rw [seqIndex_in h0 (by rw [S_len]; omega)]
  simpa using hd

theorem Ev.itemL {value idx : Expr} {pos : Pos} {ds : List D} {k : Int} {d : D} (F : Fm X s₀ env) (hv : Ev X A s₀ env ρ value (.list ds)) (hi : Ev X A s₀ env ρ idx (.int k)) (h0 : 0 ≤ k) (hk : k < 2 ^ 63) (hd : ds[k.toNat]? = some d)
    (hs : ∀ o i, subscripted idx false o i = operate [o, i] (getItem o i)) : Ev X A s₀ env ρ (.Subscript value idx pos) d := Ev.sub F hv hi tyList slot_list_getitem.lookup (op_itemL h0 hk hd) hs
theorem Ev.itemT {value idx : Expr} {pos : Pos} {ds : List D} {k : Int} {d : D} (F : Fm X s₀ env) (hv : Ev X A s₀ env ρ value (.tup ds)) (hi : Ev X A s₀ env ρ idx (.int k)) (h0 : 0 ≤ k) (hk : k < 2 ^ 63) (hd : ds[k.toNat]? = some d)
    (hs : ∀ o i, subscripted idx false o i = operate [o, i] (getItem o i)) : Ev X A s₀ env ρ (.Subscript value idx pos) d := Ev.sub F hv hi tyTup slot_tuple_getitem.lookup (op_itemT h0 hk hd) hs
theorem Ev.itemS {value idx : Expr} {pos : Pos} {l : List Nat} {k : Int} {c : Nat} (F : Fm X s₀ env) (hv : Ev X A s₀ env ρ value (.str (S l))) (hi : Ev X A s₀ env ρ idx (.int k)) (h0 : 0 ≤ k) (hk : k < 2 ^ 63) (hd : l[k.toNat]? = some c)
    (hs : ∀ o i, subscripted idx false o i = operate [o, i] (getItem o i)) : Ev X A s₀ env ρ (.Subscript value idx pos) (.str (S [c])) := Ev.sub F hv hi tyStr PySem.F.slot_str_getitem.lookup (op_itemS h0 hk hd) hs

/-- a slice's end -/
def Part (X : Cx) (A : Around) (s₀ : Shared) (env : Env) (ρ : Str → Option D) (e : Option Expr) (p : Option Int) : Prop :=
  ∀ s E, St X s₀ env ρ s → wpAny X.M A (evalPart e env) (fun v s' => Grow X s s' ∧ ∃ q : Option (Int × Tok), v = partValue q ∧ q.map (·.1) = p) E s
theorem Part.none : Part X A s₀ env ρ none none := fun s E S => by
  rw [evalPart_none]; exact wpAny_pure ⟨.refl .., Option.none, rfl, rfl⟩
theorem Part.some {e : Expr} {i : Int} (h : Ev X A s₀ env ρ e (.int i)) : Part X A s₀ env ρ (some e) (some i) := fun s E S =>
  wpAny_mono (h s E S) (fun v s1 q => by
    obtain ⟨g, r⟩ := q
    cases r with | int i t => exact ⟨g, Option.some (i, t), rfl, rfl⟩) fun _ _ x => x

theorem Ev.slice {value : Expr} {lower upper : Option Expr} {p pos : Pos} {d1 d : D} {lo hi : Option Int} {T id : String} (F : Fm X s₀ env) (hv : Ev X A s₀ env ρ value d1) (hlo : Part X A s₀ env ρ lower lo) (hhi : Part X A s₀ env ρ upper hi)
    (hT : ∀ (s : Shared) v, Rep s.heap v d1 → s.TypeIs v T) (hl : typeLookup (.type T) "__getitem__" = pure (some (.builtin id)))
    (ho : ∀ s v sl (l u : Option (Int × Tok)) E, Gs X s → Rep s.heap v d1 → s.heap.get? sl = some { cls := .type "slice", data := .fields #[partValue l, partValue u, .none] } → l.map (·.1) = lo → u.map (·.1) = hi → wpAny X.M A (getItem v (.ref sl)) (Gives X s d) E s) :
    Ev X A s₀ env ρ (.Subscript value (.Slice lower upper none p) pos) d := fun s E S =>
  Subscript_ (wpAny_mono (hv s E S) (fun v1 s1 h1 => wpAny_Slice (wpAny_mono (hlo s1 E (S.grown F h1.1)) (fun v2 s2 h2 => wpAny_mono (hhi s2 E ((S.grown F h1.1).grown F h2.1)) (fun v3 s3 h3 => by
    have S1 := S.grown F h1.1
    have S2 := S1.grown F h2.1
    have S3 := S2.grown F h3.1
    obtain ⟨g2, l, rfl, el⟩ := h2
    obtain ⟨g3, u, rfl, eu⟩ := h3
    rw [evalPart_none]
    refine wpAny_pure ?_
    have g4 : Grow X s3 { s3 with heap := s3.heap.push { cls := .type "slice", data := .fields #[partValue l, partValue u, .none] } } := .push
    have r1 := ((h1.2.grow S1.gs g2).grow S2.gs g3).grow S3.gs g4
    refine tail_any (ops := [.ref s3.heap.objs.size, v1]) (hT _ v1 r1) hl ?_ rfl
    exact wpAny_mono (ho _ v1 _ l u E (S3.gs.grow g4) r1 (Heap.get?_push_size _ rfl) el eu) (fun v s5 h5 => ⟨h1.1.trans (g2.trans (g3.trans (g4.trans h5.1))), h5.2⟩) fun _ _ x => x) fun _ _ x => x) fun _ _ x => x)) fun _ _ x => x)

theorem isPart_of (q : Option (Int × Tok)) : IsPart (partValue q) (q.map (·.1)) := by
  cases q with
  | none => exact .none
  | some q => exact .int q.1 q.2

theorem sliceL {ds ds' : List D} {lo hi : Option Int} (hlen : ds.length ≤ sizeLine) (hp : ∀ (vs : List Value) h, Reps h vs ds → Reps h (slicePick vs.toArray lo hi none).toList ds') :
    ∀ s v sl (l u : Option (Int × Tok)) E, Gs X s → Rep s.heap v (.list ds) → s.heap.get? sl = some { cls := .type "slice", data := .fields #[partValue l, partValue u, .none] } → l.map (·.1) = lo → u.map (·.1) = hi → wpAny X.M A (getItem v (.ref sl)) (Gives X s (.list ds')) E s := by
  intro s v sl l u E G r hsl el eu
  obtain ⟨a, vs, n, rfl, e, rs⟩ := r.listE
  refine wpAny_getItem_list_slice (items := vs.toArray) (lo := lo) (hi := hi) (st := none) ⟨_, e, rfl, n, rfl⟩ ⟨_, hsl, rfl, rfl⟩ (el ▸ isPart_of l) (eu ▸ isPart_of u) .none (by simp) ?_ (by rw [List.size_toArray, rs.length]; exact hlen)
  refine ⟨.push, ?_⟩
  have q := hp vs _ (rs.keepV (h' := s.heap.push { cls := .type "list", data := .seq (slicePick vs.toArray lo hi none) }) fun b o _ e => Heap.get?_push_of_some _ e)
  exact .list (n := 0) (vs := (slicePick vs.toArray lo hi none).toList) (by rw [Heap.get?_push_size _ rfl]) q

theorem Ev.sliceLto {value e : Expr} {p pos : Pos} {ds : List D} {j : Int} (F : Fm X s₀ env) (hv : Ev X A s₀ env ρ value (.list ds)) (hj : Ev X A s₀ env ρ e (.int j)) (h0 : 0 ≤ j) (hlen : ds.length ≤ sizeLine) :
    Ev X A s₀ env ρ (.Subscript value (.Slice none (some e) none p) pos) (.list (ds.take j.toNat)) :=
  Ev.slice F hv .none (.some hj) tyList slot_list_getitem.lookup (sliceL hlen fun vs h rs => by
    have ey : j = (j.toNat : Int) := by omega
    rw [ey, slicePick_upto']; simpa [← ey] using rs.take j.toNat)
theorem Ev.sliceLfrom {value e : Expr} {p pos : Pos} {ds : List D} {j : Int} (F : Fm X s₀ env) (hv : Ev X A s₀ env ρ value (.list ds)) (hj : Ev X A s₀ env ρ e (.int j)) (h0 : 0 ≤ j) (hlen : ds.length ≤ sizeLine) :
    Ev X A s₀ env ρ (.Subscript value (.Slice (some e) none none p) pos) (.list (ds.drop j.toNat)) :=
  Ev.slice F hv (.some hj) .none tyList slot_list_getitem.lookup (sliceL hlen fun vs h rs => by
    have ey : j = (j.toNat : Int) := by omega
    rw [ey, slicePick_from']; simpa [← ey] using rs.drop j.toNat)
theorem Ev.sliceLbut {value e : Expr} {p pos : Pos} {ds : List D} (F : Fm X s₀ env) (hv : Ev X A s₀ env ρ value (.list ds)) (hj : Ev X A s₀ env ρ e (.int (-1))) (hlen : ds.length ≤ sizeLine) :
    Ev X A s₀ env ρ (.Subscript value (.Slice none (some e) none p) pos) (.list (ds.take (ds.length - 1))) :=
  Ev.slice F hv .none (.some hj) tyList slot_list_getitem.lookup (sliceL hlen fun vs h rs => by
    have := slicePick_butLast vs.toArray 1 (Nat.le_refl 1)
    rw [show (-1 : Int) = -((1 : Nat) : Int) by rfl, this]
    simpa [rs.length] using rs.take (ds.length - 1))

theorem sliceS {l l' : List Nat} {lo hi : Option Int} (hlen : l.length ≤ sizeLine) (hp : Txt.slice (S l) lo hi = S l') :
    ∀ s v sl (a u : Option (Int × Tok)) E, Gs X s → Rep s.heap v (.str (S l)) → s.heap.get? sl = some { cls := .type "slice", data := .fields #[partValue a, partValue u, .none] } → a.map (·.1) = lo → u.map (·.1) = hi → wpAny X.M A (getItem v (.ref sl)) (Gives X s (.str (S l'))) E s := by
  intro s v sl a u E G r hsl ea eu
  obtain ⟨t, rfl⟩ := r.strE
  refine wpAny_getItem_str_slice (l := a) (u := u) (st := none) ⟨_, hsl, rfl, rfl⟩ rfl ?_
  subst ea eu
  have hl' : (S l').length ≤ sizeLine := by
    rw [← hp]
    unfold Txt.slice
    split
    · rw [S_len]; exact hlen
    · have h1 := sliceIndices_le (a.map (·.1)) (u.map (·.1)) (S l).length
      have h2 : ((Builtin.Str.strSliceIndices (a.map (·.1)) (u.map (·.1)) 1 (S l).length).filterMap ((S l).cps[·]?)).length ≤ _ := List.length_filterMap_le _ _
      show (S _).length ≤ sizeLine
      rw [S_len]
      exact Nat.le_trans h2 (Nat.le_trans h1 (by rw [S_len]; exact hlen))
  unfold sliceMade slicePicked
  unfold Txt.slice at hp
  show Made.post (if ((1 : Int) == 1 && (Builtin.Str.strSliceIndices (a.map (·.1)) (u.map (·.1)) 1 (S l).length).length == (S l).length) = true then _ else _) _ _
  split
  · rename_i hc
    rw [if_pos hc] at hp
    rw [← hp]
    exact ⟨.refl .., .str ..⟩
  · rename_i hc
    rw [if_neg hc] at hp
    show Made.post (Made.str ⟨((Builtin.Str.strSliceIndices (a.map (·.1)) (u.map (·.1)) 1 (S l).length).filterMap ((S l).cps[·]?)).toArray⟩) _ _
    rw [hp]
    exact ⟨hl', .toks, .str ..⟩

theorem Ev.sliceSto {value e : Expr} {p pos : Pos} {l : List Nat} {j : Int} (F : Fm X s₀ env) (hv : Ev X A s₀ env ρ value (.str (S l))) (hj : Ev X A s₀ env ρ e (.int j)) (h0 : 0 ≤ j) (h1 : j ≤ l.length) (hlen : l.length ≤ sizeLine) :
    Ev X A s₀ env ρ (.Subscript value (.Slice none (some e) none p) pos) (.str (S (l.take j.toNat))) :=
  Ev.slice F hv .none (.some hj) tyStr PySem.F.slot_str_getitem.lookup (sliceS hlen (by
    have := StrLaws.sliceText_to (x := S l) (j := j) ⟨h0, by simpa using h1⟩
    rw [show Txt.slice (S l) none (some j) = StrLaws.sliceText (S l) none (some j) from rfl, this]
    simp))
theorem Ev.sliceSfrom {value e : Expr} {p pos : Pos} {l : List Nat} {j : Int} (F : Fm X s₀ env) (hv : Ev X A s₀ env ρ value (.str (S l))) (hj : Ev X A s₀ env ρ e (.int j)) (h0 : 0 ≤ j) (h1 : j ≤ l.length) (hlen : l.length ≤ sizeLine) :
    Ev X A s₀ env ρ (.Subscript value (.Slice (some e) none none p) pos) (.str (S (l.drop j.toNat))) :=
  Ev.slice F hv (.some hj) .none tyStr PySem.F.slot_str_getitem.lookup (sliceS hlen (by
    have := StrLaws.sliceText_from (x := S l) (i := j) ⟨h0, by simpa using h1⟩
    rw [show Txt.slice (S l) (some j) none = StrLaws.sliceText (S l) (some j) none from rfl, this]
    have e : (l.drop j.toNat).take ((l.length : Int) - j).toNat = l.drop j.toNat := List.take_of_length_le (by rw [List.length_drop]; omega)
    simp [e]))
theorem Ev.sliceSmid {value e f : Expr} {p pos : Pos} {l : List Nat} {i j : Int} (F : Fm X s₀ env) (hv : Ev X A s₀ env ρ value (.str (S l))) (hi : Ev X A s₀ env ρ e (.int i)) (hj : Ev X A s₀ env ρ f (.int j)) (h0 : 0 ≤ i) (h01 : i ≤ j) (h1 : j ≤ l.length) (hlen : l.length ≤ sizeLine) :
    Ev X A s₀ env ρ (.Subscript value (.Slice (some e) (some f) none p) pos) (.str (S ((l.drop i.toNat).take (j - i).toNat))) :=
  Ev.slice F hv (.some hi) (.some hj) tyStr PySem.F.slot_str_getitem.lookup (sliceS hlen (by
    have := StrLaws.sliceText_plain (x := S l) (i := i) (j := j) ⟨h0, h01, by simpa using h1⟩
    rw [show Txt.slice (S l) (some i) (some j) = StrLaws.sliceText (S l) (some i) (some j) from rfl, this]))
end
end Mine
end L7

section L8
open PySem PySem.W PyProof.Rows
namespace Mine

theorem reps1 {h : Heap} {vs : List Value} {d : D} (r : Reps h vs [d]) : ∃ v, vs = [v] ∧ Rep h v d := by
  cases r with | cons r rs => cases rs with | nil => exact ⟨_, rfl, r⟩
theorem reps2 {h : Heap} {vs : List Value} {d e : D} (r : Reps h vs [d, e]) : ∃ v w, vs = [v, w] ∧ Rep h v d ∧ Rep h w e := by
  cases r with | cons r rs => cases rs with | cons q rs => cases rs with | nil => exact ⟨_, _, rfl, r, q⟩
theorem reps3 {h : Heap} {vs : List Value} {d e f : D} (r : Reps h vs [d, e, f]) : ∃ v w u, vs = [v, w, u] ∧ Rep h v d ∧ Rep h w e ∧ Rep h u f := by
  cases r with | cons r rs => obtain ⟨w, u, rfl, a, b⟩ := reps2 rs; exact ⟨_, _, _, rfl, r, a, b⟩

/-- the iterator's turns keep what stood before it -/
theorem ItOk.after {X : Cx} {A : Around} {s s' : Shared} {ds : List D} {I : Addr} {fp wr : List Addr} {SI : Nat → Heap → Prop} (W : ItOk X A s ds I fp wr SI s') (G : Gs X s) {h' : Heap} {tk : Nat}
    (hk : ∀ b o, b ∉ wr → s'.heap.get? b = some o → h'.get? b = some o) : Grow X s { s' with heap := h', toks := tk } := W.grow.but G W.new hk

theorem intsAre_of {h : Heap} : ∀ {vs : List Value} {ns : List Int}, Reps h vs (ns.map D.int) → IntsAre vs ns
  | _, [], .nil => .nil
  | _, n :: ns, .cons r rs => by cases r with | int _ t => exact .cons n t (intsAre_of rs)

section
variable {X : Cx} {A : Around}

theorem Fc.lenS {l : List Nat} (hl : l.length < 2 ^ 60) : Fc X A (.builtin "len") [.str (S l)] (.int l.length) := fun s vs E G rs => by
  obtain ⟨v, rfl, r⟩ := reps1 rs
  obtain ⟨_, rfl⟩ := r.strE
  refine PyProof.Rows.len_str (by rw [S_len]; omega) ⟨.toks, ?_⟩
  rw [S_len]; exact .int ..
theorem Fc.lenL {ds : List D} (hl : ds.length < 2 ^ 60) : Fc X A (.builtin "len") [.list ds] (.int ds.length) := fun s vs E G rs => by
  obtain ⟨v, rfl, r⟩ := reps1 rs
  obtain ⟨a, ws, n, rfl, e, rs'⟩ := r.listE
  refine PyProof.Rows.len_list (items := ws.toArray) ⟨_, e, rfl, n, rfl⟩ (by rw [List.size_toArray, rs'.length]; omega) ⟨.toks, ?_⟩
  rw [List.size_toArray, rs'.length]; exact .int ..
theorem Fc.lenT {ds : List D} (hl : ds.length < 2 ^ 60) : Fc X A (.builtin "len") [.tup ds] (.int ds.length) := fun s vs E G rs => by
  obtain ⟨v, rfl, r⟩ := reps1 rs
  obtain ⟨a, ws, n, rfl, e, rs'⟩ := r.tupE
  refine PyProof.Rows.len_tuple (items := ws.toArray) ⟨_, e, rfl, n, rfl⟩ (by rw [List.size_toArray, rs'.length]; omega) ⟨.toks, ?_⟩
  rw [List.size_toArray, rs'.length]; exact .int ..
theorem op_addL {ds es : List D} (hsz : ds.length + es.length ≤ sizeLine) : Op2 X A (binaryOp .Add) (.list ds) (.list es) (.list (ds ++ es)) := fun s _ _ E G r1 r2 => by
  obtain ⟨a, vs, n, rfl, e1, rs1⟩ := r1.listE
  obtain ⟨b, ws, m, rfl, e2, rs2⟩ := r2.listE
  have e : vs.toArray ++ ws.toArray = (vs ++ ws).toArray := by simp
  refine concat_meets ⟨_, e1, rfl⟩ ⟨_, e2, rfl⟩ noFill_list_add seq_list_add PySem.F.slot_list_add PySem.F.entry_list_add (PySem.F.args_list_add_2 _ _) (list_addW a b vs.toArray ws.toArray n m none none #[] #[] (by simp [rs1.length, rs2.length]; exact hsz)) ⟨e1, e2, ?_⟩
  rw [e]
  exact ⟨.push, .list (n := 0) (Heap.get?_push_size _ rfl) ((rs1.append rs2).keepV fun b o _ q => Heap.get?_push_of_some _ q)⟩
theorem Fc.sum {ns : List Int} (hh : A.handled = none) : Fc X A (.builtin "sum") [.list (ns.map D.int)] (.int ns.sum) := fun s vs E G rs => by
  obtain ⟨v, rfl, r⟩ := reps1 rs
  obtain ⟨a, ws, n, rfl, e, rs'⟩ := r.listE
  have hi := intsAre_of rs'
  obtain ⟨xs, hx⟩ := hi.allInts.items
  have hn : numsOf ws.toArray.toList = ns := by rw [show ws.toArray.toList = ws from rfl, hi.numsOf]
  have hl : s.heap.IsList a ws.toArray := ⟨_, e, rfl, n, rfl⟩
  rw [hx] at hl hn
  rw [nums_intItems] at hn
  refine sum_intListG hh hl fun h' tk t' hk => ?_
  rw [preSum_eq, List.take_of_length_le (by simp), hn]
  exact ⟨.of hk, .int ..⟩
theorem Fc.max2 {a b : Int} (hh : A.handled = none) : Fc X A (.builtin "max") [.int a, .int b] (.int (max a b)) := fun s vs E G rs => by
  obtain ⟨v, w, rfl, r1, r2⟩ := reps2 rs
  obtain ⟨_, rfl⟩ := r1.intE
  obtain ⟨_, rfl⟩ := r2.intE
  refine max_two_ints hh fun h' tk hk => ⟨.of hk, ?_⟩
  split
  · rw [Int.max_eq_right (by omega)]; exact .int ..
  · rw [Int.max_eq_left (by omega)]; exact .int ..
theorem Fc.min2 {a b : Int} (hh : A.handled = none) : Fc X A (.builtin "min") [.int a, .int b] (.int (min a b)) := fun s vs E G rs => by
  obtain ⟨v, w, rfl, r1, r2⟩ := reps2 rs
  obtain ⟨_, rfl⟩ := r1.intE
  obtain ⟨_, rfl⟩ := r2.intE
  refine min_two_ints hh fun h' tk hk => ⟨.of hk, ?_⟩
  split
  · rw [Int.min_eq_right (by omega)]; exact .int ..
  · rw [Int.min_eq_left (by omega)]; exact .int ..
theorem Fc.listL {ds : List D} (hsz : ds.length ≤ sizeLine) : Fc X A (.type "list") [.list ds] (.list ds) := fun s vs E G rs => by
  obtain ⟨v, rfl, r⟩ := reps1 rs
  obtain ⟨a, ws, n, rfl, e, rs'⟩ := r.listE
  exact call_list_seq (hsz := by rw [List.size_toArray, rs'.length]; exact hsz) a (.inl rfl) e rfl rfl fun h' c' hk hD => ⟨.of (tk := s.toks) hk, .list hD (rs'.keepV fun b o _ q => hk b o q)⟩
theorem Fc.tupleL {ds : List D} (hsz : ds.length ≤ sizeLine) : Fc X A (.type "tuple") [.list ds] (.tup ds) := fun s vs E G rs => by
  obtain ⟨v, rfl, r⟩ := reps1 rs
  obtain ⟨a, ws, n, rfl, e, rs'⟩ := r.listE
  refine call_tuple_list (items := ws.toArray) (hsz := by rw [List.size_toArray, rs'.length]; exact hsz) ⟨_, e, rfl, n, rfl⟩ fun h' hk => ?_
  have hk' : ∀ b o, s.heap.get? b = some o → (h'.push { cls := .type "tuple", data := .seq ws.toArray }).get? b = some o := fun b o q => Heap.get?_push_of_some _ (hk b o q)
  exact ⟨.of (tk := s.toks) hk', .tup (n := 0) (Heap.get?_push_size _ rfl) (rs'.keepV fun b o _ q => hk' b o q)⟩
theorem Fc.range1 {n : Int} : Fc X A (.type "range") [.int n] (.rng 0 n 1) := fun s vs E G rs => by
  obtain ⟨v, rfl, r⟩ := reps1 rs
  obtain ⟨_, rfl⟩ := r.intE
  exact call_range_1 ⟨.of fun _ _ e => Heap.get?_push_of_some _ e, .rng (Heap.get?_push_size _ rfl)⟩
theorem Fc.range2 {a b : Int} : Fc X A (.type "range") [.int a, .int b] (.rng a b 1) := fun s vs E G rs => by
  obtain ⟨v, w, rfl, r1, r2⟩ := reps2 rs
  obtain ⟨_, rfl⟩ := r1.intE
  obtain ⟨_, rfl⟩ := r2.intE
  exact call_range_2 ⟨.of fun _ _ e => Heap.get?_push_of_some _ e, .rng (Heap.get?_push_size _ rfl)⟩
theorem Fc.typeS {x : Str} : Fc X A (.type "type") [.str x] (.val (.type "str")) := fun s vs E G rs => by
  obtain ⟨v, rfl, r⟩ := reps1 rs
  exact call_type_of (tyStr s v r) (by decide) ⟨.refl .., .val _⟩
theorem Fc.typeT {ds : List D} : Fc X A (.type "type") [.tup ds] (.val (.type "tuple")) := fun s vs E G rs => by
  obtain ⟨v, rfl, r⟩ := reps1 rs
  exact call_type_of (tyTup s v r) (by decide) ⟨.refl .., .val _⟩


theorem Fc.minW {d r : D} {ds : List D} (hI : Itb X A.in1 d ds) (hn : 0 < ds.length) (bt : Nat → Nat → Bool) (hc : CmpOf X.prog X.w A.in1 .Lt (PI ds) bt) (hr : ds[argBest bt (ds.length - 1)]? = some r) : Fc X A (.builtin "min") [d] r := fun s vs E G rs => by
  obtain ⟨v, rfl, rv⟩ := reps1 rs
  refine call_min_walk (hI s v E _ G rv fun I fp wr SI s' W => ⟨I, fp, wr, _, _, _, bt, rfl, W.w, W.st, W.lt, hn, hc, fun v' h' tk hp hk => ?_⟩)
  obtain ⟨d', hd', r'⟩ := hp
  rw [hr] at hd'; cases hd'
  exact ⟨W.after G hk, r' _⟩
theorem Fc.maxW {d r : D} {ds : List D} (hI : Itb X A.in1 d ds) (hn : 0 < ds.length) (bt : Nat → Nat → Bool) (hc : CmpOf X.prog X.w A.in1 .Gt (PI ds) bt) (hr : ds[argBest bt (ds.length - 1)]? = some r) : Fc X A (.builtin "max") [d] r := fun s vs E G rs => by
  obtain ⟨v, rfl, rv⟩ := reps1 rs
  refine call_max_walk (hI s v E _ G rv fun I fp wr SI s' W => ⟨I, fp, wr, _, _, _, bt, rfl, W.w, W.st, W.lt, hn, hc, fun v' h' tk hp hk => ?_⟩)
  obtain ⟨d', hd', r'⟩ := hp
  rw [hr] at hd'; cases hd'
  exact ⟨W.after G hk, r' _⟩
theorem PI.ints2 {a b : Int} : ∀ i v, PI [.int a, .int b] i v → ∃ t, v = .int (if i = 0 then a else b) t := by
  rintro i v ⟨d, hd, r⟩
  match i, hd with
  | 0, hd => simp at hd; subst hd; cases r default with | int _ t => exact ⟨t, rfl⟩
  | 1, hd => simp at hd; subst hd; cases r default with | int _ t => exact ⟨t, rfl⟩
  | i + 2, hd => simp at hd
theorem Fc.minL2 {a b : Int} (hh : A.handled = none) : Fc X A (.builtin "min") [.list [.int a, .int b]] (.int (min a b)) := by
  refine Fc.minW (Itb.list (A := A.in1) hh (by intro d hd; simp at hd; rcases hd with rfl | rfl <;> rfl)) (by simp) _ (CmpOf.ints_lt (fun i => if i = 0 then a else b) PI.ints2) ?_
  show [D.int a, D.int b][argBest _ 1]? = _
  by_cases h : b < a
  · simp [argBest, h, Int.min_eq_right (Int.le_of_lt h)]
  · simp [argBest, h, Int.min_eq_left (Int.not_lt.mp h)]
theorem PI.strs2 {a b : List Nat} : ∀ i v, PI [.str (S a), .str (S b)] i v → ∃ t, v = .str (S (if i = 0 then a else b)) t := by
  rintro i v ⟨d, hd, r⟩
  match i, hd with
  | 0, hd => simp at hd; subst hd; cases r default with | str _ t => exact ⟨t, rfl⟩
  | 1, hd => simp at hd; subst hd; cases r default with | str _ t => exact ⟨t, rfl⟩
  | i + 2, hd => simp at hd
theorem Fc.minT2 {a b : List Nat} (hh : A.handled = none) : Fc X A (.builtin "min") [.tup [.str (S a), .str (S b)]] (.str (S (if b < a then b else a))) := by
  refine Fc.minW (Itb.tup (A := A.in1) hh (by intro d hd; simp at hd; rcases hd with rfl | rfl <;> rfl)) (by simp) (fun i j => decide ((if i = 0 then a else b) < (if j = 0 then a else b))) ?_ ?_
  · intro i j vi vj s Q E hi hj h
    obtain ⟨t, rfl⟩ := PI.strs2 i vi hi
    obtain ⟨u, rfl⟩ := PI.strs2 j vj hj
    exact PyProof.Rows.lt_str (by simpa using h)
  · show [D.str (S a), D.str (S b)][argBest _ 1]? = _
    by_cases h : b < a
    · simp [argBest, h]
    · simp [argBest, h]
theorem Fc.maxT2 {a b : List Nat} (hh : A.handled = none) : Fc X A (.builtin "max") [.tup [.str (S a), .str (S b)]] (.str (S (if a < b then b else a))) := by
  refine Fc.maxW (Itb.tup (A := A.in1) hh (by intro d hd; simp at hd; rcases hd with rfl | rfl <;> rfl)) (by simp) (fun i j => decide ((if j = 0 then a else b) < (if i = 0 then a else b))) ?_ ?_
  · intro i j vi vj s Q E hi hj h
    obtain ⟨t, rfl⟩ := PI.strs2 i vi hi
    obtain ⟨u, rfl⟩ := PI.strs2 j vj hj
    exact P.gt_str (by simpa using h)
  · show [D.str (S a), D.str (S b)][argBest _ 1]? = _
    by_cases h : a < b
    · simp [argBest, h]
    · simp [argBest, h]
end
end Mine
end L8

section L9
open PySem PySem.W PyProof.Rows
namespace Mine

noncomputable abbrev Sd (l : List Nat) : D := .str (S l)


section
variable {X : Cx} {A : Around} {s₀ : Shared} {env : Env} {ρ : Str → Option D}

/-- a method call upon a text -/
theorem Ev.methS {o e : Expr} {es : List Expr} {name : Str} {id : String} {apos pos : Pos} {x : Str} {ds : List D} {d : D} (F : Fm X s₀ env)
    (ho : Ev X A s₀ env ρ o (.str x)) (he : starEach (e :: es) env = (false, eval e env) :: starEach es env) (hplain : (backTo pos (starEach es env)).any (·.1) = false) (h2 : Evs X A s₀ env ρ pos (e :: es) ds)
    (hbase : ∀ t, attributeBase o name env t = t) (hline : (apos.endLine == pos.line) = true)
    (hfew : ((backTo pos (starEach (e :: es) env)).all (fun x => !x.1) && (backToKw pos (keywordEach [] env)).all (fun x => x.1.isSome)
      && decide ((e :: es).length + ([] : List Keyword).length + (if ([] : List Keyword).isEmpty then 0 else 1) < 30)) = true)
    (slot : Slot "str" name id) (ty : typeOf (.builtin id) = pure (.type "method_descriptor"))
    (h3 : Fc X A (.builtin id) (.str x :: ds) d) : Ev X A s₀ env ρ (.Call (.Attribute o name apos) (e :: es) [] pos) d := fun s E S => by
  refine wpAny_Call_method_lateS (hbase _) hfew hline (wpAny_mono (ho s E S) (fun v s1 q1 => ?_) fun _ _ x => x)
  obtain ⟨g1, r1⟩ := q1
  obtain ⟨t, rfl⟩ := r1.strE
  have S1 := S.grown F g1
  refine ⟨"str", id, PySem.F.plainAttrs_str, slot, ty, typeIs_str _ _ _, (fun _ e => nomatch e), ?_⟩
  have hany : (backTo pos (starEach (e :: es) env)).any (·.1) = false := by rw [he]; show (false || (backTo pos (starEach es env)).any (·.1)) = false; rw [hplain]; rfl
  have z := h2 s1 E S1
  rw [he] at z hany ⊢
  refine Calls.callWith_builtin hany (Calls.evalArgs_plain (wpAny_mono z (fun vs s2 q2 => ?_) fun _ _ x => x))
  exact wpAny_mono (h3 s2 (.str x t :: vs) E (S1.gs.grow q2.1) (.cons (.str ..) q2.2)) (fun v s3 q3 => ⟨g1.trans (q2.1.trans q3.1), q3.2⟩) fun _ _ x => x

theorem reps_strValues {h : Heap} : ∀ (l : List (Str × Tok)), Reps h (strValues l) ((l.map (·.1)).map D.str)
  | [] => .nil
  | p :: r => .cons (.str ..) (reps_strValues r)

theorem Fc.split {x y : Str} (hy : (y.length == 0) = false) (hsz : x.length + 2 ≤ sizeLine) : Fc X A (.builtin "str.split") [.str x, .str y] (.list ((Txt.split x y).map D.str)) := fun s vs E G rs => by
  obtain ⟨v, w, rfl, r1, r2⟩ := reps2 rs
  obtain ⟨t, rfl⟩ := r1.strE
  obtain ⟨u, rfl⟩ := r2.strE
  have fin : ∀ (l : List (Str × Tok)) tk, l.map (·.1) = Txt.split x y → Gives X s (.list ((Txt.split x y).map D.str)) (.ref s.heap.objs.size) { s with toks := tk, heap := s.heap.push { cls := .type "list", data := .seq (strValues l).toArray } } := fun l tk e =>
    ⟨.of fun _ _ e => Heap.get?_push_of_some _ e, .list (n := 0) (Heap.get?_push_size _ rfl) (e ▸ reps_strValues l)⟩
  have hn : (Builtin.Str.partsBetween x (Builtin.Str.occurrences x y 0 x.length (x.length + 1)) y.length).length ≤ sizeLine := by
    have e1 := StrLaws.occ_length_le x y 0 x.length (x.length + 1)
    rw [length_partsBetween]; omega
  cases h1 : (decide (x.length < y.length) || decide (Builtin.Str.strKind x < Builtin.Str.strKind y))
  · cases hf : (Builtin.Str.occurrences x y 0 x.length (x.length + 1)).isEmpty
    · refine call_meets PySem.F.slot_str_split (typeIs_str _ _ _) PySem.F.entry_str_split (PySem.F.args_str_split_2 _ _) (meets_str_split_sep x y t u h1 hy hf (by omega) hn) ?_
      rw [strsFrom_eq]
      exact fin _ _ ((numbered_texts _ _).trans ((if_neg (ne_true_of_eq_false h1)).trans (if_neg (ne_true_of_eq_false hf))).symm)
    · exact call_meets PySem.F.slot_str_split (typeIs_str _ _ _) PySem.F.entry_str_split (PySem.F.args_str_split_2 _ _) (meets_str_split_not_found x y t u h1 hy hf)
        (fin [(x, t)] s.toks ((if_neg (ne_true_of_eq_false h1)).trans (if_pos hf)).symm)
  · exact call_meets PySem.F.slot_str_split (typeIs_str _ _ _) PySem.F.entry_str_split (PySem.F.args_str_split_2 _ _) (meets_str_split_cannot_occur x y t u h1)
      (fin [(x, t)] s.toks (if_pos h1).symm)

theorem Fc.rsplit {x y : Str} {a b : Str} (hy : (y.length == 0) = false) (hsz : x.length + 2 ≤ sizeLine) (hp : Txt.rsplitMax x y 1 = [a, b]) : Fc X A (.builtin "str.rsplit") [.str x, .str y, .int 1] (.list [.str a, .str b]) := fun s vs E G rs => by
  obtain ⟨v, w, u, rfl, r1, r2, r3⟩ := reps3 rs
  obtain ⟨t, rfl⟩ := r1.strE
  obtain ⟨u, rfl⟩ := r2.strE
  obtain ⟨z, rfl⟩ := r3.intE
  unfold Txt.rsplitMax at hp
  split at hp
  · cases hp
  · rename_i h1
    split at hp
    · cases hp
    · rename_i hf
      have h1' := eq_false_of_ne_true h1
      have hf' := eq_false_of_ne_true hf
      refine call_meets PySem.F.slot_str_rsplit (typeIs_str _ _ _) PySem.F.entry_str_rsplit (PySem.F.args_str_rsplit_3 _ _ _) (meets_str_rsplit_sep_max x y 1 t u z (by decide) h1' hy hf' (by omega) (by rw [hp]; simp; rw [sizeLine_eq]; decide)) ?_
      rw [hp]
      exact ⟨.of fun _ _ e => Heap.get?_push_of_some _ e, .list (n := 0) (Heap.get?_push_size _ rfl) (.cons (.str ..) (.cons (.str ..) .nil))⟩

theorem strsAre_of {h : Heap} : ∀ {vs : List Value} {ys : List Str}, Reps h vs (ys.map D.str) → StrsAre vs ys
  | _, [], .nil => .nil
  | _, y :: ys, .cons r rs => by cases r with | str _ t => exact .cons y t (strsAre_of rs)

theorem Fc.join {x : Str} {ys : List Str} (hok : (ys.map (·.length)).sum + ys.length * x.length ≤ 16777216) : Fc X A (.builtin "str.join") [.str x, .list (ys.map D.str)] (.str (Txt.join x ys)) := fun s vs E G rs => by
  obtain ⟨v, w, rfl, r1, r2⟩ := reps2 rs
  obtain ⟨t, rfl⟩ := r1.strE
  obtain ⟨a, vs', n, rfl, e, rs'⟩ := r2.listE
  exact PyProof.Rows.join_list (items := vs'.toArray) ⟨_, e, rfl, n, rfl⟩ (strsAre_of rs') hok fun t' k => ⟨.toks, .str ..⟩

theorem op_mulS {x : Str} {n : Int} (hok : MulOk x n) : Op2 X A (binaryOp .Mult) (.str x) (.int n) (.str (Txt.mul x n)) := fun s _ _ E _ r1 r2 => by
  obtain ⟨_, rfl⟩ := r1.strE
  obtain ⟨_, rfl⟩ := r2.intE
  exact SB.mul hok fun t' k => ⟨.toks, .str ..⟩
end
end Mine
end L9

section L10
open PySem PySem.W PyProof.Rows
namespace Mine

set_option maxHeartbeats 4000000 in
theorem pct_meets {x y : Str} {n : Int} {t t1 t2 t3 : Tok} {b : Addr} (hx : x.length ≤ 1000000) (hy : y.length ≤ 1000000) (hn0 : 0 ≤ n) (hn1 : n < 10 ^ 10) :
    Meets (Builtin.«str.__mod__» ⟨[.str ⟨#[37, 115, 91, 37, 100, 32, 99, 104, 97, 114, 115, 93, 37, 115]⟩ t, .ref b], []⟩)
      (fun _ R s => IsTup s.heap b #[.str x t1, .int n t2, .str y t3] ∧ ∀ t' k, R (.ok (.ret (.str (x ++ ⟨#[91]⟩ ++ Str.ofString (toString n) ++ ⟨#[32, 99, 104, 97, 114, 115, 93]⟩ ++ y) t'))) { s with toks := k }) := by
  kpt_run
noncomputable abbrev chars : List Nat := [32, 99, 104, 97, 114, 115, 93]
/-- the signs of a count -/
noncomputable def num (n : Nat) : List Nat := (Nat.toDigits 10 n).map Char.toNat
theorem num_eq (n : Nat) : Str.ofString (toString (n : Int)) = S (num n) := by
  have h := KIN.signs_num n
  have : (Str.ofString (toString (n : Int))).cps = (num n).toArray := by rw [← Array.toList_inj, h]; rfl
  exact congrArg Str.mk this

section
variable {X : Cx} {A : Around} {s₀ : Shared} {env : Env} {ρ : Str → Option D}

theorem op_pct {l r : List Nat} {n : Nat} (hl : l.length ≤ 1000000) (hr : r.length ≤ 1000000) (hn : n < 10 ^ 10) :
    Op2 X A (binaryOp .Mod) (.str (Str.ofString "%s[%d chars]%s")) (.tup [Sd l, .int n, Sd r]) (Sd (l ++ 91 :: num n ++ chars ++ r)) := fun s _ _ E G r1 r2 => by
  obtain ⟨t, rfl⟩ := r1.strE
  obtain ⟨b, vs, k, rfl, e, rs⟩ := r2.tupE
  obtain ⟨v1, v2, v3, rfl, q1, q2, q3⟩ := reps3 rs
  obtain ⟨t1, rfl⟩ := q1.strE
  obtain ⟨t2, rfl⟩ := q2.intE
  obtain ⟨t3, rfl⟩ := q3.strE
  have ht : IsTup s.heap b #[.str (S l) t1, .int n t2, .str (S r) t3] := ⟨_, e, rfl, k, rfl⟩
  have hT : s.TypeIs (.ref b) "tuple" := ⟨_, e, rfl⟩
  have hX : Str.ofString "%s[%d chars]%s" = ⟨#[37, 115, 91, 37, 100, 32, 99, 104, 97, 114, 115, 93, 37, 115]⟩ := by decide +kernel
  rw [hX]
  refine KPt.bin_left (T := "str") (U := "tuple") (op := .Mod) (by decide) (typeIs_str s _ t) hT PySem.F.fills_str_mod KPt.fills_tuple PySem.F.slot_str_mod
    (call_meets PySem.F.slot_str_mod (typeIs_str s _ t) PySem.F.entry_str_mod (PySem.F.args_str_mod_2 _ _) (pct_meets (by rw [S_len]; exact hl) (by rw [S_len]; exact hr) (Int.natCast_nonneg n) (by omega)) ⟨ht, fun t' k => ⟨(fun e => nomatch e), .toks, ?_⟩⟩)
  have e2 : S l ++ ⟨#[91]⟩ ++ Str.ofString (toString (n : Int)) ++ ⟨#[32, 99, 104, 97, 114, 115, 93]⟩ ++ S r = S (l ++ 91 :: num n ++ chars ++ r) := by
    rw [num_eq]
    show S l ++ S [91] ++ S (num n) ++ S [32, 99, 104, 97, 114, 115, 93] ++ S r = _
    simp only [S_app]
    congr 2
    simp
  rw [e2]
  exact .str ..

theorem Fc.intNum {n : Nat} (hn : n < 10 ^ 10) : Fc X A (.type "int") [Sd (num n)] (.int n) := fun s vs E G rs => by
  obtain ⟨v, rfl, r⟩ := reps1 rs
  obtain ⟨t, rfl⟩ := r.strE
  rw [← num_eq]
  exact KIN.call_num (Int.natCast_nonneg n) (by omega) ⟨.toks, .int ..⟩

noncomputable def fromP : PyData → D
  | .int i => .int i
  | .str x => .str x
  | _ => .val .none
noncomputable def leaf : PyData → Bool
  | .int _ => true
  | .str x => PyData.strOk x
  | _ => false
theorem readsAll_of {h : Heap} {ps : List PyData} {vs : List Value} (hp : ∀ p ∈ ps, leaf p = true) (r : Reps h vs (ps.map fromP)) : ReadsAll h vs ps [] := by
  induction ps generalizing vs with
  | nil => cases r; exact .nil
  | cons p ps ih =>
    cases r with
    | cons r rs =>
      have h1 := hp p (List.mem_cons_self ..)
      have h2 := ih (fun q hq => hp q (List.mem_cons_of_mem _ hq)) rs
      cases p with
      | int i => obtain ⟨t, rfl⟩ := r.intE; exact .cons (as := []) (.int i t) h2
      | str x => obtain ⟨t, rfl⟩ := r.strE; exact .cons (as := []) (.str x t) h2
      | _ => cases h1
theorem leaf_facts : ∀ {ps : List PyData}, (∀ p ∈ ps, leaf p = true) → PyData.canLayAll0 ps = true ∧ PyData.depthAll ps = 0
  | [], _ => ⟨by simp [PyData.canLayAll0], by simp [PyData.depthAll]⟩
  | p :: ps, hp => by
    have h1 := hp p (List.mem_cons_self ..)
    obtain ⟨a, b⟩ := leaf_facts (ps := ps) fun q hq => hp q (List.mem_cons_of_mem _ hq)
    cases p with
    | int i => exact ⟨by simp [PyData.canLayAll0, PyData.canLay0, a], by simp [PyData.depthAll, PyData.depth, b]⟩
    | str x => exact ⟨by simp only [PyData.canLayAll0, PyData.canLay0, a, Bool.and_true]; exact h1, by simp [PyData.depthAll, PyData.depth, b]⟩
    | _ => cases h1
theorem leaf_shaped {ps : List PyData} (hp : ∀ p ∈ ps, leaf p = true) : SeqAt.shaped (.list ps) = true := by
  obtain ⟨a, b⟩ := leaf_facts hp
  unfold SeqAt.shaped
  rw [Bool.and_eq_true]
  exact ⟨by simpa [PyData.canLay0] using a, decide_eq_true (by simp [PyData.depth, b])⟩
theorem op_neLsame {ps : List PyData} (hp : ∀ p ∈ ps, leaf p = true) (hu : A.units + 64 < cLine) : Op2 X A (compareOp .NotEq) (.list (ps.map fromP)) (.list (ps.map fromP)) (.val (.bool false)) := fun s _ _ E G r1 r2 => by
  obtain ⟨_, _, _, rfl, e1, rs1⟩ := r1.listE
  obtain ⟨_, _, _, rfl, e2, rs2⟩ := r2.listE
  have hs := leaf_shaped hp
  have hl : PyData.canLay0 (.list ps) = true := by simpa [PyData.canLay0] using (leaf_facts hp).1
  refine PyProof.Rows.ne_dataH (Reads.list e1 rfl rfl (readsAll_of hp rs1)) (Reads.list e2 rfl rfl (readsAll_of hp rs2)) hs hs hu ?_
  have := SeqAt.eqv_refl _ hl
  rw [this]
  exact ⟨.refl .., .val _⟩
theorem op_eqLnil {ds : List D} (hu : A.units < cLine) : Op2 X A (compareOp .Eq) (.list ds) (.list []) (.val (.bool ds.isEmpty)) := fun s _ _ E G r1 r2 => by
  obtain ⟨a, vs, n, rfl, e1, rs1⟩ := r1.listE
  obtain ⟨b, ws, m, rfl, e2, rs2⟩ := r2.listE
  cases rs2
  cases ds with
  | nil =>
    cases rs1
    exact SeqAt.eq_listAt (items := #[]) (items2 := #[]) (e := fun _ => true) ⟨_, e1, rfl, n, rfl⟩ ⟨_, e2, rfl, m, rfl⟩ rfl hu (fun j h1 => absurd h1 (Nat.not_lt_zero _)) ⟨.refl .., .val _⟩
  | cons d ds =>
    exact SeqAt.eq_list_lengthsAt (items := vs.toArray) (items2 := #[]) ⟨_, e1, rfl, n, rfl⟩ ⟨_, e2, rfl, m, rfl⟩ (by simp [rs1.length]) hu ⟨.refl .., .val _⟩

theorem Fc.reprStrs {ys : List Str} {t : Str} (hg : A.guards = some []) (hu : A.units + 20 < cLine) (ht : (PyData.list (ys.map .str)).shown = t) (hsz : t.length ≤ sizeLine) : Fc X A (.builtin "repr") [.list (ys.map D.str)] (.str t) := fun s vs E G rs => by
  obtain ⟨v, rfl, r⟩ := reps1 rs
  obtain ⟨_, _, _, rfl, e, rs'⟩ := r.listE
  have ra : ∀ {ys : List Str} {vs : List Value}, Reps s.heap vs (ys.map D.str) → ReadsAll s.heap vs (ys.map .str) [] := by
    intro ys
    induction ys with
    | nil => intro vs q; cases q; exact .nil
    | cons y ys ih => intro vs q; cases q with | cons a b => cases a with | str _ t => exact .cons (as := []) (.str y t) (ih b)
  have dp : ∀ ys : List Str, PyData.depthAll (ys.map .str) = 0 := by
    intro ys
    induction ys with
    | nil => simp [PyData.depthAll]
    | cons y ys ih => simp [PyData.depthAll, PyData.depth, ih]
  have nd : ∀ ys : List Str, PyData.hasDictAll (ys.map .str) = false := by
    intro ys
    induction ys with
    | nil => simp [PyData.hasDictAll]
    | cons y ys ih => simp [PyData.hasDictAll, PyData.hasDict, ih]
  subst ht
  refine repr_of_reads' (Reads.list e rfl rfl (ra rs')) (by simpa [PyData.showable] using PyData.showableAll_strs ys) (PyData.noDict_hsm ?_) hg (by simp only [PyData.depth, dp]; omega) (fun _ _ e => e) (fun h' u tk hk => ⟨.of hk, .str ..⟩) hsz
  simp only [PyData.hasDict, nd]
end
end Mine
end L10

section L11
open PySem PySem.W PyProof.Rows
namespace Mine

section
variable {X : Cx} {A : Around} {s₀ : Shared} {env : Env} {ρ : Str → Option D} {K : Out → Prop}

/-- a call of a built-in by its name -/
theorem evalCallB {x : Str} {pn pos : Pos} {fv : Value} {e : Expr} {es : List Expr} {ds : List D} {s : Shared} {Q : Value → Shared → Prop} {E : Value → Shared → Prop} (F : Fm X s₀ env) (S : St X s₀ env ρ s)
    (hk : env.kindOf x = some .globalImplicit) (h0 : nsIn X.K mainGlobals x = some none) (hv : bootBuiltins x = some fv) (hn : x ≠ "__name__") (hdb : (x == ("__debug__" : Str)) = false)
    (hfv : (∃ i, fv = .builtin i) ∨ (∃ T, fv = .type T)) (he : starEach (e :: es) env = (false, eval e env) :: starEach es env)
    (hplain : (backTo pos (starEach es env)).any (·.1) = false) (h2 : Evs X A s₀ env ρ pos (e :: es) ds)
    (h3 : ∀ vs s2, Grow X s s2 → Reps s2.heap vs ds → wpAny X.M A (PySem.call fv vs) Q E s2) : wpAny X.M A (eval (.Call (.Name x pn) (e :: es) [] pos) env) Q E s := by
  rw [eval_Call_plain (fun _ _ _ h => by cases h)]
  refine wpAny_bind (wpAny_mono (Ev.bi F hk h0 hv hn hdb s E S) (fun v s1 q1 => ?_) fun _ _ x => x)
  obtain ⟨g1, r1⟩ := q1
  cases r1
  have S1 := S.grown F g1
  have hany : (backTo pos (starEach (e :: es) env)).any (·.1) = false := by rw [he]; show (false || (backTo pos (starEach es env)).any (·.1)) = false; rw [hplain]; rfl
  rcases hfv with ⟨i, rfl⟩ | ⟨T, rfl⟩
  · have z := h2 s1 E S1
    rw [he] at z hany ⊢
    exact Calls.callWith_builtin hany (Calls.evalArgs_plain (wpAny_mono z (fun vs s2 q2 => h3 vs s2 (g1.trans q2.1) q2.2) fun _ _ x => x))
  · have z := h2 s1 E S1
    rw [he] at z hany ⊢
    exact PyProof.Rows.callWith_type hany (Calls.evalArgs_plain (wpAny_mono z (fun vs s2 q2 => h3 vs s2 (g1.trans q2.1) q2.2) fun _ _ x => x))
/-- a call of a built-in upon one argument, whatever it is -/
theorem evalCallB1 {x : Str} {pn pos : Pos} {fv : Value} {e : Expr} {s : Shared} {Q : Value → Shared → Prop} {E : Value → Shared → Prop} (F : Fm X s₀ env) (S : St X s₀ env ρ s)
    (hk : env.kindOf x = some .globalImplicit) (h0 : nsIn X.K mainGlobals x = some none) (hv : bootBuiltins x = some fv) (hn : x ≠ "__name__") (hdb : (x == ("__debug__" : Str)) = false)
    (hfv : (∃ i, fv = .builtin i) ∨ (∃ T, fv = .type T)) (he : starEach [e] env = [(false, eval e env)])
    (h3 : ∀ s1, Grow X s s1 → St X s₀ env ρ s1 → wpAny X.M A (eval e env) (fun v s2 => wpAny X.M A (PySem.call fv [v]) Q E s2) E s1) : wpAny X.M A (eval (.Call (.Name x pn) [e] [] pos) env) Q E s := by
  rw [eval_Call_plain (fun _ _ _ h => by cases h)]
  refine wpAny_bind (wpAny_mono (Ev.bi F hk h0 hv hn hdb s E S) (fun v s1 q1 => ?_) fun _ _ x => x)
  obtain ⟨g1, r1⟩ := q1
  cases r1
  have S1 := S.grown F g1
  have hany : (backTo pos (starEach [e] env)).any (·.1) = false := by rw [he]; rfl
  have z : wpAny X.M A (spliced (backTo pos (starEach [e] env))) (fun vs s2 => wpAny X.M A (PySem.call fv ([] ++ vs) []) Q E s2) E s1 :=
    wpAny_items_cons (wpAny_mono (h3 s1 g1 S1) (fun v s2 q2 => wpAny_items_nil q2) fun _ _ x => x) he
  rcases hfv with ⟨i, rfl⟩ | ⟨T, rfl⟩
  · rw [he] at z hany ⊢
    exact Calls.callWith_builtin hany (Calls.evalArgs_plain z)
  · rw [he] at z hany ⊢
    exact PyProof.Rows.callWith_type hany (Calls.evalArgs_plain z)

theorem Ev.callB {x : Str} {pn pos : Pos} {fv : Value} {e : Expr} {es : List Expr} {ds : List D} {d : D} (F : Fm X s₀ env)
    (hk : env.kindOf x = some .globalImplicit) (h0 : nsIn X.K mainGlobals x = some none) (hv : bootBuiltins x = some fv) (hn : x ≠ "__name__") (hdb : (x == ("__debug__" : Str)) = false)
    (hfv : (∃ i, fv = .builtin i) ∨ (∃ T, fv = .type T)) (he : starEach (e :: es) env = (false, eval e env) :: starEach es env)
    (hplain : (backTo pos (starEach es env)).any (·.1) = false) (h2 : Evs X A s₀ env ρ pos (e :: es) ds) (h3 : Fc X A fv ds d) : Ev X A s₀ env ρ (.Call (.Name x pn) (e :: es) [] pos) d := fun s E S =>
  evalCallB F S hk h0 hv hn hdb hfv he hplain h2 fun vs s2 g2 r2 => wpAny_mono (h3 s2 vs E (S.gs.grow g2) r2) (fun v s3 q3 => ⟨g2.trans q3.1, q3.2⟩) fun _ _ x => x
/-- a call of a def by its name -/
theorem Ev.callG {x : Str} {pn pos : Pos} {f : Addr} {o : Obj} {fd : FuncData} {e : Expr} {es : List Expr} {ds : List D} {d : D} (F : Fm X s₀ env)
    (hk : env.kindOf x = some .globalImplicit) (h0 : nsIn X.K mainGlobals x = some (some (.ref f))) (hl : X.K.lookup f = some o) (hd : o.data = .func fd) (hdb : (x == ("__debug__" : Str)) = false)
    (he : starEach (e :: es) env = (false, eval e env) :: starEach es env)
    (hplain : (backTo pos (starEach es env)).any (·.1) = false) (h2 : Evs X A s₀ env ρ pos (e :: es) ds) (h3 : Fc X A (.ref f) ds d) : Ev X A s₀ env ρ (.Call (.Name x pn) (e :: es) [] pos) d :=
  Ev.call F (fun _ _ _ h => by cases h) (Ev.glob F hk h0 (fun _ _ => .val _) hdb) he hplain h2 ⟨fun a ha => by cases ha; exact ⟨o, fd, hl, hd⟩, .inl ⟨_, rfl⟩⟩ h3

/-- a datum that stands on no object -/
noncomputable def D.leafy : D → Bool
  | .int _ | .str _ => true
  | .val (.ref _) => false
  | .val _ => true
  | _ => false
theorem Rep.leafy {h : Heap} {v : Value} {d : D} (r : Rep h v d) (hl : d.leafy = true) : ∀ a, v ≠ .ref a := by
  intro a e
  subst e
  cases r <;> cases hl
theorem Es.expr {e : Expr} {pos : Pos} {d : D} (F : Fm X s₀ env) (he : Ev X A s₀ env ρ e d) (hl : d.leafy = true) (hi : interactive env = false) (hs : swapsWith e none pos.line env = pure false) :
    Es X A s₀ env ρ (.Expr e pos) (fun o => o = .next ρ) := fun s E S =>
  wpAny_Expr (wpAny_mono (he s E S) (fun v s1 q => by
    have hv := q.2.leafy hl
    have z : Ends X s₀ env s (fun o => o = .next ρ) .next s1 := ⟨ρ, rfl, S.grown F q.1, q.1.mv⟩
    cases v <;> first | exact z | exact absurd rfl (hv _)) fun _ _ x => x) hi hs
theorem Es.tryOk {body : List Stmt} {h₀ : ExceptHandler} {hs : List ExceptHandler} {pos : Pos} {ρ' : Str → Option D} (hb : Ex X A s₀ env ρ body (fun o => o = .next ρ')) :
    Es X A s₀ env ρ (.Try body (h₀ :: hs) [] [] pos) (fun o => o = .next ρ') := fun s E S =>
  wpAny_Try_except (wpAny_mono (hb s _ S) (fun f s1 q => by
    cases f with
    | next => exact wpAny_execs_nil q
    | brk => exact q
    | cont => exact q
    | ret v => exact q) fun _ _ x => x)
theorem Tr.tup {ds : List D} (hz : ds.length < 2 ^ 60) : Tr X A (.tup ds) (!ds.isEmpty) := fun s v E G r => by
  obtain ⟨a, vs, n, rfl, e, rs⟩ := r.tupE
  refine PyProof.Rows.truthy_tuple (items := vs.toArray) ⟨_, e, rfl, n, rfl⟩ (by rw [List.size_toArray, rs.length]; omega) ⟨?_, .toks⟩
  have := rs.length
  cases vs <;> cases ds <;> simp_all
theorem store_localV {x : Str} {v : Value} {d : D} {s : Shared} {E : Value → Shared → Prop} {Q : Unit → Shared → Prop} (F : Fm X s₀ env) (S : St X s₀ env ρ s) (hx : env.kindOf x = some .local) (r : Rep s.heap v d)
    (h : ∀ s', St X s₀ env (upd ρ x d) s' → Mv X s s' → (∀ b o, IsVal o → s.heap.get? b = some o → s'.heap.get? b = some o) → Q () s') : wpAny X.M A (storeName env x v) Q E s := by
  obtain ⟨m, hn, hm⟩ := S.loc
  exact wpAny_storeName_local hx hn (fun h' hn' hs' => h _ (S.storeLocal F hx hn hm r hn' hs') (Mv.but hs' (ns_not_still hn)) (keepV_but hs' (ns_not_val hn))) (by rw [F.kind]; rfl)
/-- two names from a list of two -/
theorem Es.unpack2 {x y : Str} {px py tpos pos : Pos} {k : Nat} {value : Expr} {d1 d2 : D} (F : Fm X s₀ env) (hh : A.handled = none) (he : Ev X A s₀ env ρ value (.list [d1, d2])) (hx : env.kindOf x = some .local) (hy : env.kindOf y = some .local)
    (hs : swapsWithSole [.Tuple [.Name x px, .Name y py] k tpos] value pos.line env = pure false) (hw : swappedStores [.Tuple [.Name x px, .Name y py] k tpos] value env = pure none) :
    Es X A s₀ env ρ (.Assign [.Tuple [.Name x px, .Name y py] k tpos] value pos) (fun o => o = .next (upd (upd ρ x d1) y d2)) := fun s E S => by
  refine Assign_Tuple (wpAny_mono (he s E S) (fun v s1 q => ?_) fun _ _ x => x) hs hw
  obtain ⟨g1, r1⟩ := q
  obtain ⟨a, vs, n, rfl, e, rs⟩ := r1.listE
  obtain ⟨v1, v2, rfl, q1, q2⟩ := reps2 rs
  have S1 := S.grown F g1
  rw [arm_assign_Tuple]
  refine wpAny_bind (wpAny_standAt ?_)
  unfold unpack
  refine wpAny_bind (wpAny_holding ?_)
  have hl : s1.heap.IsList a #[v1, v2] := ⟨_, e, rfl, n, rfl⟩
  show wpAny X.M A (unpackItems (.ref a) (#[v1, v2] : Array Value).size none) _ _ _
  refine kun_itemsOf hh hl fun h' he' => ?_
  have kk : ∀ b o, s1.heap.get? b = some o → h'.get? b = some o := fun b o q => he' b o (Nat.ne_of_lt (Heap.lt_size q)) q
  have g2 : Grow X s1 { s1 with heap := h' } := Grow.of (tk := s1.toks) kk
  have S2 := S1.grown F g2
  show wpAny X.M A (do holding [v2] (assign (.Name x px) env v1); do holding [] (assign (.Name y py) env v2); pure ()) _ _ _
  refine wpAny_bind (wpAny_holding (wpAny_assign_Name (store_localV F S2 hx (q1.grow S1.gs g2) fun s3 S3 m3 k3 => ?_)))
  refine wpAny_bind (wpAny_holding (wpAny_assign_Name (store_local F S3 hy ((q2.grow S1.gs g2).keepV k3) fun s4 S4 m4 => wpAny_pure ⟨_, rfl, S4, ?_⟩)))
  exact (g1.trans g2).mv.trans (m3.trans m4)
end
theorem len1 {α : Type} {vs : List α} (h : vs.length = 1) : ∃ a, vs = [a] := List.length_eq_one_iff.mp h
theorem len2 {α : Type} {vs : List α} (h : vs.length = 2) : ∃ a b, vs = [a, b] := by
  cases vs with
  | nil => cases h
  | cons a r => obtain ⟨b, rfl⟩ := len1 (Nat.succ.inj h); exact ⟨a, b, rfl⟩
theorem len3 {α : Type} {vs : List α} (h : vs.length = 3) : ∃ a b c, vs = [a, b, c] := by
  cases vs with
  | nil => cases h
  | cons a r => obtain ⟨b, c, rfl⟩ := len2 (Nat.succ.inj h); exact ⟨a, b, c, rfl⟩
theorem pair_get {α β : Type} {a b : α} {c e : β} {P : α → β → Prop} (h0 : P a c) (h1 : P b e) : ∀ (i : Nat) d r, [a, b][i]? = some d → [c, e][i]? = some r → P d r := fun i d r hd hr => by
  cases i with
  | zero => cases hd; cases hr; exact h0
  | succ i =>
    cases i with
    | zero => cases hd; cases hr; exact h1
    | succ i => cases hd
theorem lek {n m k : Nat} (h : n ≤ m) (hk : m.ble k = true) : n ≤ k := Nat.le_trans h (Nat.le_of_ble_eq_true hk)
theorem sz {n : Nat} (h : n ≤ 100000) : n ≤ sizeLine := by rw [sizeLine_eq]; exact lek h rfl
theorem sz7 {n : Nat} (h : n ≤ 10000000) : n ≤ sizeLine := by rw [sizeLine_eq]; exact lek h rfl
theorem szM {α β : Type} {l : List α} {f : α → β} (h : l.length ≤ 100000) : (l.map f).length ≤ sizeLine := by rw [List.length_map]; exact sz h
theorem szR {m : Nat} (h : m ≤ 100000) : (rngL 0 (m : Int)).length ≤ sizeLine := by rw [rngL_length, Int.sub_zero, Int.toNat_natCast]; exact sz h
theorem naN {m : Nat} (h : m ≤ 100000) : (m : Int).natAbs < 2 ^ 40 := Nat.lt_of_le_of_lt h (Nat.le_of_ble_eq_true rfl)
theorem p60 {n : Nat} (h : n ≤ 100000) : n < 2 ^ 60 := Nat.lt_of_le_of_lt h (Nat.le_of_ble_eq_true rfl)
theorem i63 {n : Nat} (h : n ≤ 100000) : (n : Int) < 2 ^ 63 := Int.ofNat_lt.mpr (Nat.lt_of_le_of_lt h (Nat.le_of_ble_eq_true rfl))
theorem flatM {α : Type} {l : List α} {g : α → D} (h : ∀ x, (g x).flat = true) : ∀ d ∈ l.map g, d.flat = true := fun d hd => by
  obtain ⟨x, _, rfl⟩ := List.mem_map.mp hd; exact h x
theorem tkL {α : Type} {l : List α} {n c : Nat} (h : l.length ≤ c) : (l.take n).length ≤ c := by rw [List.length_take]; exact Nat.le_trans (Nat.min_le_right _ _) h
theorem drL {α : Type} {l : List α} {n c : Nat} (h : l.length ≤ c) : (l.drop n).length ≤ c := by rw [List.length_drop]; exact Nat.le_trans (Nat.sub_le _ _) h
theorem op_addK {X : Cx} {A : Around} {a : Nat} (k : Nat) : Op2 X A (binaryOp .Add) (.int a) (.int (k : Int)) (.int ((a + k : Nat) : Int)) := op_addI
theorem op_addKl {X : Cx} {A : Around} {b : Nat} (k : Nat) : Op2 X A (binaryOp .Add) (.int (k : Int)) (.int b) (.int ((k + b : Nat) : Int)) := op_addI
theorem op_addS2 {X : Cx} {A : Around} {x y : List Nat} (h : x.length + y.length ≤ 100000) : Op2 X A (binaryOp .Add) (.str (S x)) (.str (S y)) (.str (S (x ++ y))) := by
  rw [← S_app]; exact op_addS (by rw [S_len, S_len]; exact sz h)
end Mine
end L11

section L12
open PySem PySem.W PyProof.Rows
open AutoSeq1 (wpAny_loadPart')
namespace Mine

section
variable {prog : Program} {w : World} {A : Around} {E : Value → Shared → Prop} {s : Shared}
theorem nextOf_tuple_item {it t : Addr} {i : Nat} {items} {x : Value} {Q : Value → Shared → Prop} (hit : s.heap.IsTupleIter it t i)
    (ht : s.heap.IsTuple t items) (hx : items[i]? = some x)
    (hQ : ∀ h', h'.IsTupleIter it t (i + 1) → Heap.SameBut it s.heap h' → Q x { s with heap := h' }) :
    wpAny (model prog w) A (Builtin.SmallTypes.nextOf (.ref it)) Q E s := by
  obtain ⟨o, ho, hc, hd⟩ := id hit
  obtain ⟨ol, hol, _, nl, hdl⟩ := ht
  unfold Builtin.SmallTypes.nextOf
  refine wpAny_bind (wpAny_callSpecial?_slot (name := Str.ofString "__next__") hit.typeIs PySem.F.slot_tuple_iterator_next
    (wpAny_call_entry PySem.F.slot_tuple_iterator_next hit.typeIs PySem.F.entry_tuple_iterator_next ?_ (PySem.F.args_tuple_iterator_next_1 _)))
  show wpAny _ _ (field (.ref it) 0 >>= _) _ _ s
  refine wpAny_bind (wpAny_field ho hd (x := .ref t) rfl ?_)
  show wpAny _ _ (if (Value.ref t == Value.none) = true then _ else _) _ _ s
  rw [if_neg (show ¬ ((Value.ref t == Value.none) = true) from Bool.false_ne_true)]
  show wpAny _ _ (field (.ref it) 1 >>= _) _ _ s
  refine wpAny_bind (wpAny_field ho hd (x := .int i 0) rfl ?_)
  show wpAny _ _ (seqItems? (.ref t) >>= _) _ _ s
  refine wpAny_bind (wpAny_seqItems hol hdl ?_)
  simp only [Int.toNat_natCast, hx]
  refine wpAny_bind (wpAny_setField ho hd (by simp) (wpAny_pure ⟨x, rfl, wpAny_pure (hQ _ ?_ (Heap.SameBut.update ..))⟩))
  exact ⟨_, Heap.get?_update_self _ ho (Obj.isFreed_of_fields (Obj.data_mapFields hd _)), (Obj.cls_mapFields ..).trans hc, by
    rw [Obj.data_mapFields hd]; simp [rawInt]⟩
theorem nextOf_tuple_end {it t : Addr} {i : Nat} {items} {Q : Value → Shared → Prop} (hh : A.handled = none)
    (hit : s.heap.IsTupleIter it t i) (ht : s.heap.IsTuple t items) (hx : items[i]? = none)
    (hE : ∀ h' e, Heap.ExtBut it s.heap h' → (∃ o, h'.get? e = some o ∧ o.cls = .type "StopIteration") → E (.ref e) { s with heap := h' }) :
    wpAny (model prog w) A (Builtin.SmallTypes.nextOf (.ref it)) Q E s := by
  obtain ⟨o, ho, hc, hd⟩ := id hit
  obtain ⟨ol, hol, _, nl, hdl⟩ := ht
  unfold Builtin.SmallTypes.nextOf
  refine wpAny_bind (wpAny_callSpecial?_slot (name := Str.ofString "__next__") hit.typeIs PySem.F.slot_tuple_iterator_next
    (wpAny_call_entry PySem.F.slot_tuple_iterator_next hit.typeIs PySem.F.entry_tuple_iterator_next ?_ (PySem.F.args_tuple_iterator_next_1 _)))
  show wpAny _ _ (field (.ref it) 0 >>= _) _ _ s
  refine wpAny_bind (wpAny_field ho hd (x := .ref t) rfl ?_)
  show wpAny _ _ (if (Value.ref t == Value.none) = true then _ else _) _ _ s
  rw [if_neg (show ¬ ((Value.ref t == Value.none) = true) from Bool.false_ne_true)]
  show wpAny _ _ (field (.ref it) 1 >>= _) _ _ s
  refine wpAny_bind (wpAny_field ho hd (x := .int i 0) rfl ?_)
  show wpAny _ _ (seqItems? (.ref t) >>= _) _ _ s
  refine wpAny_bind (wpAny_seqItems hol hdl ?_)
  simp only [Int.toNat_natCast, hx]
  refine wpAny_bind (wpAny_rule (wpAny_bind (wpAny_setField ho hd (by simp) ?_)))
  show wpAny _ _ (newExc (.type "StopIteration") [] >>= _) _ _ _
  refine wpAny_bind ?_
  simp only [newExc, newTuple]
  refine wpAny_bind (wpAny_newObj_type ?_ (by size_fits))
  refine wpAny_bind (m := firstArgMember _ _) (wpAny_of_eq (a := Value.none) (by first | rfl | (simp only [firstArgMember]; rfl)) ?_)
  refine wpAny_newObj_type ?_ (by size_fits)
  simp only [raiseNew]
  refine wpAny_bind (wpAny_handled ?_)
  first | rw [show A.in1.handled = none from hh] | rw [hh]
  refine wpAny_bind (wpAny_pure (wpAny_throw ?_))
  exact hE _ _ (((Heap.SameBut.update ..).extBut.push _).push _) ⟨_, Heap.get?_push_size _ rfl, rfl⟩
end
theorem Draws.tuple {prog : Program} {w : World} {A : Around} (hh : A.handled = none) (it l : Addr) (hne : l ≠ it) (items : Array Value) :
    Draws prog w A it [it, l] items.size (fun i v => items[i]? = some v) (fun i h => h.IsTupleIter it l i ∧ h.IsTuple l items) where
  live := fun _ _ st => let ⟨o, ho, _⟩ := st.1; ⟨o, ho⟩
  frame := fun _ _ _ st hk => ⟨st.1.at fun o e => hk it (by simp) o e, st.2.at fun o e => hk l (by simp) o e⟩
  item := fun i s Q E hi st hQ => by
    refine nextOf_tuple_item st.1 st.2 (x := items[i]) (by simp [hi]) fun h' hit' hs' => ?_
    exact hQ _ h' s.toks (by simp [hi]) ⟨hit', st.2.extBut hs'.extBut hne⟩ hs'
  done := fun s Q E st hE => nextOf_tuple_end hh st.1 st.2 (by simp) hE

set_option maxHeartbeats 1000000 in
theorem meets_enumerate_newT (l : Addr) (items : Array Value) (n : Nat) :
    Meets (Builtin.«enumerate.__new__» ⟨[.type "enumerate", .ref l], []⟩) (fun _ R s => s.heap.get? l = some { cls := .type "tuple", data := .seq items n } ∧
      R (.ok (.ret (.ref (s.heap.push { cls := .type "tuple_iterator", data := .fields #[.ref l, .int 0 0] }).objs.size)))
        { s with heap := (s.heap.push { cls := .type "tuple_iterator", data := .fields #[.ref l, .int 0 0] }).push { cls := .type "enumerate", data := .fields #[.none, .bool false, .ref s.heap.objs.size, rawInt 0, .none, .none] } }) :=
  .of_wp fun prog w A R s h => by
    obtain ⟨hp, g, d, tk, os⟩ := s; obtain ⟨hl, h⟩ := h
    have hsub := sub_enumerate
    have hL : Heap.IsTuple (Shared.heap ⟨hp, g, d, tk, os⟩) l items := ⟨_, hl, rfl, n, rfl⟩
    wp_walk using wpAny_loadPart' hl
    refine wpAny_stack_any fun st => wpAny_pure ?_
    split
    · rename_i c _ _ _ _ _
      cases (c == Value.type "enumerate")
      · wp_walk using wpAny_loadPart' hl, wpAny_pyIter_tuple hL
        exact ⟨_, rfl, h⟩
      · wp_walk using wpAny_loadPart' hl, wpAny_pyIter_tuple hL
        exact ⟨_, rfl, h⟩
    · wp_walk using wpAny_loadPart' hl, wpAny_pyIter_tuple hL
      exact ⟨_, rfl, h⟩
theorem call_enumerate_tup {prog : Program} {w : World} {A : Around} {E : Value → Shared → Prop} {s : Shared} {l : Addr} {items : Array Value} {n : Nat} {Q : Value → Shared → Prop} (hl : s.heap.get? l = some { cls := .type "tuple", data := .seq items n })
    (h : ∀ h', IsEnum h' (s.heap.objs.size + 1) s.heap.objs.size 0 .none → h'.IsTupleIter s.heap.objs.size l 0 → h'.objs.size = s.heap.objs.size + 2 →
      (∀ b o, s.heap.get? b = some o → h'.get? b = some o) → Q (.ref (s.heap.objs.size + 1)) { s with heap := h' }) :
    wpAny (model prog w) A (call (.type "enumerate") [.ref l]) Q E s := by
  refine callType_new PySem.F.called_enumerate (by decide) (PySem.F.typeCall_enumerate_1 _) (PySem.F.newCall_enumerate_1 _) (fun obj => PySem.F.args_object_init_2 obj _) PySem.F.entry_enumerate_new
    (meets_enumerate_newT l items n) ⟨hl, ?_⟩
  have hz : (s.heap.push { cls := .type "tuple_iterator", data := .fields #[.ref l, .int 0 0] }).objs.size = s.heap.objs.size + 1 := Heap.size_push ..
  show _ ∧ _
  rw [hz]
  have he : IsEnum ((s.heap.push { cls := .type "tuple_iterator", data := .fields #[.ref l, .int 0 0] }).push
      { cls := .type "enumerate", data := .fields #[.none, .bool false, .ref s.heap.objs.size, rawInt 0, .none, .none] }) (s.heap.objs.size + 1) s.heap.objs.size 0 .none := by
    have := Heap.get?_push_size (s.heap.push { cls := .type "tuple_iterator", data := .fields #[.ref l, .int 0 0] })
      (o := { cls := .type "enumerate", data := .fields #[.none, .bool false, .ref s.heap.objs.size, rawInt 0, .none, .none] }) rfl
    rw [hz] at this; exact this
  refine ⟨⟨_, he, rfl⟩, h _ he ⟨_, Heap.get?_push_of_some _ (Heap.get?_push_size _ rfl), rfl, rfl⟩ (by rw [Heap.size_push, hz]) fun b o x => Heap.get?_push_of_some _ (Heap.get?_push_of_some _ x)⟩

structure EnOk (X : Cx) (A : Around) (s : Shared) (ds : List D) (I : Addr) (fp wr : List Addr) (SI : Nat → Heap → Prop) (Mid : Nat → Addr → Heap → Prop) (s' : Shared) : Prop where
  w : WalksT X.prog X.w A I fp wr ds.length (fun i vals => ∃ t v, PI ds i v ∧ vals = #[.int i t, v]) SI Mid
  st : SI 0 s'.heap
  grow : Grow X s s'
  old : ∀ b ∈ fp, b ∈ wr ∨ (¬ X.mu b ∧ ∃ o, s.heap.get? b = some o ∧ IsVal o)
  new : ∀ b ∈ wr, s.heap.objs.size ≤ b
  io : ∀ i h, SI i h → ∀ b ∈ wr, ∃ o, h.get? b = some o ∧ Iobj o
  ioM : ∀ i T h, Mid i T h → ∀ b ∈ wr, ∃ o, h.get? b = some o ∧ Iobj o

def Enb (X : Cx) (A : Around) (d : D) (ds : List D) : Prop := ∀ s v E (Q : Value → Shared → Prop), Gs X s → Rep s.heap v d →
  (∀ I fp wr SI Mid s', EnOk X A s ds I fp wr SI Mid s' → Q (.ref I) s') → wpAny X.M A (call (.type "enumerate") [v]) Q E s

section
variable {X : Cx} {A : Around} {s₀ : Shared} {env : Env} {ρ : Str → Option D} {K : Out → Prop}

theorem iobj_enum {h : Heap} {e it : Addr} {i : Int} {x : Value} (he : IsEnum h e it i x) : ∃ o, h.get? e = some o ∧ Iobj o :=
  ⟨_, he, ⟨_, rfl⟩, (by show Value.type "enumerate" ≠ Value.type "range"; decide), (by show Value.type "enumerate" ≠ Value.none; decide)⟩
theorem iobj_enumOut {h : Heap} {e it a : Addr} {i : Int} {x : Value} (he : IsEnumOut h e it i x a) : ∃ o, h.get? e = some o ∧ Iobj o :=
  ⟨_, he, ⟨_, rfl⟩, (by show Value.type "enumerate" ≠ Value.type "range"; decide), (by show Value.type "enumerate" ≠ Value.none; decide)⟩
theorem iobj_tupIter {h : Heap} {it t : Addr} {i : Nat} (ht : h.IsTupleIter it t i) : ∃ o, h.get? it = some o ∧ Iobj o := by
  obtain ⟨o, ho, hc, hd⟩ := ht
  exact ⟨o, ho, ⟨_, hd⟩, by rw [hc]; decide, by rw [hc]; decide⟩
theorem iobj_strIter {h : Heap} {it : Addr} {x : Str} {t : Tok} {i : Nat} (ht : h.IsStrIter it "str_ascii_iterator" x t i) : ∃ o, h.get? it = some o ∧ Iobj o := by
  obtain ⟨o, ho, hc, hd⟩ := ht
  exact ⟨o, ho, ⟨_, hd⟩, by rw [hc]; decide, by rw [hc]; decide⟩

theorem WalksT.weaken {prog : Program} {w : World} {I : Addr} {fp wr : List Addr} {n : Nat} {Pt Pt' : Nat → Array Value → Prop} {SI : Nat → Heap → Prop} {Mid : Nat → Addr → Heap → Prop} (W : WalksT prog w A I fp wr n Pt SI Mid) (hp : ∀ i v, i < n → Pt i v → Pt' i v) : WalksT prog w A I fp wr n Pt' SI Mid :=
  ⟨W.sub, W.frame, fun i s Q E hi st hQ => W.item i s Q E hi st fun T vals h' tk p => hQ T vals h' tk (hp i vals hi p), W.go, W.apart, W.done, W.self⟩

/-- enumerate over a tuple of the program's start -/
theorem Enb.top {t : Addr} {vs : List Value} {n : Nat} {ds : List D} (hh : A.handled = none) (hK : X.K.lookup t = some (tobj vs n)) (hr : ∀ h, Reps h vs ds) (hmu : ¬ X.mu t) : Enb X A (.val (.ref t)) ds := fun s v E Q G r hQ => by
  cases r
  have e := G.gd.k _ _ hK
  have lt := Heap.lt_size e
  refine call_enumerate_tup e fun h' he hit hz hk => ?_
  have D := Draws.tuple (prog := X.prog) (w := X.w) (A := A.in1) hh s.heap.objs.size t (Nat.ne_of_lt lt) vs.toArray
  have W := WalksT.enumerateD D (s.heap.objs.size + 1) (Nat.succ_ne_self _) (by simp only [List.mem_cons, List.not_mem_nil, or_false, not_or]; exact ⟨Nat.succ_ne_self _, fun h => absurd lt (by rw [← h]; exact Nat.not_lt.mpr (Nat.le_succ _))⟩) (by simp)
  rw [show vs.toArray.size = ds.length by rw [List.size_toArray, (hr default).length]] at W
  refine hQ _ _ _ _ _ _ ⟨WalksT.weaken W ?_, ⟨⟨.none, he⟩, hit, ⟨_, hk _ _ e, rfl, n, rfl⟩⟩, .of (tk := s.toks) hk, ?_, ?_, ?_, ?_⟩
  · rintro i vals hi ⟨tk, x, hx, rfl⟩
    refine ⟨tk, x, ?_, rfl⟩
    obtain ⟨d, hd, _⟩ := (hr default).get' (i := i) (v := x) (by simpa using hx)
    refine ⟨d, hd, fun h => ?_⟩
    obtain ⟨v', hv', r'⟩ := (hr h).get hd
    have : v' = x := by rw [show vs[i]? = some x by simpa using hx] at hv'; cases hv'; rfl
    exact this ▸ r'
  · intro b hb
    simp only [List.mem_cons, List.not_mem_nil, or_false] at hb
    rcases hb with rfl | rfl | rfl
    · exact .inl (by simp)
    · exact .inl (by simp)
    · exact .inr ⟨hmu, _, e, trivial⟩
  · intro b hb
    simp only [List.mem_cons, List.not_mem_nil, or_false] at hb
    rcases hb with rfl | rfl
    · exact Nat.le_succ _
    · exact Nat.le_refl _
  · rintro i h ⟨⟨old, h1⟩, h2, _⟩ b hb
    simp only [List.mem_cons, List.not_mem_nil, or_false] at hb
    rcases hb with rfl | rfl
    · exact iobj_enum h1
    · exact iobj_tupIter h2
  · rintro i T h ⟨⟨x, h1⟩, ⟨h2, _⟩, _⟩ b hb
    simp only [List.mem_cons, List.not_mem_nil, or_false] at hb
    rcases hb with rfl | rfl
    · exact iobj_enumOut h1
    · exact iobj_tupIter h2
/-- enumerate over a plain text -/
theorem Enb.str {l : List Nat} (hh : A.handled = none) (ha : ∀ c ∈ l, c < 128) : Enb X A (Sd l) (l.map fun c => Sd [c]) := fun s v E Q G r hQ => by
  obtain ⟨t, rfl⟩ := r.strE
  have hty : strIterType (S l) = "str_ascii_iterator" := by
    unfold strIterType
    rw [if_pos]
    rw [← Array.all_toList]
    exact List.all_eq_true.mpr fun c hc => decide_eq_true (ha c hc)
  refine call_enumerate_str fun h' he hit hz hk => ?_
  rw [hty] at hit
  have D := Draws.strAscii (prog := X.prog) (w := X.w) (A := A.in1) hh s.heap.objs.size (S l) t
  have W := WalksT.enumerateD D (s.heap.objs.size + 1) (Nat.succ_ne_self _) (by simp) (by simp)
  rw [show (S l).cps.size = (l.map fun c => Sd [c]).length by simp] at W
  refine hQ _ _ _ _ _ _ ⟨WalksT.weaken W ?_, ⟨⟨.none, he⟩, hit⟩, .of (tk := s.toks) hk, ?_, ?_, ?_, ?_⟩
  · rintro i vals hi ⟨tk, x, ⟨c, u, hc, rfl⟩, rfl⟩
    refine ⟨tk, _, ⟨Sd [c], ?_, fun h => .str ..⟩, rfl⟩
    have hc' : l[i]? = some c := by simpa using hc
    rw [List.getElem?_map, hc']; rfl
  · intro b hb
    simp only [List.mem_cons, List.not_mem_nil, or_false] at hb
    rcases hb with rfl | rfl
    · exact .inl (by simp)
    · exact .inl (by simp)
  · intro b hb
    simp only [List.mem_cons, List.not_mem_nil, or_false] at hb
    rcases hb with rfl | rfl
    · exact Nat.le_succ _
    · exact Nat.le_refl _
  · rintro i h ⟨⟨old, h1⟩, h2⟩ b hb
    simp only [List.mem_cons, List.not_mem_nil, or_false] at hb
    rcases hb with rfl | rfl
    · exact iobj_enum h1
    · exact iobj_strIter h2
  · rintro i T h ⟨⟨x, h1⟩, h2, _⟩ b hb
    simp only [List.mem_cons, List.not_mem_nil, or_false] at hb
    rcases hb with rfl | rfl
    · exact iobj_enumOut h1
    · exact iobj_strIter h2

theorem Es.forEnum {xi xv : Str} {pi pv tp pn cpos pos : Pos} {k : Nat} {ex : Expr} {body orelse : List Stmt} {d : D} {ds : List D} (F : Fm X s₀ env) (hh : A.handled = none)
    (hk : env.kindOf "enumerate" = some .globalImplicit) (hk0 : nsIn X.K mainGlobals "enumerate" = some none) (hse : starEach [ex] env = [(false, eval ex env)])
    (hit : Ev X A s₀ env ρ ex d) (hI : Enb X A d ds) (hxi : env.kindOf xi = some .local) (hxv : env.kindOf xv = some .local)
    (Inv : Nat → (Str → Option D) → Prop) (h0 : Inv 0 ρ)
    (hb : ∀ i d ρ', ds[i]? = some d → Inv i ρ' → Ex X A s₀ env (upd (upd ρ' xi (.int i)) xv d) body (fun o => match o with | .next ρ'' => Inv (i + 1) ρ'' | .cont ρ'' => Inv (i + 1) ρ'' | .brk ρ'' => K (.next ρ'') | .ret d => K (.ret d)))
    (he : ∀ ρ', Inv ds.length ρ' → Ex X A s₀ env ρ' orelse K)
    (hs : ∀ v, foldedSetIterable (.Call (.Name "enumerate" pn) [ex] [] cpos) env v = pure v) (hmu : ∀ b, X.mu b → ∀ s, St X s₀ env ρ s → b < s.heap.objs.size) :
    Es X A s₀ env ρ (.For (.Tuple [.Name xi pi, .Name xv pv] k tp) (.Call (.Name "enumerate" pn) [ex] [] cpos) body orelse pos) K := fun s E S => by
  refine wpAny_For (evalCallB1 F S hk hk0 rfl (by decide) rfl (.inr ⟨_, rfl⟩) hse fun sa ga Sa => wpAny_mono (hit sa E Sa) (fun v s1 q1 => ?_) fun _ _ x => x) hs
  obtain ⟨gb, r1⟩ := q1
  have g1 : Grow X s s1 := ga.trans gb
  have S1 := S.grown F g1
  refine hI s1 v E _ S1.gs r1 fun I fp wr SI Mid s2 W => W.w.self 0 _ _ _ W.st ?_
  have S2 := S1.grown F W.grow
  obtain ⟨m1, hn1, _⟩ := S1.loc
  have sz : s₀.heap.objs.size ≤ s1.heap.objs.size := Nat.le_of_lt (Nat.lt_of_le_of_lt F.above hn1.lt)
  have hw : ∀ b ∈ wr, s₀.heap.objs.size ≤ b := fun b hb => Nat.le_trans sz (W.new b hb)
  have low : ∀ b o, s1.heap.get? b = some o → b ∉ wr := fun b o e hm => absurd (Heap.lt_size e) (Nat.not_lt.mpr (W.new b hm))
  have wP : ∀ b ∈ wr, b ≠ X.P := fun b hb e => absurd S1.gs.tab.lt.2 (Nat.not_lt.mpr (e ▸ W.new b hb))
  have wmu : ∀ b ∈ wr, ¬ X.mu b := fun b hb hm => absurd (hmu b hm s1 S1) (Nat.not_lt.mpr (W.new b hb))
  have step : ∀ {s' : Shared} {h1 : Heap} {tk1 : Nat}, Mv X s1 s' → (∀ b o, b ∉ wr → s'.heap.get? b = some o → h1.get? b = some o) → Mv X s1 { s' with heap := h1, toks := tk1 } :=
    fun mv hk1 => ⟨fun b o h1' h2' h3' e => hk1 b o (low b o e) (mv.keep b o h1' h2' h3' e)⟩
  refine codeAny_forLoop_any (fun k s' => ∃ i ρ', Inv i ρ' ∧ St X s₀ env ρ' s' ∧ SI i s'.heap ∧ i ≤ ds.length ∧ k = ds.length + 1 - i ∧ Mv X s1 s') ?_ (ds.length + 1)
    ⟨0, ρ, h0, S2, W.st, Nat.zero_le _, rfl, W.grow.mv⟩
  rintro k s' ⟨i, ρ', hinv, S', si, hi, rfl, mv⟩
  by_cases hlt : i < ds.length
  · refine W.w.item i s' _ _ hlt si fun T vals h1 tk1 hp hT ht mid hk1 => ?_
    obtain ⟨tk, v, ⟨d', hd', rv⟩, rfl⟩ := hp
    have S3 : St X s₀ env ρ' { s' with heap := h1, toks := tk1 } := S'.iter F hw (W.io i _ si) hk1
    have mv3 := step (tk1 := tk1) mv hk1
    refine W.w.go _ _ _ i T _ _ _ mid fun h2 si2 hk2 => ?_
    have S4 : St X s₀ env ρ' { s' with heap := h2, toks := tk1 } := St.iter (s := { s' with heap := h1, toks := tk1 }) (h' := h2) (tk := tk1) F S3 hw (W.ioM i T _ mid) hk2
    have mv4 : Mv X s1 { s' with heap := h2, toks := tk1 } := step (s' := { s' with heap := h1, toks := tk1 }) (h1 := h2) (tk1 := tk1) mv3 hk2
    have ht2 : h2.IsTuple T #[.int i tk, v] := by
      obtain ⟨o, ho, r⟩ := ht
      exact ⟨o, hk2 T o (W.w.apart i T _ mid) ho, r⟩
    refine wpAny_assign_Tuple hh ht2 rfl rfl fun h3 hx3 => ?_
    have kk : ∀ b o, h2.get? b = some o → h3.get? b = some o := fun b o e => hx3 b o (Nat.ne_of_lt (Heap.lt_size e)) e
    have g5 : Grow X { s' with heap := h2, toks := tk1 } { s' with heap := h3, toks := tk1 } := Grow.of kk
    have S5 := S4.grown F g5
    have si5 : SI (i + 1) h3 := W.w.frame _ _ _ si2 fun b _ o e => kk b o e
    show wpAny X.M A (do holding [v] (assign (.Name xi pi) env (.int i tk)); do holding [] (assign (.Name xv pv) env v); pure ()) _ _ _
    refine wpAny_bind (wpAny_holding (wpAny_assign_Name (store_local F S5 hxi (.int ..) fun s6 S6 m6 => ?_)))
    refine wpAny_bind (wpAny_holding (wpAny_assign_Name (store_local F S6 hxv (rv _) fun s7 S7 m7 => wpAny_pure ?_)))
    have mv7 : Mv X { s' with heap := h3, toks := tk1 } s7 := m6.trans m7
    refine wpAny_mono (hb i d' ρ' hd' hinv s7 _ S7) (fun f s8 q8 => ?_) fun _ _ x => x
    have fin : ∀ ρ'', St X s₀ env ρ'' s8 → Mv X s7 s8 → Inv (i + 1) ρ'' → ∃ m, m < ds.length + 1 - i ∧ ∃ i' ρ', Inv i' ρ' ∧ St X s₀ env ρ' s8 ∧ SI i' s8.heap ∧ i' ≤ ds.length ∧ m = ds.length + 1 - i' ∧ Mv X s1 s8 := fun ρ'' S8 mv8 hinv' => by
      refine ⟨ds.length + 1 - (i + 1), by omega, i + 1, ρ'', hinv', S8, ?_, hlt, rfl, mv4.trans (g5.mv.trans (mv7.trans mv8))⟩
      refine W.w.frame (i + 1) h3 s8.heap si5 fun b hb o e => ?_
      rcases W.old b hb with q | ⟨hm, o', ho', hv⟩
      · obtain ⟨o', ho', hio⟩ := W.io _ _ si5 b q
        rw [e] at ho'; cases ho'
        exact (mv7.trans mv8).keep b o (wP b q) (wmu b q) (by obtain ⟨⟨fs, z⟩, _⟩ := hio; unfold Still; rw [z]; trivial) e
      · have hP : b ≠ X.P := by
          rintro rfl
          obtain ⟨ps, e'⟩ := S1.gs.tab.P
          rw [e'] at ho'; cases ho'; cases hv
        have hst : Still o' := still_val hv
        have e' : h3.get? b = some o' := (mv4.trans g5.mv).keep b o' hP hm hst ho'
        rw [e] at e'; cases e'
        exact (mv7.trans mv8).keep b o hP hm hst e
    cases f with
    | next => obtain ⟨ρ'', k', S8, mv8⟩ := q8; exact fin ρ'' S8 mv8 k'
    | cont => obtain ⟨ρ'', k', S8, mv8⟩ := q8; exact fin ρ'' S8 mv8 k'
    | brk => obtain ⟨ρ'', k', S8, mv8⟩ := q8; exact ⟨ρ'', k', S8, g1.mv.trans (mv4.trans (g5.mv.trans (mv7.trans mv8)))⟩
    | ret v => exact q8
  · have hin : i = ds.length := by omega
    subst hin
    refine W.w.done s' _ _ si fun h1 tk1 hk1 => ?_
    have S3 : St X s₀ env ρ' { s' with heap := h1, toks := tk1 } := S'.iter F hw (W.io _ _ si) hk1
    exact wpAny_mono (he ρ' hinv _ _ S3) (fun f s5 q5 => q5.mono (g1.mv.trans (step mv hk1)) fun _ k => k) fun _ _ x => x
end
end Mine
end L12

section L13
open PySem PySem.W PyProof.Rows
open AutoSeq1 (wpAny_loadPart')
namespace Mine

namespace Mp
theorem owner_map : Manifest.owners.lookup (String.ofList ['p', 'a', 'm'].reverse) = some Manifest.sig_map := by kernel_rfl
theorem slot_init : Slot "map" "__init__" "object.__init__" :=
  .of (owner := "object") (n := "__init__") (by rw [typeLookup_type, builtinLookup_eq_fast]; kernel_rfl) (by decide +kernel) (by decide +kernel) (by decide +kernel)
    (by first | exact .inl (by decide +kernel) | exact .inr (by decide +kernel)) (by rw [isSubtype_type]; kernel_rfl)
theorem slot_next : Slot "map" "__next__" "map.__next__" :=
  .of (owner := "map") (n := "__next__") (by rw [typeLookup_type, builtinLookup_eq_fast]; kernel_rfl) (by decide +kernel) (by decide +kernel) (by decide +kernel)
    (by first | exact .inl (by decide +kernel) | exact .inr (by decide +kernel)) (by rw [isSubtype_type]; kernel_rfl)
theorem slot_iter : Slot "map" "__iter__" "map.__iter__" :=
  .of (owner := "map") (n := "__iter__") (by rw [typeLookup_type, builtinLookup_eq_fast]; kernel_rfl) (by decide +kernel) (by decide +kernel) (by decide +kernel)
    (by first | exact .inl (by decide +kernel) | exact .inr (by decide +kernel)) (by rw [isSubtype_type]; kernel_rfl)
theorem entry_next : entryFor table "map.__next__" = some Builtin.«map.__next__» := entryFor_of_tree (by kernel_rfl)
theorem entry_iter : entryFor table "map.__iter__" = some Builtin.«dict_keyiterator.__iter__» :=
  entryFor_alias (id' := "dict_keyiterator.__iter__") (by kernel_rfl) (by first | rfl | decide +kernel | (unfold String.splitOn; simp +decide [String.splitOnAux])) (by decide +kernel) (by kernel_rfl)
theorem args_next (a : Value) : argsOk "map.__next__" ⟨[a], []⟩ := by
  unfold argsOk; rw [signature?_of (id := "map.__next__") (n := ['_', '_', 't', 'x', 'e', 'n', '_', '_']) (o := ['p', 'a', 'm']) (by kernel_rfl) owner_map]; kernel_rfl
theorem args_iter (a : Value) : argsOk "map.__iter__" ⟨[a], []⟩ := by
  unfold argsOk; rw [signature?_of (id := "map.__iter__") (n := ['_', '_', 'r', 'e', 't', 'i', '_', '_']) (o := ['p', 'a', 'm']) (by kernel_rfl) owner_map]; kernel_rfl
theorem mro : mroOf (.type "map") = pure [.type "map", .type "object"] := by rw [mroOf_type]; kernel_rfl
theorem lookup_new : typeLookup (.type "map") "__new__" = pure (some (.builtin "map.__new__")) := by rw [typeLookup_type, builtinLookup_eq_fast]; kernel_rfl
theorem called : TypeCalled "map" "map.__new__" "object.__init__" :=
  ⟨by decide +kernel, by decide +kernel, ⟨_, _, mro⟩, madeBy_type mro lookup_new (by decide +kernel), by decide +kernel, by rw [isSubtype_type]; kernel_rfl, slot_init⟩
theorem typeCall (a b : Value) : checkTypeCall "map" ⟨[a, b], []⟩ = pure () := by kernel_rfl
theorem newCall (a b : Value) : checkBuiltinCall "map.__new__" ⟨[.type "map", a, b], []⟩ = pure () := by kernel_rfl
theorem entry_new : entryFor table "map.__new__" = some Builtin.«map.__new__» := entryFor_of_tree (by kernel_rfl)
theorem sub_map : isSubtype (.type "map") (.type "map") = pure true := by rw [isSubtype_type]; kernel_rfl
theorem no_len : typeLookup (.type "map") "__len__" = pure none := by rw [typeLookup_type, builtinLookup_eq_fast]; kernel_rfl
theorem no_hint : typeLookup (.type "map") "__length_hint__" = pure none := by rw [typeLookup_type, builtinLookup_eq_fast]; kernel_rfl
end Mp

noncomputable abbrev mapH1 (h : Heap) (t : Addr) : Heap := h.push { cls := .type "tuple_iterator", data := .fields #[.ref t, .int 0 0] }
noncomputable abbrev mapH2 (h : Heap) (t : Addr) : Heap := (mapH1 h t).push { cls := .type "tuple", data := .seq #[.ref h.objs.size] }
noncomputable abbrev mapH3 (h : Heap) (t : Addr) (f : Value) : Heap := (mapH2 h t).push { cls := .type "map", data := .fields #[.ref (mapH1 h t).objs.size, f] }

set_option maxHeartbeats 1000000 in
theorem meets_map_new (f : Value) (t : Addr) (items : Array Value) :
    Meets (Builtin.«map.__new__» ⟨[.type "map", f, .ref t], []⟩) (fun _ R s => s.heap.IsTuple t items ∧
      R (.ok (.ret (.ref (mapH2 s.heap t).objs.size))) { s with heap := mapH3 s.heap t f }) :=
  .of_wp fun prog w A R s h => by
    obtain ⟨hp, g, d, tk, os⟩ := s; obtain ⟨hl, h⟩ := h
    have hsub := Mp.sub_map
    have hL : Heap.IsTuple (Shared.heap ⟨hp, g, d, tk, os⟩) t items := hl
    wp_walk using wpAny_pyIter_tuple hL
    exact ⟨_, rfl, h⟩
end Mine
end L13

section L14
open PySem PySem.W PyProof.Rows
namespace Mine

abbrev MapAt (h : Heap) (M TI it : Addr) (f : Value) : Prop :=
  h.get? M = some { cls := .type "map", data := .fields #[.ref TI, f] } ∧ h.get? TI = some { cls := .type "tuple", data := .seq #[.ref it] }

section
variable {X : Cx} {A : Around}

noncomputable def quietCx (X : Cx) : Cx := { X with q := true }
theorem Gs.quietly {s : Shared} (G : Gs X s) : Gs (quietCx X) s := ⟨⟨G.gd.k, G.gd.kP, G.gd.g, G.gd.b, G.gd.lim, G.gd.dig, G.gd.p0, G.gd.bm⟩, G.tab, fun e => nomatch e⟩

theorem Walks.map {hb : Heap} {M TI it t : Addr} {f : Value} {vs : List Value} {ds rs : List D} (hh : A.handled = none) (hM : hb.objs.size ≤ M) (hTI : hb.objs.size ≤ TI) (hit : hb.objs.size ≤ it) (hMi : M ≠ it) (hTi : TI ≠ it)
    (hG : Gd X hb) (hT : Tab X hb) (htup : hb.IsTuple t vs.toArray) (hr : Reps hb vs ds) (hlen : ds.length = rs.length) (hflat : ∀ d ∈ rs, d.flat = true)
    (hf : ∀ (i : Nat) (d r : D), ds[i]? = some d → rs[i]? = some r → Fc (quietCx X) A.in1 f [d] r) :
    Walks X.prog X.w A M (it :: TI :: M :: List.range hb.objs.size) [it] ds.length (PI rs) (fun i h => (∀ b o, hb.get? b = some o → h.get? b = some o) ∧ MapAt h M TI it f ∧ h.IsTupleIter it t i) where
  sub := fun b hb => by simp at hb; simp [hb]
  frame := fun i h h' st hk => by
    obtain ⟨k, ⟨m1, m2⟩, hi⟩ := st
    refine ⟨fun b o e => hk b (by simp only [List.mem_cons, List.mem_range]; exact .inr (.inr (.inr (Heap.lt_size e)))) o (k b o e), ⟨hk M (by simp) _ m1, hk TI (by simp) _ m2⟩, hi.at fun o e => hk it (by simp) o e⟩
  item := fun i s Q E hi st hQ => by
    obtain ⟨k, ⟨m1, m2⟩, hit'⟩ := st
    have hTy : s.TypeIs (.ref M) "map" := ⟨_, m1, rfl⟩
    have htup' : s.heap.IsTuple t vs.toArray := by obtain ⟨o, ho, r⟩ := htup; exact ⟨o, k _ _ ho, r⟩
    have hiv : i < vs.length := by rw [hr.length]; exact hi
    have hne : ∀ b o, hb.get? b = some o → b ≠ it := fun b o e h => absurd (Heap.lt_size e) (Nat.not_lt.mpr (h ▸ hit))
    obtain ⟨d, hd, rd⟩ := hr.get' (i := i) (v := vs[i]) (List.getElem?_eq_getElem hiv)
    have hri : rs[i]? = some rs[i] := List.getElem?_eq_getElem (hlen ▸ hi)
    unfold pyNext
    refine wpAny_bind (wpAny_attempt (wpAny_callSpecial?_slot (name := Str.ofString "__next__") hTy Mp.slot_next
      (wpAny_call_entry Mp.slot_next hTy Mp.entry_next ?_ (Mp.args_next _))))
    show wpAny _ _ (field (.ref M) 0 >>= _) _ _ s
    refine wpAny_bind (wpAny_field m1 rfl (x := .ref TI) rfl ?_)
    refine wpAny_bind (wpAny_seqItems m2 rfl ?_)
    show wpAny _ A.in1 ((forIn #[Value.ref it] #[] fun it r => _) >>= _) _ _ s
    simp only [List.forIn_toArray, List.forIn_cons, List.forIn_nil]
    refine wpAny_bind (wpAny_bind (wpAny_bind (wpAny_holding (nextOf_tuple_item hit' htup' (x := vs[i]) (by simp [hiv]) fun h1 hi1 hs1 => wpAny_pure (wpAny_pure ?_)))))
    show wpAny _ A.in1 (field (.ref M) 1 >>= _) _ _ _
    have m1' : h1.get? M = some _ := (hs1.2 _ hMi).trans m1
    refine wpAny_bind (wpAny_field m1' rfl (x := f) rfl ?_)
    have k1 : ∀ b o, hb.get? b = some o → h1.get? b = some o := fun b o e => (hs1.2 b (hne b o e)).trans (k b o e)
    have G1 : Gs (quietCx X) { s with heap := h1 } := ⟨(Gd.keep (X := quietCx X) (h := hb) ⟨hG.k, hG.kP, hG.g, hG.b, hG.lim, hG.dig, hG.p0, hG.bm⟩ fun b o _ e => k1 b o e), Tab.keeps (X := quietCx X) hT k1, fun e => nomatch e⟩
    refine wpAny_bind (wpAny_holding (wpAny_mono (hf i d rs[i] hd hri _ [vs[i]] _ G1 (.cons (rd.keepV fun b o _ e => k1 b o e) .nil)) (fun v s2 q2 => ?_) fun _ _ x => x))
    obtain ⟨g2, r2⟩ := q2
    obtain ⟨h2, tk2, rfl, k2⟩ := g2.quiet rfl
    refine wpAny_bind (wpAny_letGo (wpAny_pure ⟨v, rfl, wpAny_pure ?_⟩))
    have hrf : (rs[i]'(hlen ▸ hi)).flat = true := hflat _ (List.getElem_mem _)
    refine hQ v h2 tk2 ⟨_, hri, fun h => r2.flat hrf⟩ ⟨fun b o e => k2 b o (k1 b o e), ⟨k2 _ _ m1', k2 _ _ ((hs1.2 _ hTi).trans m2)⟩, hi1.at fun o e => k2 _ o e⟩ ?_
    intro b o hb' e
    exact k2 b o ((hs1.2 b (by simpa using hb')).trans e)
  done := fun s Q E st hQ => by
    obtain ⟨k, ⟨m1, m2⟩, hit'⟩ := st
    have hTy : s.TypeIs (.ref M) "map" := ⟨_, m1, rfl⟩
    have htup' : s.heap.IsTuple t vs.toArray := by obtain ⟨o, ho, r⟩ := htup; exact ⟨o, k _ _ ho, r⟩
    unfold pyNext
    refine wpAny_bind (wpAny_attempt (wpAny_callSpecial?_slot (name := Str.ofString "__next__") hTy Mp.slot_next
      (wpAny_call_entry Mp.slot_next hTy Mp.entry_next ?_ (Mp.args_next _))))
    show wpAny _ _ (field (.ref M) 0 >>= _) _ _ s
    refine wpAny_bind (wpAny_field m1 rfl (x := .ref TI) rfl ?_)
    refine wpAny_bind (wpAny_seqItems m2 rfl ?_)
    show wpAny _ A.in1 ((forIn #[Value.ref it] #[] fun it r => _) >>= _) _ _ s
    simp only [List.forIn_toArray, List.forIn_cons, List.forIn_nil]
    refine wpAny_bind (wpAny_bind (wpAny_bind (wpAny_holding (nextOf_tuple_end hh hit' htup' (by simp [hr.length]) fun h1 e hs1 he => ?_))))
    obtain ⟨o, ho, hc⟩ := he
    refine wpAny_bind (wpAny_isInstance (T := "StopIteration") (b := true) ⟨o, ho, hc⟩ isSubtype_stop ?_)
    exact wpAny_pure (hQ h1 s.toks fun b o hb' e => hs1 b o (by simpa using hb') e)
  self := fun i s Q E st hQ => by
    obtain ⟨k, ⟨m1, m2⟩, hit'⟩ := st
    have hTy : s.TypeIs (.ref M) "map" := ⟨_, m1, rfl⟩
    refine wpAny_pyIter_slot hTy Mp.slot_iter (wpAny_call_entry Mp.slot_iter hTy Mp.entry_iter ?_ (Mp.args_iter _))
    show wpAny _ _ (ret (.ref M)) _ _ s
    exact wpAny_pure ⟨_, rfl, "map", _, hTy, Mp.slot_next.lookup, hQ⟩

/-- a map object as made -/
theorem call_map {s : Shared} {f : Value} {t : Addr} {vs : List Value} {n : Nat} {Q : Value → Shared → Prop} {E : Value → Shared → Prop} (ht : s.heap.get? t = some (tobj vs n))
    (h : ∀ h', MapAt h' (s.heap.objs.size + 2) (s.heap.objs.size + 1) s.heap.objs.size f → h'.IsTupleIter s.heap.objs.size t 0 → h'.objs.size = s.heap.objs.size + 3 → (∀ b o, s.heap.get? b = some o → h'.get? b = some o) → Q (.ref (s.heap.objs.size + 2)) { s with heap := h' }) :
    wpAny X.M A (call (.type "map") [f, .ref t]) Q E s := by
  refine callType_new Mp.called (by decide) (Mp.typeCall _ _) (Mp.newCall _ _) (fun obj => PySem.F.args_object_init_3 obj _ _) Mp.entry_new
    (meets_map_new f t vs.toArray) ⟨⟨_, ht, rfl, n, rfl⟩, ?_⟩
  have z1 : (mapH1 s.heap t).objs.size = s.heap.objs.size + 1 := Heap.size_push ..
  have z2 : (mapH2 s.heap t).objs.size = s.heap.objs.size + 2 := by rw [Heap.size_push, z1]
  have z3 : (mapH3 s.heap t f).objs.size = s.heap.objs.size + 3 := by rw [Heap.size_push, z2]
  have g3 : (mapH3 s.heap t f).get? (mapH2 s.heap t).objs.size = some _ := Heap.get?_push_size _ rfl
  have g2 : (mapH3 s.heap t f).get? (mapH1 s.heap t).objs.size = some _ := Heap.get?_push_of_some _ (Heap.get?_push_size _ rfl)
  have g1 : (mapH3 s.heap t f).get? s.heap.objs.size = some _ := Heap.get?_push_of_some _ (Heap.get?_push_of_some _ (Heap.get?_push_size _ rfl))
  show _ ∧ _
  rw [z1, z2] at g3
  rw [z1] at g2
  rw [z2]
  exact ⟨⟨_, g3, rfl⟩, h _ ⟨g3, g2⟩ ⟨_, g1, rfl, rfl⟩ z3 fun c o x => Heap.get?_push_of_some _ (Heap.get?_push_of_some _ (Heap.get?_push_of_some _ x))⟩
end

section
variable {prog : Program} {w : World} {A : Around} {E : Value → Shared → Prop} {s : Shared} {I : Addr} {fp wr : List Addr} {G : Array GenState → Array GenState → Prop} {n : Nat} {P : Nat → Value → Prop} {St : Nat → Shared → Prop}
theorem collect_map {Q : List Value → Shared → Prop} (W : WalksS prog w A.in1 I fp wr G n P St) (hT : ∀ i s, St i s → s.TypeIs (.ref I) "map") (hst : St 0 s) (hfp : ∀ b ∈ fp, b < s.heap.objs.size) (hI : I ∈ fp)
    (hQ : ∀ s' acc, Moved wr G s s' → ItemsOf P acc n → Q acc.toList s') (hn : n ≤ sizeLine) : wpAny (model prog w) A (collect (.ref I)) Q E s := by
  have hSf : s.heap.objs.size ∉ fp := fun hm => Nat.lt_irrefl _ (hfp _ hm)
  have hSI : s.heap.objs.size ≠ I := fun e => hSf (e ▸ hI)
  unfold collect
  refine wpAny_bind (wpAny_runValue (codeAny_builtin PySem.F.entry_proto_collect ?_))
  rw [Around.under_plainId PySem.F.plain_proto_collect _]
  show wpAny _ A.in1 (newList [] >>= fun l => again (.builtin "list.__iadd__" ⟨[l, .ref I], []⟩)) _ _ s
  refine wpAny_bind (wpAny_newObj_type ?_)
  refine wpAny_pure ⟨plainId_quiet PySem.F.plain_list_iadd _, codeAny_builtin PySem.F.entry_list_iadd ?_⟩
  rw [Around.under_plainId PySem.F.plain_list_iadd _]
  have hst₁ := W.frame 0 s (s.heap.push { cls := .type "list", data := .seq ([] : List Value).toArray }) s.toks hst (Nat.le_refl _) fun b _ o e => Heap.get?_push_of_some _ e
  show wpAny _ A.in1 (Builtin.List.listExtendWith (.ref s.heap.objs.size) (.ref I) (.ref s.heap.objs.size)) _ _ _
  unfold Builtin.List.listExtendWith
  refine wpAny_bind (wpAny_typeOf (hT 0 _ hst₁) ?_)
  have h1 : Builtin.List.listSameRef (.ref s.heap.objs.size) (.ref I) = false := by simp [Builtin.List.listSameRef, hSI]
  have h2 : (Value.type "map" == Value.type "list") = false := by decide
  have h3 : (Value.type "map" == Value.type "tuple") = false := by decide
  simp only [h1, h2, h3, Bool.or_false, Bool.false_eq_true, if_false]
  refine wpAny_bind (W.self 0 _ _ _ hst₁ ?_)
  refine wpAny_bind (wpAny_holding ?_)
  unfold Builtin.List.listLengthHint
  refine wpAny_bind (wpAny_specialOf (hT 0 _ hst₁) Mp.no_len ?_)
  show wpAny _ A.in1 (specialOf (Value.ref I) (Str.ofString "__length_hint__") >>= _) _ _ _
  refine wpAny_bind (wpAny_specialOf (hT 0 _ hst₁) Mp.no_hint ?_)
  refine wpAny_pure ?_
  show wpAny _ A.in1 (rule "list.extend.makes-room" >>= fun _ => Builtin.List.listTouch (.ref s.heap.objs.size) >>= fun _ =>
    again (.builtin "list.extend.loop" ⟨[.ref s.heap.objs.size, .ref I, .ref s.heap.objs.size], []⟩)) _ _ _
  refine wpAny_bind (wpAny_rule ?_)
  have hS₁ : (s.heap.push { cls := .type "list", data := .seq ([] : List Value).toArray }).get? s.heap.objs.size = some { cls := .type "list", data := .seq ([] : List Value).toArray } := Heap.get?_push_size _ rfl
  refine wpAny_bind ?_
  show wpAny _ A.in1 (updateSeq s.heap.objs.size (·.push .none) >>= fun _ => updateSeq s.heap.objs.size (·.pop)) _ _ _
  refine wpAny_bind (wpAny_updateSeq hS₁ rfl ?_)
  have hS₂ := Heap.get?_update_self (Obj.mapSeq (·.push Value.none)) hS₁ rfl
  refine wpAny_updateSeq hS₂ rfl ?_
  have hS₃ := Heap.get?_update_self (Obj.mapSeq (·.pop)) hS₂ rfl
  have oth : ∀ b o, b ≠ s.heap.objs.size → (s.heap.push { cls := .type "list", data := .seq ([] : List Value).toArray }).get? b = some o →
      (((s.heap.push { cls := .type "list", data := .seq ([] : List Value).toArray }).update s.heap.objs.size (Obj.mapSeq (·.push Value.none))).update s.heap.objs.size (Obj.mapSeq (·.pop))).get? b = some o :=
    fun b o hb e => (Heap.get?_update_other _ _ (Ne.symm hb)).trans ((Heap.get?_update_other _ _ (Ne.symm hb)).trans e)
  refine wpAny_pure ⟨plainId_quiet PySem.F.plain_extend_loop _, codeAny_extend_loopS W hn _ hSf _ n 0 _ _ _ rfl (Nat.zero_le _)
    (W.frame 0 ({ s with heap := s.heap.push { cls := .type "list", data := .seq ([] : List Value).toArray } } : Shared) _ s.toks hst₁ (Nat.le_refl _) fun b hb o e => oth b o (fun h => hSf (h ▸ hb)) e) hS₃ (ItemsOf.nil P) fun s' acc' c' hm hS' hacc => ?_⟩
  show wpAny _ A (load s.heap.objs.size >>= _) _ _ s'
  refine wpAny_bind (wpAny_load hS' ?_)
  refine wpAny_pure (hQ s' acc' (Moved.drop_new (o := { cls := .type "list", data := .seq ([] : List Value).toArray }) (tk := s.toks) (Moved.trans W.gtrans ((Moved.refl W.grefl).then_heap (by first | exact Nat.le_refl _ | exact Nat.le_succ _ | omega) fun b o hb e => ?_) hm) (Nat.le_refl _)) hacc)
  exact oth b o (fun h => hb (h ▸ List.mem_cons_self ..)) e
theorem code_tuple_new_map {Q₁ : Value → Shared → Prop} (W : WalksS prog w A.in1.in1 I fp wr G n P St) (hT : ∀ i s, St i s → s.TypeIs (.ref I) "map") (hst : St 0 s) (hfp : ∀ b ∈ fp, b < s.heap.objs.size) (hI : I ∈ fp)
    (h : ∀ s' acc, Moved wr G s s' → ItemsOf P acc n → Q₁ (.ref s'.heap.objs.size) { s' with heap := s'.heap.push { cls := .type "tuple", data := .seq acc } }) (hsz : n ≤ sizeLine) :
    codeAny (model prog w) A (.call (.builtin "tuple.__new__") ⟨[.type "tuple", .ref I], []⟩) (wants Q₁ E) s := by
  refine codeAny_of_tree ?_
  show wpAny _ A.in1 (do checkBuiltinCall "tuple.__new__" ⟨[.type "tuple", .ref I], []⟩; again (.builtin "tuple.__new__" ⟨[.type "tuple", .ref I], []⟩)) _ _ s
  refine wpAny_bind (wpAny_of_eq (PySem.F.newCall_tuple_1 _) (wpAny_pure ⟨plainId_quiet PySem.F.plain_tuple_new _, codeAny_builtin PySem.F.entry_tuple_new ?_⟩))
  rw [Around.under_plainId PySem.F.plain_tuple_new _]
  have hsub := sub_tuple_self
  have hinit := init_tuple_lookup
  have hmh := madeHere_tuple
  have hTI := hT 0 s hst
  wp_walk using wpAny_typeOf hTI, collect_map (hn := hsz) W hT hst hfp hI
  intro s' acc hm hacc
  show wpAny _ _ (Builtin.Tuple.tupleExact acc.toList.toArray >>= fun v => ret v) _ _ _
  unfold Builtin.Tuple.tupleExact
  refine wpAny_bind (wpAny_newObj_type ?_ (by show acc.toList.toArray.size ≤ sizeLine; simp only [Array.toArray_toList]; rw [hacc.1]; exact hsz))
  refine wpAny_pure ?_
  have e : acc.toList.toArray = acc := by simp
  rw [e]
  exact h s' acc hm hacc
theorem call_tuple_map {Q : Value → Shared → Prop} (W : WalksS prog w A.in1.in1.in1 I fp wr G n P St) (hT : ∀ i s, St i s → s.TypeIs (.ref I) "map") (hst : St 0 s) (hfp : ∀ b ∈ fp, b < s.heap.objs.size) (hI : I ∈ fp)
    (hQ : ∀ s' acc, Moved wr G s s' → ItemsOf P acc n → Q (.ref s'.heap.objs.size) { s' with heap := s'.heap.push { cls := .type "tuple", data := .seq acc } }) (hsz : n ≤ sizeLine) :
    wpAny (model prog w) A (call (.type "tuple") [.ref I]) Q E s := by
  refine callType_codes (Q₁ := fun obj s₁ => s₁.TypeIs obj "tuple" ∧ Q obj s₁) PySem.F.called_tuple (PySem.F.typeCall_tuple_1 _) PySem.F.entry_object_init
    (code_tuple_new_map (hsz := hsz) W hT hst hfp hI fun s' acc hm hacc => ⟨⟨_, Heap.get?_push_size _ rfl, rfl⟩, hQ s' acc hm hacc⟩) fun obj s₁ h₁ => ?_
  exact ⟨h₁.1, PySem.F.args_object_init_2 obj _, object_init_meets PySem.F.called_tuple.init.lookup PySem.F.called_tuple.made (by decide) prog w A.in1 _ s₁ ⟨h₁.1, rfl, h₁.2⟩⟩
end
end Mine
end L14

section L15
open PySem PySem.W PyProof.Rows
namespace Mine

theorem ne_add2 (n : Nat) : n + 2 ≠ n := by omega
theorem ne_add1 (n : Nat) : n + 1 ≠ n := by omega
theorem lt_add3 {n b : Nat} (h : b = n ∨ b = n + 1 ∨ b = n + 2 ∨ b < n) : b < n + 3 := by omega
section
variable {X : Cx} {A : Around} {s₀ : Shared} {env : Env} {ρ : Str → Option D}

theorem reps_of_items {h : Heap} {rs : List D} {acc : Array Value} {n : Nat} (hn : n = rs.length) (hi : ItemsOf (PI rs) acc n) : Reps h acc.toList rs := by
  obtain ⟨h1, h2⟩ := hi
  have : ∀ (rs : List D) (l : List Value), l.length = rs.length → (∀ (j : Nat) v, l[j]? = some v → ∃ d, rs[j]? = some d ∧ ∀ h, Rep h v d) → Reps h l rs := by
    intro rs
    induction rs with
    | nil => intro l hl _; cases l with | nil => exact .nil | cons => simp at hl
    | cons r rs ih =>
      intro l hl hp
      cases l with
      | nil => simp at hl
      | cons v l =>
        obtain ⟨d, hd, rv⟩ := hp 0 v rfl
        simp at hd; subst hd
        exact .cons (rv h) (ih l (by simpa using hl) fun j v hv => by simpa using hp (j + 1) v (by simpa using hv))
  refine this rs acc.toList (by simp [h1, hn]) fun j v hv => h2 j v (by simpa using hv)

theorem moved_eq {wr : List Addr} {s s' : Shared} (m : Moved wr (fun a b => b = a) s s') : s' = { s with heap := s'.heap, toks := s'.toks } := by
  obtain ⟨_, g, d, o, _⟩ := m
  cases s; cases s'
  simp at g d o
  subst g d o
  rfl

theorem Ev.tupMap {p1 p2 p3 p4 : Pos} {fe ae : Expr} {fv : Value} {ds rs : List D} (F : Fm X s₀ env) (hh : A.handled = none)
    (hkt : env.kindOf "tuple" = some .globalImplicit) (hkt0 : nsIn X.K mainGlobals "tuple" = some none) (hkm : env.kindOf "map" = some .globalImplicit) (hkm0 : nsIn X.K mainGlobals "map" = some none)
    (hs1 : starEach [.Call (.Name "map" p2) [fe, ae] [] p3] env = [(false, eval (.Call (.Name "map" p2) [fe, ae] [] p3) env)]) (hs2 : starEach [fe, ae] env = (false, eval fe env) :: starEach [ae] env) (hs3 : (backTo p3 (starEach [ae] env)).any (·.1) = false)
    (hf : Evs X A s₀ env ρ p3 [fe, ae] [.val fv, .tup ds]) (hlen : ds.length = rs.length) (hsz : ds.length ≤ sizeLine) (hflat : ∀ d ∈ rs, d.flat = true)
    (hfc : ∀ (i : Nat) (d r : D), ds[i]? = some d → rs[i]? = some r → Fc (quietCx X) A.in1.in1.in1.in1 fv [d] r) :
    Ev X A s₀ env ρ (.Call (.Name "tuple" p1) [.Call (.Name "map" p2) [fe, ae] [] p3] [] p4) (.tup rs) := fun s E S => by
  refine evalCallB1 F S hkt hkt0 rfl (by decide) rfl (.inr ⟨_, rfl⟩) hs1 fun s1 g1 S1 => ?_
  refine evalCallB F S1 hkm hkm0 rfl (by decide) rfl (.inr ⟨_, rfl⟩) hs2 hs3 hf fun vs s2 g2 r2 => ?_
  obtain ⟨v1, v2, rfl, q1, q2⟩ := reps2 r2
  cases q1
  cases q2 with | tup e rs' =>
  rename_i t ws n
  have G2 := S1.gs.grow g2
  refine call_map e fun h3 m3 i3 z3 k3 => ?_
  have lt := Heap.lt_size e
  have W := Walks.map (A := A.in1.in1.in1) (X := X) (hb := s2.heap) (M := s2.heap.objs.size + 2) (TI := s2.heap.objs.size + 1) (it := s2.heap.objs.size) (t := t) (f := fv) (vs := ws) hh (Nat.le_add_right _ _) (Nat.le_add_right _ _) (Nat.le_refl _) (ne_add2 _) (ne_add1 _)
    G2.gd G2.tab ⟨_, e, rfl, n, rfl⟩ rs' hlen hflat hfc
  refine call_tuple_map W.toS (fun i s st => ⟨_, st.2.1.1, rfl⟩) ⟨k3, m3, i3⟩ ?_ (by simp) (fun s' acc hm hacc => ?_) hsz
  · intro b hb
    show b < h3.objs.size
    rw [z3]
    simp only [List.mem_cons, List.mem_range] at hb
    exact lt_add3 hb
  · have g3 : Grow X s2 { s2 with heap := h3 } := Grow.of (tk := s2.toks) k3
    have em := moved_eq hm
    rw [em]
    have g4 : Grow X s2 { s2 with heap := s'.heap, toks := s'.toks } := Grow.but (s := { s2 with heap := h3 }) g3 (wr := [s2.heap.objs.size]) G2 (fun b hb => by simp at hb; rw [hb]; exact Nat.le_refl _) fun b o hb e => hm.heap b o hb e
    refine ⟨g1.trans (g2.trans (g4.trans .push)), ?_⟩
    exact .tup (n := 0) (vs := acc.toList) (by rw [Heap.get?_push_size _ rfl]) (reps_of_items hlen hacc)

theorem Ev.maxMap {p1 p2 p3 p4 : Pos} {fe ae : Expr} {fv : Value} {ds : List D} {a b : Int} (F : Fm X s₀ env) (hh : A.handled = none)
    (hkt : env.kindOf "max" = some .globalImplicit) (hkt0 : nsIn X.K mainGlobals "max" = some none) (hkm : env.kindOf "map" = some .globalImplicit) (hkm0 : nsIn X.K mainGlobals "map" = some none)
    (hs1 : starEach [.Call (.Name "map" p2) [fe, ae] [] p3] env = [(false, eval (.Call (.Name "map" p2) [fe, ae] [] p3) env)]) (hs2 : starEach [fe, ae] env = (false, eval fe env) :: starEach [ae] env) (hs3 : (backTo p3 (starEach [ae] env)).any (·.1) = false)
    (hf : Evs X A s₀ env ρ p3 [fe, ae] [.val fv, .tup ds]) (hlen : ds.length = 2)
    (hfc : ∀ (i : Nat) (d r : D), ds[i]? = some d → [D.int a, D.int b][i]? = some r → Fc (quietCx X) A.in1.in1 fv [d] r) :
    Ev X A s₀ env ρ (.Call (.Name "max" p1) [.Call (.Name "map" p2) [fe, ae] [] p3] [] p4) (.int (max a b)) := fun s E S => by
  refine evalCallB1 F S hkt hkt0 rfl (by decide) rfl (.inl ⟨_, rfl⟩) hs1 fun s1 g1 S1 => ?_
  refine evalCallB F S1 hkm hkm0 rfl (by decide) rfl (.inr ⟨_, rfl⟩) hs2 hs3 hf fun vs s2 g2 r2 => ?_
  obtain ⟨v1, v2, rfl, q1, q2⟩ := reps2 r2
  cases q1
  cases q2 with | tup e rs' =>
  rename_i t ws n
  have G2 := S1.gs.grow g2
  refine call_map e fun h3 m3 i3 z3 k3 => ?_
  have W := Walks.map (A := A.in1) (X := X) (hb := s2.heap) (M := s2.heap.objs.size + 2) (TI := s2.heap.objs.size + 1) (it := s2.heap.objs.size) (t := t) (f := fv) (vs := ws) (rs := [D.int a, D.int b]) hh (Nat.le_add_right _ _) (Nat.le_add_right _ _) (Nat.le_refl _) (ne_add2 _) (ne_add1 _)
    G2.gd G2.tab ⟨_, e, rfl, n, rfl⟩ rs' hlen (by intro d hd; simp at hd; rcases hd with rfl | rfl <;> rfl) hfc
  refine call_max_walk (W.self 0 _ _ _ ⟨k3, m3, i3⟩ ⟨_, _, _, _, _, _, (fun i j => decide ((if i = 0 then a else b) > (if j = 0 then a else b))), rfl, W, ⟨k3, m3, i3⟩, ?_, by omega, ?_, fun v h' tk hp hk => ?_⟩)
  · intro b' hb
    show b' < h3.objs.size
    rw [z3]
    simp only [List.mem_cons, List.mem_range] at hb
    exact lt_add3 hb
  · exact CmpOf.ints_gt (fun i => if i = 0 then a else b) PI.ints2
  · have g3 : Grow X s2 { s2 with heap := h3 } := Grow.of (tk := s2.toks) k3
    have g4 : Grow X s2 { s2 with heap := h', toks := tk } := Grow.but (s := { s2 with heap := h3 }) g3 (wr := [s2.heap.objs.size]) G2 (fun b hb => by simp at hb; rw [hb]; exact Nat.le_refl _) fun b o hb e => hk b o hb e
    refine ⟨g1.trans (g2.trans g4), ?_⟩
    rw [hlen] at hp
    obtain ⟨d, hd, r⟩ := hp
    have : d = .int (max a b) := by
      by_cases h : b > a
      · simp [argBest, h] at hd; rw [← hd, Int.max_eq_right (Int.le_of_lt h)]
      · simp [argBest, h] at hd; rw [← hd, Int.max_eq_left (Int.not_lt.mp h)]
    subst this
    exact r _
end

/-- parameters with defaults of the program's start -/
theorem Bnd.dflt {X : Cx} {fd : FuncData} {ds : List D} {ps : List (Str × D)} {T : Addr} {o : Obj} {items : Array Value} {n : Nat} (hd : fd.defaults = .ref T) (ho : X.K.lookup T = some o) (hs : o.data = .seq items n)
    (h : ∀ vs, vs.length = ds.length → ∃ (k : Option (Array Value) → Sem (List (Str × Value))) (bs : List (Str × Value)), bindArgs fd ⟨vs, []⟩ = seqItems? fd.defaults >>= k ∧ k (some items) = pure bs ∧ ∀ hp, Reps hp vs ds → Bs hp bs ps) : Bnd X fd ds ps := by
  intro s vs A Q E G rs hQ
  obtain ⟨k, bs, h1, h2, h3⟩ := h vs rs.length
  rw [h1, hd]
  refine wpAny_bind (wpAny_seqItems (G.gd.k _ _ ho) hs ?_)
  rw [h2]
  exact wpAny_pure (hQ bs s (.refl ..) (h3 _ rs))
/-- a starred parameter that takes two -/
theorem Bnd.star {X : Cx} {fd : FuncData} {d1 d2 : D} {x : Str} (h : ∀ v1 v2, bindArgs fd ⟨[v1, v2], []⟩ = (do let t ← newTuple [v1, v2]; pure [(x, t)])) : Bnd X fd [d1, d2] [(x, .tup [d1, d2])] := by
  intro s vs A Q E G rs hQ
  obtain ⟨v1, v2, rfl, q1, q2⟩ := reps2 rs
  rw [h]
  refine wpAny_bind (wpAny_newTuple (wpAny_pure (hQ _ _ .push ?_)))
  refine .cons (.tup (n := 0) (Heap.get?_push_size _ rfl) ?_) .nil
  exact .cons (q1.keepV fun b o _ e => Heap.get?_push_of_some _ e) (.cons (q2.keepV fun b o _ e => Heap.get?_push_of_some _ e) .nil)
theorem Rm.in4 {n : Nat} {A : Around} (R : Rm (n + 1) A) : Rm n A.in1.in1.in1.in1 := ⟨R.hd, fun h => R.gd (by omega), by have := R.dp; show A.depth + n ≤ 900; omega, by have := R.un; show A.units + 1 + 1 + 1 + 1 + 20 * n ≤ 9000; omega⟩
end Mine
end L15

section L16
open PySem PySem.W PyProof.Rows
namespace Mine

/-- a heap's first objects -/
noncomputable def cut (h : Heap) (n : Nat) : Heap := { h with objs := h.objs.extract 0 n }
theorem cut_size {h : Heap} {n : Nat} (hn : n ≤ h.objs.size) : (cut h n).objs.size = n := by
  unfold cut; simp; omega
theorem cut_get {h : Heap} {n b : Nat} (hb : b < n) : (cut h n).get? b = h.get? b := by
  unfold cut Heap.get?
  have : (h.objs.extract 0 n)[b]? = h.objs[b]? := by
    rw [Array.getElem?_extract]; simp; omega
  simp only [this]
theorem cut_keep {h : Heap} {n b : Nat} {o : Obj} (e : (cut h n).get? b = some o) : h.get? b = some o := by
  have hl := Heap.lt_size e
  have : b < n := by
    refine Nat.lt_of_lt_of_le hl ?_
    show (h.objs.extract 0 n).size ≤ n
    rw [Array.size_extract]
    omega
  rw [cut_get this] at e; exact e

theorem passing_true (n : Nat) : passing (fun _ => true) n 0 = List.range n := by
  unfold passing; rw [List.drop_zero]; simp
theorem tableObj_inj {a b : Array Value} (h : PySem.W.X.tableObj a = PySem.W.X.tableObj b) : a = b := by
  unfold PySem.W.X.tableObj at h
  injection h with _ _ h _
  injection h

section
variable {X : Cx} {A : Around} {s₀ : Shared} {env : Env} {ρ : Str → Option D}

theorem Gd.qcv {h : Heap} (G : Gd X h) : Gd (quietCx X) h := ⟨G.k, G.kP, G.g, G.b, G.lim, G.dig, G.p0, G.bm⟩

theorem genCode {s : Shared} {pos : Pos} {qn : Str} {scope : Scope} {Q : Value → Shared → Prop} {E : Value → Shared → Prop} (hq : X.q = false) (G : Gs X s) (hcode : env.code = .ref X.C)
    (h : ∀ code s', Grow X s s' → s'.gens = s.gens → s'.drawn = s.drawn → (∃ h' tk, s' = { s with heap := h', toks := tk }) → s.heap.objs.size ≤ s'.heap.objs.size → Q code s') : wpAny X.M A (genexprCode env pos qn scope) Q E s := by
  obtain ⟨ps, hc, ht⟩ := G.tab
  cases hf : codeAmong pos ps.toList with
  | some c' => exact wpAny_genexprCode_hit hcode hc hf (h c' s (.refl ..) rfl rfl ⟨_, _, rfl⟩ (Nat.le_refl _))
  | none =>
    refine wpAny_genexprCodeX hcode hc ht hf fun c' h' tk hx hge hlt hc' hrec ht' hP' => ?_
    refine h _ _ ⟨fun b o hb e => hx b o hb e, fun ps' e => ?_, fun _ => ⟨_, hc', ht'⟩, rfl, fun x => x, fun _ _ e => e, fun z => by rw [hq] at z; cases z⟩ rfl rfl ⟨h', tk, rfl⟩ (Nat.le_trans hge (Nat.le_of_lt hlt))
    have e2 := ht.2
    rw [e] at e2
    have e3 := tableObj_inj (Option.some.inj e2)
    subst e3
    exact ⟨_, ht'.2⟩

theorem Ev.tupGen {p1 p2 : Pos} {elt iter : Expr} {x : Str} {px pos : Pos} {scope : Scope} {cl : List (Str × Addr)} {ds rs : List D} (F : Fm X s₀ env) (hq : X.q = false) (hh : A.handled = none) (hroom : A.depth < recursionLimit) (hcode : env.code = .ref X.C)
    (hkt : env.kindOf "tuple" = some .globalImplicit) (hkt0 : nsIn X.K mainGlobals "tuple" = some none)
    (hs1 : starEach [.GeneratorExp elt [⟨.Name x px, iter, [], 0⟩] scope pos] env = [(false, eval (.GeneratorExp elt [⟨.Name x px, iter, [], 0⟩] scope pos) env)])
    (hit : Ev X A s₀ env ρ iter (.tup ds)) (hfd : ∀ d ∈ ds, d.flat = true) (hlen : ds.length = rs.length) (hsz : ds.length ≤ sizeLine) (hfr : ∀ d ∈ rs, d.flat = true)
    (hco : scope.isCoroutine = false) (hclos : closureFor scope env = pure cl) (hcell : ∀ y ∈ scope.names, y.2 ≠ .cell) (h0 : scope.names.lookup (".0" : Str) = some NameKind.local) (hx : scope.names.lookup x = some .local) (hkind : scope.kind = .function)
    (hfree : (scope.names.all fun p => p.2 != .free || env.kindOf p.1 == some .cell) = true)
    (helt : ∀ (i : Nat) (d r : D), ds[i]? = some d → rs[i]? = some r → ∀ s C code cenv A', cenv = genEnv scope cl C code builtinsNs env → A'.handled = none → A'.depth ≤ A.depth + 1 → A'.units ≤ A.units + 8 → Gs (quietCx X) s → Fm (quietCx X) s cenv →
      Ev (quietCx X) A' s cenv (upd (seen cenv ρ) x d) elt r)
    (hs : ∀ x, genFold iter env x = pure x) :
    Ev X A s₀ env ρ (.Call (.Name "tuple" p1) [.GeneratorExp elt [⟨.Name x px, iter, [], 0⟩] scope pos] [] p2) (.tup rs) := fun s E S => by
  refine evalCallB1 F S hkt hkt0 rfl (by decide) rfl (.inr ⟨_, rfl⟩) hs1 fun s1 g1 S1 => ?_
  refine wpAny_GeneratorExp_walksQD hh hco hclos hcell h0 hx hkind hroom (wpAny_mono (hit s1 E S1) (fun v s2 q2 => ?_) fun _ _ x => x) hs
  obtain ⟨g2, r2⟩ := q2
  have S2 := S1.grown F g2
  have G2 := S2.gs
  obtain ⟨t, vs, n, rfl, e, rs'⟩ := r2.tupE
  have lt := Heap.lt_size e
  refine wpAny_pyIter_tuple (items := vs.toArray) ⟨_, e, rfl, n, rfl⟩ ?_
  generalize hI : s2.heap.objs.size = I
  generalize hh3 : s2.heap.push { cls := .type "tuple_iterator", data := .fields #[.ref t, .int 0 0] } = H3
  have z3 : H3.objs.size = I + 1 := by rw [← hh3, Heap.size_push, hI]
  have k3 : ∀ b o, s2.heap.get? b = some o → H3.get? b = some o := fun b o e => hh3 ▸ Heap.get?_push_of_some _ e
  have it3 : H3.IsTupleIter I t 0 := ⟨_, by rw [← hh3, ← hI]; exact Heap.get?_push_size _ rfl, rfl, rfl⟩
  have tp3 : H3.IsTuple t vs.toArray := ⟨_, k3 _ _ e, rfl, n, rfl⟩
  have g3 : Grow X s2 { s2 with heap := H3 } := Grow.of (tk := s2.toks) k3
  have G3 := G2.grow g3
  have htI : t ≠ I := Nat.ne_of_lt (hI ▸ lt)
  have ltP : X.P < I := hI ▸ G2.tab.lt.2
  have ltC : X.C < I := hI ▸ G2.tab.lt.1
  have htP : t ≠ X.P := by
    rintro rfl
    obtain ⟨ps, e'⟩ := G2.tab.P
    rw [e'] at e; cases e
  refine ⟨G3.gd.lim, genCode hq G3 hcode fun code s4 g4 hg4 hd4 hsh4 hz4 => ?_⟩
  have G4 := G3.grow g4
  obtain ⟨h4, tk4, e4⟩ := hsh4
  obtain ⟨mg, bm, ob, B, hbP⟩ := G4.gd.bm
  rw [F.glob]
  refine wpAny_builtinsFor B.ns B.name B.ne B.obj B.cls B.dict B.data ?_
  have IP : I ≠ X.P := Nat.ne_of_gt ltP
  have it4 : s4.heap.IsTupleIter I t 0 := let ⟨o, ho, r⟩ := it3; ⟨o, g4.keep _ o IP ho, r⟩
  have tp4 : s4.heap.IsTuple t vs.toArray := let ⟨o, ho, r⟩ := tp3; ⟨o, g4.keep _ o htP ho, r⟩
  have zI : I < s4.heap.objs.size := Nat.lt_of_lt_of_le (by show I < H3.objs.size; rw [z3]; exact Nat.lt_succ_self _) hz4
  have g24 : Grow X s2 s4 := g3.trans g4
  have cI : cStatics ∉ [I] := by
    obtain ⟨mc, hc, _⟩ := G2.gd.lim
    intro hm
    simp only [List.mem_cons, List.not_mem_nil, or_false] at hm
    exact absurd hc.lt (by rw [hm, hI]; exact Nat.lt_irrefl _)
  refine ⟨I, [I, t], [I], ds.length, PI ds, fun i h => h.IsTupleIter I t i ∧ h.IsTuple t vs.toArray, fun _ => true, PI rs, rfl, fun A' hA' => ?_, ⟨it4, tp4⟩, ?_, G4.gd.lim, cI, fun href hhref => ?_, fun a h5 tk gs hgb ha hz5 k5 W hat => ?_⟩
  · have W := (Walks.tuple (prog := X.prog) (w := X.w) hA' I t htI vs.toArray).weaken (PI.of rs' hfd)
    rw [show vs.toArray.size = ds.length by rw [List.size_toArray, rs'.length]] at W
    exact W
  · intro b hb
    simp only [List.mem_cons, List.not_mem_nil, or_false] at hb
    rcases hb with rfl | rfl
    · exact zI
    · exact Nat.lt_trans (hI ▸ lt) zI
  · refine ⟨fun A' E' i v t' m₂ hA hD hU hP hn hm hkp => wpAny_tests_nil ⟨rfl, ⟨_, _, rfl, fun _ _ e => e⟩⟩, fun A' E' i v s' m₂ hA hD hU hP _ hn hm hkp => ?_⟩
    obtain ⟨d, hd, rv⟩ := hP
    have hi : i < rs.length := by rw [← hlen]; exact (List.getElem?_eq_some_iff.mp hd).1
    have hri : rs[i]? = some rs[i] := List.getElem?_eq_getElem hi
    have kp : ∀ b o, b ≠ I → s4.heap.get? b = some o → s'.heap.get? b = some o := fun b o hb e => hkp b (List.mem_range.mpr (Heap.lt_size e)) (by simpa using hb) o (hhref b o e)
    have k2 : ∀ b o, b ≠ X.P → s2.heap.get? b = some o → s'.heap.get? b = some o := fun b o hb e => kp b o (Nat.ne_of_lt (hI ▸ Heap.lt_size e)) (g24.keep b o hb e)
    have hCl : s4.heap.objs.size < s'.heap.objs.size := hn.lt
    let sB : Shared := { s' with heap := cut s'.heap s4.heap.objs.size }
    have zB : sB.heap.objs.size = s4.heap.objs.size := cut_size (Nat.le_of_lt hCl)
    have kB : ∀ b o, b ≠ I → s4.heap.get? b = some o → sB.heap.get? b = some o := fun b o hb e => (cut_get (Heap.lt_size e)).trans (kp b o hb e)
    have kB2 : ∀ b o, b ≠ X.P → s2.heap.get? b = some o → sB.heap.get? b = some o := fun b o hb e => kB b o (Nat.ne_of_lt (hI ▸ Heap.lt_size e)) (g24.keep b o hb e)
    have GB : Gs (quietCx X) sB := ⟨(G2.gd.keep kB2).qcv, Tab.on (X := quietCx X) (h := s4.heap) G4.tab (fun o e => kB _ o (Nat.ne_of_lt ltC) e) (fun o e => kB _ o (Nat.ne_of_lt ltP) e), fun e => nomatch e⟩
    have gB : Grow (quietCx X) sB s' := Grow.of (s := sB) (tk := s'.toks) fun b o e => cut_keep e
    have FB : Fm (quietCx X) sB (genEnv scope cl s4.heap.objs.size code builtinsNs env) := ⟨hkind, F.glob, rfl, Nat.le_of_eq zB, GB⟩
    have kindE : ∀ y, (genEnv scope cl s4.heap.objs.size code builtinsNs env).kindOf y = scope.names.lookup y := fun y => rfl
    have SB : St (quietCx X) sB (genEnv scope cl s4.heap.objs.size code builtinsNs env) (upd (seen (genEnv scope cl s4.heap.objs.size code builtinsNs env) ρ) x d) s' := by
      refine ⟨GB.grow gB, gB, ⟨m₂, hn, fun y d' hk hr => ?_⟩, fun y d' hk hr => ?_, fun y hk => ?_⟩
      · by_cases hy : y = x
        · subst hy; rw [upd_here] at hr; cases hr; exact ⟨v, hm, rv _⟩
        · rw [upd_there hy rfl] at hr
          unfold seen at hr; rw [hk] at hr; cases hr
      · have hy : y ≠ x := by rintro rfl; rw [kindE, hx] at hk; rcases hk with h | h <;> cases h
        rw [upd_there hy rfl] at hr
        have hr' : ρ y = some d' := by
          unfold seen at hr
          split at hr
          · exact hr
          · cases hr
        have hfr' : scope.names.lookup y = some .free := by
          rw [kindE] at hk
          rcases hk with h | h
          · exact absurd rfl (hcell _ (mem_of_lookup h))
          · exact h
        obtain ⟨c, h1, h2⟩ := closureFor_spec hclos y hfr'
        have q := List.all_eq_true.mp hfree _ (mem_of_lookup hfr')
        obtain ⟨c', v', hc', ⟨o, ho, hdt⟩, r'⟩ := S2.cel y d' (.inl (by simpa using q)) hr'
        rw [h1] at hc'; cases hc'
        have cP : c ≠ X.P := by
          rintro rfl
          obtain ⟨ps, e'⟩ := G2.tab.P
          rw [e'] at ho; cases ho; cases hdt
        refine ⟨c, v', h2, ⟨o, k2 _ _ cP ho, hdt⟩, r'.keepV fun b o hv e => k2 b o ?_ e⟩
        rintro rfl
        obtain ⟨ps, e'⟩ := G2.tab.P
        rw [e'] at e; cases e; cases hv
      · rw [kindE] at hk
        exact absurd rfl (hcell _ (mem_of_lookup hk))
    refine wpAny_mono (helt i d rs[i] hd hri sB s4.heap.objs.size code _ A' rfl hA hD hU GB FB s' E' SB) (fun y s3 q => ?_) fun _ _ x => x
    obtain ⟨g, r⟩ := q
    exact ⟨⟨_, hri, fun h => r.flat (hfr _ (List.getElem_mem hi))⟩, g.quiet rfl⟩
  · have hpl : (passing (fun _ => true) ds.length 0).length = ds.length := by rw [passing_true]; simp
    refine call_tuple_gen W.in4_3 (fun i s st => st.1.typeIs) hat ?_ (by simp) (fun s' acc hm hacc => ?_) (by rw [hpl]; exact hsz)
    · intro b hb
      show b < h5.objs.size
      rw [hz5]
      simp only [List.mem_cons, List.mem_range] at hb
      rcases hb with rfl | rfl | hb
      · exact Nat.lt_succ_self _
      · exact Nat.lt_succ_of_lt ha
      · exact Nat.lt_succ_of_lt (Nat.lt_trans hb ha)
    · have kk : ∀ b o, b ≠ I → s4.heap.get? b = some o → s'.heap.get? b = some o := fun b o hb e => hm.heap b o (by
        simp only [List.mem_cons, List.not_mem_nil, or_false, not_or]
        exact ⟨Nat.ne_of_lt (Heap.lt_size e), hb⟩) (k5 b o e)
      have k2 : ∀ b o, b ≠ X.P → s2.heap.get? b = some o → s'.heap.get? b = some o := fun b o hb e => kk b o (Nat.ne_of_lt (hI ▸ Heap.lt_size e)) (g24.keep b o hb e)
      have gens' : ∀ (g : Nat) x, s2.gens[g]? = some x → s'.gens[g]? = some x := fun g x e => by
        have hlt : g < s2.gens.size := (Array.getElem?_eq_some_iff.mp e).1
        have e4' : s4.gens = s2.gens := hg4
        have ep : (s4.gens.push gs)[g]? = some x := by rw [e4', Array.getElem?_push, if_neg (Nat.ne_of_lt hlt)]; exact e
        rcases hm.gens with q | ⟨q, _⟩
        · rw [q]; exact ep
        · rw [q.2 g (by rw [e4']; exact Nat.ne_of_lt hlt)]; exact ep
      have g5 : Grow X s2 s' := by
        refine ⟨k2, fun ps ep => ?_, fun _ => Tab.on (h := s4.heap) G4.tab (fun o e => kk _ o (Nat.ne_of_lt ltC) e) (fun o e => kk _ o (Nat.ne_of_lt ltP) e), ?_, fun hb => ?_, gens', fun z => by rw [hq] at z; cases z⟩
        · obtain ⟨more, em⟩ := g24.tab ps ep
          exact ⟨more, kk _ _ (Nat.ne_of_lt ltP) em⟩
        · rw [hm.os]; exact g24.os
        · exact hm.gens.bare (AllBare.push (g24.bare hb) hgb)
      refine ⟨g1.trans (g2.trans (g5.trans .push)), ?_⟩
      refine .tup (n := 0) (vs := acc.toList) (by rw [Heap.get?_push_size _ rfl]) (reps_of_items (n := (passing (fun _ => true) ds.length 0).length) (hpl.trans hlen) ⟨hacc.1, fun j v hv => ?_⟩)
      obtain ⟨i, hi, hF⟩ := hacc.2 j v hv
      rw [passing_true] at hi
      have : i = j := by
        have hj := (List.getElem?_eq_some_iff.mp hi).1
        rw [List.getElem?_eq_getElem hj] at hi
        simp at hi
        exact hi.symm
      exact this ▸ hF
end
end Mine
end L16

section T1
open PySem PySem.W PyProof.Rows
namespace Mine
open_top hd for PySem.Challenge.rw_mq0208_01
end Mine
end T1

section P1
namespace Mine
/-- the common start -/
noncomputable def cp : List Nat → List Nat → List Nat
  | x :: xs, y :: ys => if x = y then x :: cp xs ys else []
  | _, _ => []
theorem cp_comm : ∀ a b : List Nat, cp a b = cp b a
  | [], [] => rfl
  | [], _ :: _ => rfl
  | _ :: _, [] => rfl
  | x :: xs, y :: ys => by
    unfold cp
    by_cases h : x = y
    · subst h; simp [cp_comm xs ys]
    · rw [if_neg h, if_neg (Ne.symm h)]
theorem cp_at : ∀ (i : Nat) (a b : List Nat) (x y : Nat), a.take i = b.take i → a[i]? = some x → b[i]? = some y → x ≠ y → cp a b = a.take i
  | 0, a, b, x, y, _, ha, hb, hne => by
    cases a <;> cases b <;> simp_all [cp]
  | i + 1, a, b, x, y, h, ha, hb, hne => by
    cases a with
    | nil => simp at ha
    | cons u us =>
      cases b with
      | nil => simp at hb
      | cons v vs =>
        simp only [List.take_succ_cons, List.cons.injEq] at h
        obtain ⟨rfl, h⟩ := h
        unfold cp
        rw [if_pos rfl, cp_at i us vs x y h (by simpa using ha) (by simpa using hb) hne, List.take_succ_cons]
theorem cp_all : ∀ (a b : List Nat), a = b.take a.length → cp a b = a
  | [], b, _ => by cases b <;> rfl
  | x :: xs, [], h => by simp at h
  | x :: xs, y :: ys, h => by
    simp only [List.length_cons, List.take_succ_cons, List.cons.injEq] at h
    unfold cp
    rw [if_pos h.1, cp_all xs ys h.2]
theorem lt_app : ∀ (a : List Nat) (x : Nat) (xs : List Nat), a < a ++ x :: xs
  | [], x, xs => by simp
  | y :: ys, x, xs => by
    rw [List.cons_append, List.cons_lt_cons_iff]
    exact .inr ⟨rfl, lt_app ys x xs⟩
theorem longer {lo hi : List Nat} {i : Nat} (h : lo.take i = hi.take i) (hi' : i < lo.length) (hn : ¬ hi < lo) : i < hi.length := by
  refine Nat.lt_of_not_le fun hle => hn ?_
  have e : hi = lo.take i := by rw [h, List.take_of_length_le hle]
  have e2 : lo = lo.take i ++ lo.drop i := (List.take_append_drop i lo).symm
  cases hd : lo.drop i with
  | nil => rw [List.drop_eq_nil_iff] at hd; omega
  | cons x xs => rw [e, e2, hd, List.take_left' (by simp; omega)]; exact lt_app _ _ _
theorem cp_prefix : ∀ a b : List Nat, ∃ r, a = cp a b ++ r
  | [], b => ⟨[], by cases b <;> rfl⟩
  | x :: xs, [] => ⟨x :: xs, rfl⟩
  | x :: xs, y :: ys => by
    unfold cp
    by_cases h : x = y
    · rw [if_pos h]
      obtain ⟨r, e⟩ := cp_prefix xs ys
      exact ⟨r, by rw [List.cons_append, ← e]⟩
    · rw [if_neg h]; exact ⟨_, rfl⟩
theorem cp_len_le (a b : List Nat) : (cp a b).length ≤ a.length := by
  obtain ⟨r, e⟩ := cp_prefix a b
  have := congrArg List.length e
  rw [List.length_append] at this
  omega
theorem cp_take (a b : List Nat) : cp a b = a.take (cp a b).length := by
  obtain ⟨r, e⟩ := cp_prefix a b
  exact (congrArg (List.take (cp a b).length) e |>.trans (by simp)).symm
end Mine
end P1

section H1
open PySem PySem.W PyProof.Rows
namespace Mine
noncomputable abbrev XX (w : World) (q : Bool) : Cx := { prog := PySem.Challenge.pw_mq0208_01, w := w, K := hd.heap_39 w.params, C := 60, P := 56, q := q }
section
variable {w : World} {q : Bool}

theorem fn_S_IFMT (x : Int) : Fn (XX w q) 1 76 [.int x] (.int (Builtin.bitAnd x 61440)) := by
  refine Fn.enter (ps := [("mode", .int x)]) rfl rfl rfl rfl rfl rfl rfl rfl rfl rfl (Bnd.plain (ns := ["mode"]) rfl ?_) rfl ?_
  · intro vs hv
    obtain ⟨_, rfl⟩ := len1 hv; rfl
  · intro A s₀ R G env he F O
    subst he
    refine Ex.ret F (Ev.bin F (Ev.loc F rfl rfl rfl) Ev.cInt op_andI) rfl

theorem Ts.cv1 {X : Cx} {A : Around} {s₀ : Shared} {env : Env} {ρ : Str → Option D} {e : Expr} {b b' : Bool} (h : b = b') (he : Ts X A s₀ env ρ e b) : Ts X A s₀ env ρ e b' := h ▸ he
/-- the shortened text -/
noncomputable def shorten (l : List Nat) (p s : Nat) : List Nat :=
  if p + s + 12 < l.length then l.take p ++ 91 :: num (l.length - p - s) ++ chars ++ l.drop (l.length - s) else l

theorem fn_shorten (l : List Nat) (p s : Nat) (hl : l.length ≤ 100000) (hp : p ≤ 1000) (hs : s ≤ 1000) : Fn (XX w q) 1 28 [Sd l, .int p, .int s] (Sd (shorten l p s)) := by
  refine Fn.enter (ps := [("s", Sd l), ("prefixlen", .int p), ("suffixlen", .int s)]) rfl rfl rfl rfl rfl rfl rfl rfl rfl rfl (Bnd.plain (ns := ["s", "prefixlen", "suffixlen"]) rfl ?_) rfl ?_
  · intro vs hv
    obtain ⟨_, _, _, rfl⟩ := len3 hv; rfl
  · intro A s₀ R G env he F O
    subst he
    refine Ex.step (Es.asgL F (Ev.bin F (Ev.bin F (Ev.callB F rfl rfl rfl (by decide) rfl (.inl ⟨_, rfl⟩) rfl rfl (Evs.cons F rfl (Ev.loc F rfl rfl rfl) .nil) (Fc.lenS (p60 hl))) (Ev.loc F rfl rfl rfl) op_subI) (Ev.loc F rfl rfl rfl) op_subI) rfl rfl) ?_
    by_cases hc : p + s + 12 < l.length
    · have e : shorten l p s = l.take p ++ 91 :: num (l.length - p - s) ++ chars ++ l.drop (l.length - s) := if_pos hc
      have hp' : p ≤ l.length := Nat.le_trans (Nat.le_add_right p (s + 12)) (Nat.le_of_lt (Nat.add_assoc p s 12 ▸ hc))
      have hs' : s ≤ l.length - p := Nat.le_sub_of_add_le (Nat.add_comm p s ▸ Nat.le_trans (Nat.le_add_right _ 12) (Nat.le_of_lt hc))
      have e1 : (l.length : Int) - p - s = ((l.length - p - s : Nat) : Int) := by rw [Int.ofNat_sub hs', Int.ofNat_sub hp']
      have e2 : (l.length : Int) - s = ((l.length - s : Nat) : Int) := (Int.ofNat_sub (Nat.le_trans hs' (Nat.sub_le _ _))).symm
      have hg : decide ((l.length : Int) - p - s > 12) = true := decide_eq_true (by clear e1 e2 hp' hs'; omega)
      rw [e]
      refine Ex.step (Es.iff (b := true) F (Ts.cv1 hg (Ts.cmp F (Ev.loc F rfl rfl rfl) (Ev.glob F rfl rfl (fun _ _ => .int ..) rfl) op_gtI rfl)) (fun _ => Ex.step (Es.asgL F (Ev.bin F Ev.cStr (Ev.tup (sz (Nat.le_of_ble_eq_true rfl)) (Evs.cons F rfl (Ev.sliceSto F (Ev.loc F rfl rfl rfl) (Ev.loc F rfl rfl rfl) (Int.natCast_nonneg _) (Int.ofNat_le.mpr hp') (sz hl)) (Evs.cons F rfl (Ev.loc F rfl (by rw [e1]; rfl) rfl) (Evs.cons F rfl (Ev.sliceSfrom (j := ((l.length - s : Nat) : Int)) F (Ev.loc F rfl rfl rfl) (by rw [← e2]; exact Ev.bin F (Ev.callB F rfl rfl rfl (by decide) rfl (.inl ⟨_, rfl⟩) rfl rfl (Evs.cons F rfl (Ev.loc F rfl rfl rfl) .nil) (Fc.lenS (p60 hl))) (Ev.loc F rfl rfl rfl) op_subI) (Int.natCast_nonneg _) (Int.ofNat_le.mpr (Nat.sub_le _ _)) (sz hl)) .nil)))) (op_pct (tkL (lek hl rfl)) (drL (lek hl rfl)) (Nat.lt_of_le_of_lt (Nat.le_trans (Nat.sub_le _ _) (Nat.le_trans (Nat.sub_le _ _) hl)) (by decide)))) rfl rfl) (Ex.nil rfl)) tf) ?_
      exact Ex.ret F (Ev.loc F rfl rfl rfl) rfl
    · have e : shorten l p s = l := if_neg hc
      have hg : decide ((l.length : Int) - p - s > 12) = false := decide_eq_false (by omega)
      rw [e]
      refine Ex.step (Es.iff (b := false) F (Ts.cv1 hg (Ts.cmp F (Ev.loc F rfl rfl rfl) (Ev.glob F rfl rfl (fun _ _ => .int ..) rfl) op_gtI rfl)) ff (fun _ => Ex.nil rfl)) ?_
      exact Ex.ret F (Ev.loc F rfl rfl rfl) rfl
end
end Mine
end H1

section P2
open PySem PySem.W PyProof.Rows
open PySem.Builtin PySem.Builtin.Str
namespace Mine

theorem sub_S (l : List Nat) (i j : Nat) : strSub (S l) i j = S ((l.drop i).take (j - i)) := by
  have h := StrLaws.strSub_toList (S l) i j
  have : (strSub (S l) i j).cps = ((l.drop i).take (j - i)).toArray := by rw [← Array.toList_inj, h]
  exact congrArg Str.mk this
noncomputable def body : List (List Nat) → List Nat → List Nat
  | [], last => last
  | p :: ps, last => p ++ chars ++ body ps last
noncomputable def cutsFrom : Nat → List (List Nat) → List Nat
  | _, [] => []
  | a, p :: ps => (a + p.length) :: cutsFrom (a + p.length + 7) ps

theorem at_104 {T : List Nat} {k : Nat} (h : StrLaws.At (S T) (S chars) (S T).length k) : T[k + 2]? = some 104 := by
  have h2 := h.2
  rw [StrLaws.subAt_eq, beq_iff_eq] at h2
  have e := congrArg (fun l => l[2]?) h2
  simp only at e
  rw [List.getElem?_take_of_lt (by rw [S_len]; decide), List.getElem?_drop] at e
  simpa using e
theorem at_here (p r : List Nat) : StrLaws.At (S (p ++ chars ++ r)) (S chars) (S (p ++ chars ++ r)).length p.length := by
  refine ⟨by rw [S_len, S_len]; simp, ?_⟩
  rw [StrLaws.subAt_eq, beq_iff_eq, S_len]
  simp

theorem chain_uniq {x y : Str} {hi : Nat} {f1 f2 : Nat} (n1 : ∀ k, f1 ≤ k → ¬ StrLaws.At x y hi k) (n2 : ∀ k, f2 ≤ k → ¬ StrLaws.At x y hi k) (c1 : List Nat) : ∀ {a : Nat} {c2 : List Nat}, StrLaws.ChainG x y hi a c1 f1 → StrLaws.ChainG x y hi a c2 f2 → c1 = c2 := by
  induction c1 with
  | nil =>
    intro a c2 h1 h2
    cases c2 with
    | nil => rfl
    | cons d s =>
      have e : f1 = a := h1
      exact absurd h2.2.1 (n1 d (e ▸ h2.1))
  | cons c r ih =>
    intro a c2 h1 h2
    cases c2 with
    | nil =>
      have e : f2 = a := h2
      exact absurd h1.2.1 (n2 c (e ▸ h1.1))
    | cons d s =>
      have e : c = d := by
        rcases Nat.lt_trichotomy c d with q | q | q
        · exact absurd h1.2.1 (h2.2.2.1 c h1.1 q)
        · exact q
        · exact absurd h2.2.1 (h1.2.2.1 d h2.1 q)
      subst e
      rw [ih h1.2.2.2 h2.2.2.2]

theorem chain_body (last : List Nat) (ps : List (List Nat)) : ∀ (pre : List Nat), (∀ p ∈ ps, 104 ∉ p) → 104 ∉ last → ∃ f, StrLaws.ChainG (S (pre ++ body ps last)) (S chars) (S (pre ++ body ps last)).length pre.length (cutsFrom pre.length ps) f ∧
    (∀ k, f ≤ k → ¬ StrLaws.At (S (pre ++ body ps last)) (S chars) (S (pre ++ body ps last)).length k) ∧ StrLaws.partsFrom (S (pre ++ body ps last)) 7 pre.length (cutsFrom pre.length ps) = ps.map S ++ [S last] := by
  induction ps with
  | nil =>
    intro pre _ hl
    refine ⟨pre.length, rfl, fun k hk hA => ?_, ?_⟩
    · have e := at_104 hA
      rw [body, List.getElem?_append_right (by omega)] at e
      exact hl (List.mem_of_getElem? e)
    · show [strSub (S (pre ++ last)) pre.length (S (pre ++ last)).length] = [S last]
      rw [sub_S, S_len]
      simp
  | cons p ps ih =>
    intro pre hp hl
    have eT : pre ++ body (p :: ps) last = (pre ++ p ++ chars) ++ body ps last := by simp [body]
    obtain ⟨f, h1, h2, h3⟩ := ih (pre ++ p ++ chars) (fun q hq => hp q (List.mem_cons_of_mem _ hq)) hl
    have el : (pre ++ p ++ chars).length = pre.length + p.length + 7 := by simp; omega
    rw [el] at h1 h3
    rw [← eT] at h1 h2 h3
    refine ⟨f, ⟨Nat.le_add_right _ _, ?_, fun k k1 k2 hA => ?_, ?_⟩, h2, ?_⟩
    · have := at_here (pre ++ p) (body ps last)
      rw [← eT, List.length_append] at this
      exact this
    · have e := at_104 hA
      rw [eT, List.append_assoc, List.append_assoc, List.getElem?_append_right (by omega)] at e
      by_cases hj : k + 2 - pre.length < p.length
      · rw [List.getElem?_append_left hj] at e
        exact hp p (List.mem_cons_self ..) (List.mem_of_getElem? e)
      · rw [List.getElem?_append_right (by omega), List.getElem?_append_left (by simp; omega)] at e
        have : k + 2 - pre.length - p.length = 0 ∨ k + 2 - pre.length - p.length = 1 := by omega
        rcases this with q | q <;> rw [q] at e <;> simp at e
    · show StrLaws.ChainG _ _ _ (pre.length + p.length + 7) _ f
      exact h1
    · show strSub _ pre.length (pre.length + p.length) :: StrLaws.partsFrom _ 7 (pre.length + p.length + 7) _ = _
      rw [h3, sub_S, eT]
      simp

theorem split_body (ps : List (List Nat)) (last : List Nat) (hp : ∀ p ∈ ps, 104 ∉ p) (hl : 104 ∉ last) : Txt.split (S (body ps last)) (S chars) = ps.map S ++ [S last] := by
  obtain ⟨f, h1, h2, h3⟩ := chain_body last ps [] hp hl
  obtain ⟨f', h1', h2'⟩ := StrLaws.occ_tight (S (body ps last)) (S chars) (by rw [S_len]; decide)
  simp only [List.nil_append, List.length_nil] at h1 h2 h3
  have e := chain_uniq h2' h2 _ h1' h1
  unfold Txt.split
  split
  · rename_i hc
    cases ps with
    | nil => rfl
    | cons p ps =>
      exfalso
      have k1 : Builtin.Str.strKind (S chars) = 1 := by decide +kernel
      have k2 : 1 ≤ Builtin.Str.strKind (S (body (p :: ps) last)) := by unfold Builtin.Str.strKind; split <;> (try split) <;> omega
      have l1 : ¬ (S (body (p :: ps) last)).length < (S chars).length := by rw [S_len, S_len]; simp [body]; omega
      rw [k1] at hc
      simp only [Bool.or_eq_true, decide_eq_true_eq] at hc
      omega
  · rw [e]
    cases ps with
    | nil => rfl
    | cons p ps =>
      rw [if_neg (by simp [cutsFrom]), StrLaws.partsBetween_eq]
      exact h3

theorem occR_none (s sub : Str) (l : List Nat) : ∀ (m cur : Nat) (fr : Nat), (∀ k, cur ≤ k → k < cur + m → ¬ (s.length - k + sub.length ≤ fr ∧ subAt s sub (s.length - k) = true)) →
    (forIn (List.range' cur m ++ l) ((#[] : Array Nat), fr) (StrLaws.occRBody s sub 1)).run = (forIn l ((#[] : Array Nat), fr) (StrLaws.occRBody s sub 1)).run
  | 0, cur, fr, _ => rfl
  | m + 1, cur, fr, h => by
    rw [List.range'_succ, List.cons_append, List.forIn_cons]
    have eb : StrLaws.occRBody s sub 1 cur (#[], fr) = pure (ForInStep.yield (#[], fr)) := by
      unfold StrLaws.occRBody
      rw [if_neg (fun hc => h cur (Nat.le_refl _) (by omega) ⟨hc.1.2, hc.2⟩)]
    rw [eb]
    exact occR_none s sub l m (cur + 1) fr fun k h1 h2 => h k (by omega) (by omega)
theorem occR_full (s sub : Str) (i fr : Nat) : ∀ (l : List Nat), (forIn l ((#[i] : Array Nat), fr) (StrLaws.occRBody s sub 1)).run = (#[i], fr)
  | [] => rfl
  | a :: l => by
    rw [List.forIn_cons]
    unfold StrLaws.occRBody
    rw [if_neg (fun hc => absurd hc.1.1 (by simp))]
    exact occR_full s sub i fr l

theorem rsplit_one (h d : List Nat) (hd : 91 ∉ d) : Txt.rsplitMax (S (h ++ 91 :: d)) (S [91]) 1 = [S h, S d] := by
  have hlen : (S (h ++ 91 :: d)).length = h.length + 1 + d.length := by rw [S_len]; simp; omega
  have eocc : occurrencesFromRight (S (h ++ 91 :: d)) (S [91]) 1 = [h.length] := by
    rw [StrLaws.occR_eq, hlen]
    have er : List.range' 0 (h.length + 1 + d.length + 1) = List.range' 0 (d.length + 1) ++ ((d.length + 1) :: List.range' (d.length + 2) h.length) := by
      have e1 : (d.length + 1) :: List.range' (d.length + 2) h.length = List.range' (d.length + 1) (h.length + 1) := (List.range'_succ (s := d.length + 1) (n := h.length) (step := 1)).symm
      have e2 := List.range'_append_1 (s := 0) (m := d.length + 1) (n := h.length + 1)
      rw [e1]
      simp only [Nat.zero_add] at e2
      rw [e2]; congr 1; omega
    rw [er]
    have en := occR_none (S (h ++ 91 :: d)) (S [91]) ((d.length + 1) :: List.range' (d.length + 2) h.length) (d.length + 1) 0 (h.length + 1 + d.length) (by
      intro k h1 h2 hc
      rw [hlen] at hc
      have hk : h.length + 1 + d.length - k + (S [91]).length ≤ (S (h ++ 91 :: d)).length := by rw [hlen]; exact hc.1
      have := (StrLaws.subAt_one (S (h ++ 91 :: d)) 91 (h.length + 1 + d.length - k)).mp ⟨hk, hc.2⟩
      have hk2 : 0 < k := by
        rcases Nat.eq_zero_or_pos k with q | q
        · subst q; have := hc.1; rw [S_len] at this; simp at this; omega
        · exact q
      have e' : (h ++ 91 :: d)[h.length + 1 + d.length - k]? = some 91 := this
      rw [List.getElem?_append_right (by omega), show h.length + 1 + d.length - k - h.length = (d.length - k) + 1 by omega, List.getElem?_cons_succ] at e'
      exact hd (List.mem_of_getElem? e'))
    rw [en]
    rw [List.forIn_cons]
    have hs : subAt (S (h ++ 91 :: d)) (S [91]) h.length = true := ((StrLaws.subAt_one (S (h ++ 91 :: d)) 91 h.length).mpr (by simp)).2
    have eh : (S (h ++ 91 :: d)).length - (d.length + 1) = h.length := by rw [hlen]; omega
    have eb : StrLaws.occRBody (S (h ++ 91 :: d)) (S [91]) 1 (d.length + 1) (#[], h.length + 1 + d.length) = pure (ForInStep.yield (#[h.length], h.length)) := by
      unfold StrLaws.occRBody
      rw [eh, if_pos ⟨⟨by simp, by rw [S_len]; simp⟩, hs⟩]
      rfl
    rw [eb]
    show (forIn (List.range' (d.length + 2) h.length) ((#[h.length] : Array Nat), h.length) (StrLaws.occRBody (S (h ++ 91 :: d)) (S [91]) 1)).run.fst.toList.reverse = _
    rw [occR_full]
    rfl
  unfold Txt.rsplitMax
  have el : limitOf (S (h ++ 91 :: d)) 1 = 1 := rfl
  rw [el, eocc]
  rw [if_neg, if_neg (by simp), StrLaws.partsBetween_eq]
  · show [strSub _ 0 h.length, strSub _ (h.length + 1) _] = _
    rw [sub_S, sub_S, hlen]
    simp
  · have k1 : Builtin.Str.strKind (S [91]) = 1 := by decide +kernel
    have k2 : 1 ≤ Builtin.Str.strKind (S (h ++ 91 :: d)) := by unfold Builtin.Str.strKind; split <;> (try split) <;> omega
    rw [k1, hlen, S_len]
    simp only [Bool.or_eq_true, decide_eq_true_eq, List.length_cons, List.length_nil]
    omega
end Mine
end P2

section H2
open PySem PySem.W PyProof.Rows
namespace Mine
section
variable {w : World} {q : Bool}
theorem ofS_nil : Str.ofString "" = S [] := by decide +kernel

theorem fn_kind (n l : List Nat) : Fn (XX w q) 1 35 [Sd n, Sd l] (Sd []) := by
  refine Fn.enter (ps := [("name", Sd n), ("x", Sd l)]) rfl rfl rfl rfl rfl rfl rfl rfl rfl rfl (Bnd.plain (ns := ["name", "x"]) rfl ?_) rfl ?_
  · intro vs hv
    obtain ⟨_, _, rfl⟩ := len2 hv; rfl
  · intro A s₀ R G env he F O
    subst he
    refine Ex.step (Es.asgL F (Ev.callB F rfl rfl rfl (by decide) rfl (.inr ⟨_, rfl⟩) rfl rfl (Evs.cons F rfl (Ev.loc F rfl rfl rfl) .nil) Fc.typeS) rfl rfl) ?_
    refine Ex.cons (K1 := fun o => o = .ret (Sd [])) (Es.iff (b := true) F (Ts.cmp F (Ev.loc F rfl rfl rfl) (Ev.bi F rfl rfl rfl (by decide) rfl) (op_isV rfl) rfl) (fun _ => ?_) tf) (fun _ h => nx h) fun o _ h => h
    refine Ex.ret F (ofS_nil ▸ Ev.cStr) rfl

theorem fn_fspath (n l : List Nat) : Fn (XX w q) 2 42 [Sd n, Sd l] (Sd l) := by
  refine Fn.enter (ps := [("name", Sd n), ("x", Sd l)]) rfl rfl rfl rfl rfl rfl rfl rfl rfl rfl (Bnd.plain (ns := ["name", "x"]) rfl ?_) rfl ?_
  · intro vs hv
    obtain ⟨_, _, rfl⟩ := len2 hv; rfl
  · intro A s₀ R G env he F O
    subst he
    refine Ex.step (Es.asgL F (Ev.callG F rfl rfl rfl rfl rfl rfl rfl (Evs.cons F rfl (Ev.loc F rfl rfl rfl) (Evs.cons F rfl (Ev.loc F rfl rfl rfl) .nil)) (fn_kind n l A R)) rfl rfl) ?_
    refine Ex.step (Es.iff (b := false) F (Ts.val F (Ev.loc F rfl rfl rfl) (Tr.str (x := S []) (by decide)) fun _ => rfl) ff fun _ => Ex.nil rfl) ?_
    exact Ex.ret F (Ev.loc F rfl rfl rfl) rfl

noncomputable def lo2 (a b : List Nat) : List Nat := if b < a then b else a
noncomputable def hi2 (a b : List Nat) : List Nat := if a < b then b else a
theorem hi_lo (a b : List Nat) : ¬ hi2 a b < lo2 a b := by
  unfold lo2 hi2
  by_cases h1 : a < b
  · have h2 : ¬ b < a := fun h => List.lt_irrefl _ (List.lt_trans h1 h)
    rw [if_pos h1, if_neg h2]; exact h2
  · rw [if_neg h1]
    by_cases h2 : b < a
    · rw [if_pos h2]; exact h1
    · rw [if_neg h2]; exact List.lt_irrefl _
theorem cp_lo (a b : List Nat) : cp (lo2 a b) (hi2 a b) = cp a b := by
  unfold lo2 hi2
  by_cases h1 : a < b
  · have h2 : ¬ b < a := fun h => List.lt_irrefl _ (List.lt_trans h1 h)
    rw [if_pos h1, if_neg h2]
  · rw [if_neg h1]
    by_cases h2 : b < a
    · rw [if_pos h2]; exact cp_comm _ _
    · have e : a = b := List.le_antisymm (List.not_lt.mp h2) (List.not_lt.mp h1)
      subst e; rw [if_neg h2]

theorem fn_prefix (a b : List Nat) (ha : ∀ c ∈ a, c < 128) (hb : ∀ c ∈ b, c < 128) (la : a.length ≤ 1000) (lb : b.length ≤ 1000) : Fn (XX w q) 1 49 [.tup [Sd a, Sd b]] (Sd (cp a b)) := by
  refine Fn.enter (ps := [("m", .tup [Sd a, Sd b])]) rfl rfl rfl rfl rfl rfl rfl rfl rfl rfl (Bnd.plain (ns := ["m"]) rfl ?_) rfl ?_
  · intro vs hv
    obtain ⟨_, rfl⟩ := len1 hv; rfl
  · intro A s₀ R G env he F O
    subst he
    refine Ex.step (Es.asgL F (Ev.callB F rfl rfl rfl (by decide) rfl (.inl ⟨_, rfl⟩) rfl rfl (Evs.cons F rfl (Ev.loc F rfl rfl rfl) .nil) (Fc.minT2 R.hd)) rfl rfl) ?_
    refine Ex.step (Es.asgL F (Ev.callB F rfl rfl rfl (by decide) rfl (.inl ⟨_, rfl⟩) rfl rfl (Evs.cons F rfl (Ev.loc F rfl rfl rfl) .nil) (Fc.maxT2 R.hd)) rfl rfl) ?_
    show Ex _ _ _ _ (upd (upd _ "s1" (Sd (lo2 a b))) "s2" (Sd (hi2 a b))) _ _
    have hlo : ∀ c ∈ lo2 a b, c < 128 := by unfold lo2; split <;> assumption
    have llo : (lo2 a b).length ≤ 1000 := by unfold lo2; split <;> assumption
    have lhi : (hi2 a b).length ≤ 1000 := by unfold hi2; split <;> assumption
    have hn := hi_lo a b
    rw [← cp_lo a b]
    generalize lo2 a b = lo at *
    generalize hi2 a b = hi at *
    refine Ex.cons (K1 := fun o => o = .ret (Sd (cp lo hi)) ∨ ∃ ρ', o = .next ρ' ∧ ρ' "s1" = some (Sd lo) ∧ cp lo hi = lo) (Es.forEnum (d := Sd lo) (ds := lo.map fun c => Sd [c]) F R.hd rfl rfl rfl (Ev.loc F rfl rfl rfl) (Enb.str R.hd hlo) rfl rfl
      (fun i ρ' => ρ' "s1" = some (Sd lo) ∧ ρ' "s2" = some (Sd hi) ∧ lo.take i = hi.take i) ⟨rfl, rfl, rfl⟩ ?_ ?_ (fun _ => rfl) (fun b h => h.elim)) ?_ ?_
    · rintro i d ρ' hd ⟨e1, e2, et⟩
      rw [List.getElem?_map] at hd
      obtain ⟨c, hc, rfl⟩ := Option.map_eq_some_iff.mp hd
      have hlt := (List.getElem?_eq_some_iff.mp hc).1
      have hlt2 := longer et hlt hn
      have hh : hi[i]? = some hi[i] := List.getElem?_eq_getElem hlt2
      generalize hi[i] = y at hh
      refine Ex.cons (K1 := fun o => (o = .ret (Sd (lo.take i)) ∧ c ≠ y) ∨ (o = .next (upd (upd ρ' "i" (.int i)) "c" (Sd [c])) ∧ c = y)) (Es.iff (b := S [c] != S [y]) F (Ts.cmp F (Ev.loc F rfl rfl rfl) (Ev.itemS F (Ev.loc F rfl e2 rfl) (Ev.loc F rfl rfl rfl) (by omega) (by omega) hh (fun _ _ => rfl)) op_neS rfl) ?_ ?_) ?_ ?_
      · intro hb'
        refine Ex.ret (d := Sd (lo.take i)) F ?_ (.inl ⟨rfl, ?_⟩)
        · exact Ev.sliceSto (j := (i : Int)) F (Ev.loc F rfl e1 rfl) (Ev.loc F rfl rfl rfl) (by omega) (by omega) (by rw [sizeLine_eq]; omega)
        · rintro rfl; simp at hb'
      · intro hb'
        refine Ex.nil (.inr ⟨rfl, ?_⟩)
        rw [bne_eq_false_iff_eq] at hb'
        have := S_inj (a := [c]) (b := [y])
        rw [beq_iff_eq.mpr hb'] at this
        simpa using this.symm
      · rintro ρ'' (⟨h, _⟩ | ⟨h, rfl⟩)
        · cases h
        · cases h
          refine Ex.nil ⟨e1, e2, ?_⟩
          rw [List.take_add_one, List.take_add_one, et, hc, hh]
      · rintro o hno (⟨rfl, hne⟩ | ⟨rfl, _⟩)
        · exact .inl (by rw [cp_at i lo hi c y et hc hh hne])
        · exact absurd rfl (hno _)
    · rintro ρ' ⟨e1, e2, et⟩
      refine Ex.nil (.inr ⟨ρ', rfl, e1, ?_⟩)
      rw [List.length_map] at et
      exact cp_all lo hi (by rw [← et]; simp)
    · rintro ρ' (h | ⟨_, h, e1, e2⟩)
      · cases h
      · cases h; rw [e2]; exact Ex.ret F (Ev.loc F rfl e1 rfl) rfl
    · rintro o hno (rfl | ⟨ρ', rfl, _⟩)
      · rfl
      · exact absurd rfl (hno _)
end
end Mine
end H2

section H3
open PySem PySem.W PyProof.Rows
namespace Mine
section
variable {w : World} {q : Bool}

theorem fn_safe_repr (ys : List Str) (t : List Nat) (ht : (PyData.list (ys.map .str)).shown = S t) (hl : t.length ≤ 100000) : Fn (XX w q) 41 69 [.list (ys.map D.str)] (Sd t) := by
  refine Fn.enter (ps := [("obj", .list (ys.map D.str)), ("short", .val (.bool false))]) rfl rfl rfl rfl rfl rfl rfl rfl rfl rfl (Bnd.dflt rfl rfl rfl ?_) rfl ?_
  · intro vs hv
    obtain ⟨v, rfl⟩ := len1 hv
    refine ⟨_, [("obj", v), ("short", .bool false)], rfl, rfl, fun hp rs => ?_⟩
    obtain ⟨v', e, r⟩ := reps1 rs
    cases e
    exact .cons r (.cons (.val _) .nil)
  · intro A s₀ R G env he F O
    subst he
    refine Ex.step (Es.tryOk (Ex.step (Es.asgL F (Ev.callB F rfl rfl rfl (by decide) rfl (.inl ⟨_, rfl⟩) rfl rfl (Evs.cons F rfl (Ev.loc F rfl rfl rfl) .nil) (Fc.reprStrs (R.gd (by omega)) (by have := R.un; show A.units + 20 < 9900; omega) ht (by rw [S_len, sizeLine_eq]; omega))) rfl rfl) (Ex.nil rfl))) ?_
    refine Ex.cons (K1 := fun o => o = .ret (Sd t)) (Es.iff (b := true) F (Ts.orT (Ts.not (b := false) (Ts.val F (Ev.loc F rfl rfl rfl) Tr.bool fun _ => rfl))) (fun _ => Ex.ret F (Ev.loc F rfl rfl rfl) rfl) tf) (fun _ h => nx h) fun o _ h => h

theorem fn_commonprefix (a b : List Nat) (ha : ∀ c ∈ a, c < 128) (hb : ∀ c ∈ b, c < 128) (la : a.length ≤ 1000) (lb : b.length ≤ 1000) : Fn (XX w q) 4 54 [.tup [Sd a, Sd b]] (Sd (cp a b)) := by
  refine Fn.enter (ps := [("m", .tup [Sd a, Sd b])]) rfl rfl rfl rfl rfl rfl rfl rfl rfl rfl (Bnd.plain (ns := ["m"]) rfl ?_) rfl ?_
  · intro vs hv
    obtain ⟨_, rfl⟩ := len1 hv; rfl
  · intro A s₀ R G env he F O
    subst he
    refine Ex.step (Es.iff (b := false) F (Ts.andT (pos' := ⟨0, 0, 0, 0⟩) F (Ts.cmp F (Ev.callB F rfl rfl rfl (by decide) rfl (.inr ⟨_, rfl⟩) rfl rfl (Evs.cons F rfl (Ev.loc F rfl rfl rfl) .nil) Fc.typeT) (Ev.bi F rfl rfl rfl (by decide) rfl) (op_isNotV rfl) rfl)
      (Ts.andF (Ts.cmp F (Ev.callB F rfl rfl rfl (by decide) rfl (.inr ⟨_, rfl⟩) rfl rfl (Evs.cons F rfl (Ev.loc F rfl rfl rfl) .nil) Fc.typeT) (Ev.bi F rfl rfl rfl (by decide) rfl) (op_isNotV rfl) rfl))) ff fun _ => Ex.nil rfl) ?_
    refine Ex.step (Es.iff (b := false) F (Ts.not (b := true) (Ts.val F (Ev.loc F rfl rfl rfl) (Tr.tup (by simp)) fun _ => rfl)) ff fun _ => Ex.nil rfl) ?_
    refine Ex.step (Es.asgL F (Ev.callB F rfl rfl rfl (by decide) rfl (.inr ⟨_, rfl⟩) rfl rfl (Evs.cons F rfl (Ev.itemT F (Ev.loc F rfl rfl rfl) Ev.cInt (by decide) (by decide) rfl (fun _ _ => rfl)) .nil) Fc.typeS) rfl rfl) ?_
    refine Ex.step (Es.iff (b := false) F (Ts.orF (pos' := ⟨0, 0, 0, 0⟩) F (Ts.cmp F (Ev.loc F rfl rfl rfl) (Ev.bi F rfl rfl rfl (by decide) rfl) (op_isV rfl) rfl) (Ts.orF (pos' := ⟨0, 0, 0, 0⟩) F (Ts.cmp F (Ev.loc F rfl rfl rfl) (Ev.bi F rfl rfl rfl (by decide) rfl) (op_isV rfl) rfl) Ts.orNil)) ff fun _ => Ex.nil rfl) ?_
    have fl : ∀ d ∈ [Sd a, Sd b], d.flat = true := by intro d hd; simp at hd; rcases hd with rfl | rfl <;> rfl
    refine Ex.cons (K1 := fun o => ∃ ρ', o = .next ρ' ∧ ρ' "m" = some (.tup [Sd a, Sd b])) (Es.for F (Ev.loc F rfl rfl rfl) (Itb.tup R.hd fl) rfl (fun i ρ' => ρ' "m" = some (.tup [Sd a, Sd b])) rfl ?_ (fun ρ' e => Ex.nil ⟨ρ', rfl, e⟩) (fun _ => rfl) (fun _ h => h)) ?_ ?_
    · intro i d ρ' hd e
      have hds : ∃ l, d = Sd l := by
        match i, hd with
        | 0, hd => simp at hd; exact ⟨a, hd.symm⟩
        | 1, hd => simp at hd; exact ⟨b, hd.symm⟩
        | i + 2, hd => simp at hd
      obtain ⟨l, rfl⟩ := hds
      have ec : (Str.ofString "commonprefix") = S [99, 111, 109, 109, 111, 110, 112, 114, 101, 102, 105, 120] := by decide +kernel
      exact Ex.step (Es.expr (d := Sd []) F (Ev.callG F rfl rfl rfl rfl rfl rfl rfl (Evs.cons F rfl Ev.cStr (Evs.cons F rfl (Ev.loc F rfl rfl rfl) .nil)) (ec ▸ fn_kind _ l A (R.less (by omega)))) rfl rfl rfl) (Ex.nil e)
    · rintro ρ' ⟨_, h, e⟩
      cases h
      have ec : (Str.ofString "commonprefix") = S [99, 111, 109, 109, 111, 110, 112, 114, 101, 102, 105, 120] := by decide +kernel
      have ecomp : [Sd a, Sd b].filterMap some = [Sd a, Sd b] := rfl
      refine Ex.ret F (Ev.callG F rfl rfl rfl rfl rfl rfl rfl (Evs.cons F rfl (Ev.callB (ds := [.list [Sd a, Sd b]]) F rfl rfl rfl (by decide) rfl (.inr ⟨_, rfl⟩) rfl rfl (Evs.cons F rfl (Ev.comp (cl := []) some F (Ev.loc F rfl e rfl) (Itb.tup R.hd fl) (by simp [sizeLine_eq]) rfl (by decide) rfl (by decide) rfl rfl ?_ (fun _ => rfl)) .nil) (Fc.tupleL (by simp [sizeLine_eq]))) .nil) (fn_prefix a b ha hb la lb A (R.less (by omega)))) rfl
      intro d hd s C cenv hc Gs' F'
      subst hc
      have hds : ∃ l, d = Sd l := by simp at hd; rcases hd with rfl | rfl <;> exact ⟨_, rfl⟩
      obtain ⟨l, rfl⟩ := hds
      exact ⟨rfl, Tests.nil, Ev.callG F' rfl rfl rfl rfl rfl rfl rfl (Evs.cons F' rfl Ev.cStr (Evs.cons F' rfl (Ev.loc F' rfl rfl rfl) .nil)) (ec ▸ fn_fspath _ l A (R.less (by omega)))⟩
    · rintro o hno ⟨ρ', rfl, _⟩
      exact absurd rfl (hno _)
end
end Mine
end H3

section H4
open PySem PySem.W PyProof.Rows
namespace Mine
/-- what the pair is shortened to -/
noncomputable def told1 (a b x : List Nat) : List Nat :=
  if max a.length b.length ≤ 80 then x else
  if max a.length b.length < 58 + (cp a b).length then shorten (cp a b) 5 (63 + (cp a b).length - max a.length b.length) ++ x.drop (cp a b).length
  else shorten (cp a b) 5 5 ++ shorten (x.drop (cp a b).length) 41 5
theorem num_len {n : Nat} (h : n < 1000) : (num n).length ≤ 3 := by
  have : ∀ n : Fin 1000, (num n.1).length ≤ 3 := by decide +kernel
  exact this ⟨n, h⟩
theorem shorten_len {l : List Nat} {p s : Nat} (h : l.length ≤ 200) : (shorten l p s).length ≤ p + s + 12 := by
  unfold shorten
  split
  · rename_i h1
    have h2 := num_len (n := l.length - p - s) (Nat.lt_of_le_of_lt (Nat.le_trans (Nat.sub_le _ _) (Nat.le_trans (Nat.sub_le _ _) h)) (by decide))
    generalize num (l.length - p - s) = d at *
    simp only [List.length_append, List.length_cons, List.length_take, List.length_drop, List.length_nil]
    clear h
    omega
  · rename_i h1; exact Nat.not_lt.mp h1

theorem flat2 (a b : List Nat) : ∀ d ∈ [Sd a, Sd b], d.flat = true := fun d hd => by
  rcases List.mem_cons.mp hd with rfl | hd
  · rfl
  · rw [List.mem_singleton.mp hd]; rfl
theorem op_addSd {X : Cx} {A : Around} {x y : List Nat} (hf : x.length + y.length ≤ sizeLine) : Op2 X A (binaryOp .Add) (Sd x) (Sd y) (Sd (x ++ y)) := by
  have := op_addS (X := X) (A := A) (x := S x) (y := S y) (by rw [S_len, S_len]; exact hf)
  rw [S_app] at this
  exact this
section
variable {w : World}
theorem fn_common (ys zs : List Str) (a b : List Nat) (hta : (PyData.list (ys.map .str)).shown = S a) (htb : (PyData.list (zs.map .str)).shown = S b) (ha : ∀ c ∈ a, c < 128) (hb : ∀ c ∈ b, c < 128) (la : a.length ≤ 200) (lb : b.length ≤ 200) :
    Fn (XX w false) 45 61 [.list (ys.map D.str), .list (zs.map D.str)] (.tup [Sd (told1 a b a), Sd (told1 a b b)]) := by
  refine Fn.enter (ps := [("args", .tup [.list (ys.map D.str), .list (zs.map D.str)])]) rfl rfl rfl rfl rfl rfl rfl rfl rfl rfl (Bnd.star ?_) rfl ?_
  · intro v1 v2; rfl
  · intro A s₀ R G env he F O
    subst he
    have R4 : Rm 41 A.in1.in1.in1.in1 := (R.less (m := 42) (Nat.le_of_ble_eq_true rfl)).in4
    refine Ex.step (Es.asgL F (Ev.tupMap (rs := [Sd a, Sd b]) F R.hd rfl rfl rfl rfl rfl rfl rfl (Evs.cons F rfl (Ev.glob F rfl rfl (fun _ _ => .val _) rfl) (Evs.cons F rfl (Ev.loc F rfl rfl rfl) .nil)) rfl (sz (Nat.le_of_ble_eq_true rfl)) (flat2 _ _) ?_) rfl rfl) ?_
    · intro i d r hd hr
      exact pair_get (P := fun d r => Fc _ _ _ [d] r) (fn_safe_repr (q := true) ys a hta (lek la rfl) _ R4) (fn_safe_repr (q := true) zs b htb (lek lb rfl) _ R4) i d r hd hr
    refine Ex.step (Es.asgL F (Ev.maxMap (a := a.length) (b := b.length) F R.hd rfl rfl rfl rfl rfl rfl rfl (Evs.cons F rfl (Ev.bi F rfl rfl rfl (by decide) rfl) (Evs.cons F rfl (Ev.loc F rfl rfl rfl) .nil)) rfl ?_) rfl rfl) ?_
    · intro i d r hd hr
      exact pair_get (P := fun d r => Fc _ _ _ [d] r) (Fc.lenS (p60 (lek la rfl))) (Fc.lenS (p60 (lek lb rfl))) i d r hd hr
    have em : max (a.length : Int) b.length = ((max a.length b.length : Nat) : Int) := by omega
    rw [em]
    generalize hm : max a.length b.length = m
    have hml : m ≤ 200 := by omega
    have hpa := cp_len_le a b
    have hpb : (cp a b).length ≤ b.length := by rw [cp_comm]; exact cp_len_le b a
    generalize hp : cp a b = pre at *
    have ga : ∀ x : List Nat, told1 a b x = if m ≤ 80 then x else if m < 58 + pre.length then shorten pre 5 (63 + pre.length - m) ++ x.drop pre.length else shorten pre 5 5 ++ shorten (x.drop pre.length) 41 5 := by
      intro x; unfold told1; rw [hm, hp]
    have fl : ∀ d ∈ [Sd a, Sd b], d.flat = true := flat2 _ _
    by_cases h80 : m ≤ 80
    · rw [ga, ga, if_pos h80, if_pos h80]
      refine Ex.cons (K1 := fun o => o = .ret (.tup [Sd a, Sd b])) (Es.iff (b := decide ((m : Int) ≤ 80)) F (Ts.cmp F (Ev.loc F rfl rfl rfl) (Ev.glob F rfl rfl (fun _ _ => .int ..) rfl) op_leI rfl) (fun _ => Ex.ret F (Ev.loc F rfl rfl rfl) rfl) (fun h => absurd (of_decide_eq_false h) (by omega))) (fun _ h => nx h) fun o _ h => h
    · rw [ga, ga, if_neg h80, if_neg h80]
      refine Ex.step (Es.iff (b := decide ((m : Int) ≤ 80)) F (Ts.cmp F (Ev.loc F rfl rfl rfl) (Ev.glob F rfl rfl (fun _ _ => .int ..) rfl) op_leI rfl) (fun h => absurd (of_decide_eq_true h) (by omega)) fun _ => Ex.nil rfl) ?_
      have fcp := fn_commonprefix (w := w) (q := false) a b ha hb (lek la rfl) (lek lb rfl) A (R.less (Nat.le_of_ble_eq_true rfl))
      rw [hp] at fcp
      refine Ex.step (Es.asgC F O (Ev.callG F rfl rfl rfl rfl rfl rfl rfl (Evs.cons F rfl (Ev.loc F rfl rfl rfl) .nil) fcp) rfl rfl) ?_
      refine Ex.step (Es.asgC F O (Ev.callB F rfl rfl rfl (by decide) rfl (.inl ⟨_, rfl⟩) rfl rfl (Evs.cons F rfl (Ev.cell F rfl rfl rfl) .nil) (Fc.lenS (p60 (Nat.le_trans hpa (lek la rfl))))) rfl rfl) ?_
      refine Ex.step (Es.asgL F (Ev.bin F (Ev.glob F rfl rfl (fun _ _ => .int ..) rfl) (Ev.bin F (Ev.bin F (Ev.bin F (Ev.loc F rfl rfl rfl) (Ev.cell F rfl rfl rfl) op_subI) (Ev.glob F rfl rfl (fun _ _ => .int ..) rfl) op_addI) (Ev.glob F rfl rfl (fun _ _ => .int ..) rfl) op_addI) op_subI) rfl rfl) ?_
      by_cases h58 : m < 58 + pre.length
      · rw [if_pos h58, if_pos h58]
        have ecl : (80 : Int) - ((m : Int) - pre.length + 5 + 12) = ((63 + pre.length - m : Nat) : Int) := by omega
        rw [ecl]
        refine Ex.cons (K1 := fun o => o = .ret (.tup [Sd (shorten pre 5 (63 + pre.length - m) ++ a.drop pre.length), Sd (shorten pre 5 (63 + pre.length - m) ++ b.drop pre.length)])) (Es.iff (b := decide (((63 + pre.length - m : Nat) : Int) > 5)) F (Ts.cmp F (Ev.loc F rfl rfl rfl) (Ev.glob F rfl rfl (fun _ _ => .int ..) rfl) op_gtI rfl) (fun _ => ?_) (fun h => absurd (of_decide_eq_false h) (by omega))) (fun _ h => nx h) fun o _ h => h
        have et : decide ((5 : Int) + 12 + 5 + ((m : Int) - pre.length) < 80) = true := decide_eq_true (by omega)
        refine Ex.step (Es.assert F (et ▸ Ts.cmp F (Ev.bin F (Ev.bin F (Ev.bin F (Ev.glob F rfl rfl (fun _ _ => .int ..) rfl) (Ev.glob F rfl rfl (fun _ _ => .int ..) rfl) op_addI) (Ev.glob F rfl rfl (fun _ _ => .int ..) rfl) op_addI) (Ev.bin F (Ev.loc F rfl rfl rfl) (Ev.cell F rfl rfl rfl) op_subI) op_addI) (Ev.glob F rfl rfl (fun _ _ => .int ..) rfl) op_ltI rfl)) ?_
        refine Ex.step (Es.asgC F O (Ev.callG F rfl rfl rfl rfl rfl rfl rfl (Evs.cons F rfl (Ev.cell F rfl rfl rfl) (Evs.cons F rfl (Ev.glob F rfl rfl (fun _ _ => .int ..) rfl) (Evs.cons F rfl (Ev.loc F rfl rfl rfl) .nil))) (fn_shorten pre 5 (63 + pre.length - m) (Nat.le_trans hpa (lek la rfl)) (Nat.le_of_ble_eq_true rfl) (Nat.le_trans (Nat.sub_le _ _) (Nat.le_trans (Nat.add_le_add_left (Nat.le_trans hpa la) 63) (Nat.le_of_ble_eq_true rfl))) A (R.less (Nat.le_of_ble_eq_true rfl)))) rfl rfl) ?_
        have hsl := Nat.le_trans (shorten_len (l := pre) (p := 5) (s := 63 + pre.length - m) (Nat.le_trans hpa la)) (Nat.add_le_add_right (Nat.add_le_add_left (Nat.le_trans (Nat.sub_le _ _) (Nat.add_le_add_left (Nat.le_trans hpa la) 63)) 5) 12)
        generalize shorten pre 5 (63 + pre.length - m) = sp at *
        refine Ex.ret F (Ev.tupGen (rs := [Sd (sp ++ a.drop pre.length), Sd (sp ++ b.drop pre.length)]) F rfl R.hd R.room rfl rfl rfl rfl (Ev.loc F rfl rfl rfl) fl rfl (sz (Nat.le_of_ble_eq_true rfl)) (flat2 _ _) rfl rfl (by decide) rfl rfl rfl rfl ?_ (fun _ => rfl)) rfl
        intro i d r hd hr s C code cenv A' hc hA hD hU G' F'
        subst hc
        have hx : ∃ x : List Nat, d = Sd x ∧ r = Sd (sp ++ x.drop pre.length) ∧ pre.length ≤ x.length ∧ x.length ≤ 200 := by
          exact pair_get (P := fun d r => ∃ x : List Nat, d = Sd x ∧ r = Sd (sp ++ x.drop pre.length) ∧ pre.length ≤ x.length ∧ x.length ≤ 200) ⟨a, rfl, rfl, hpa, la⟩ ⟨b, rfl, rfl, hpb, lb⟩ i d r hd hr
        obtain ⟨x, rfl, rfl, hlx, hx2⟩ := hx
        exact Ev.bin F' (Ev.free F' rfl rfl rfl rfl) (Ev.sliceSfrom (l := x) (j := (pre.length : Int)) F' (Ev.loc F' rfl rfl rfl) (Ev.free F' rfl rfl rfl rfl) (Int.natCast_nonneg _) (Int.ofNat_le.mpr hlx) (sz (lek hx2 rfl))) (op_addSd (sz (Nat.le_trans (Nat.add_le_add hsl (drL hx2)) (Nat.le_of_ble_eq_true rfl))))
      · rw [if_neg h58, if_neg h58]
        refine Ex.step (Es.iff (b := decide (((80 : Int) - ((m : Int) - pre.length + 5 + 12)) > 5)) F (Ts.cmp F (Ev.loc F rfl rfl rfl) (Ev.glob F rfl rfl (fun _ _ => .int ..) rfl) op_gtI rfl) (fun h => absurd (of_decide_eq_true h) (by omega)) (fun _ => Ex.nil rfl)) ?_
        refine Ex.step (Es.asgC F O (Ev.callG F rfl rfl rfl rfl rfl rfl rfl (Evs.cons F rfl (Ev.cell F rfl rfl rfl) (Evs.cons F rfl (Ev.glob F rfl rfl (fun _ _ => .int ..) rfl) (Evs.cons F rfl (Ev.glob F rfl rfl (fun _ _ => .int ..) rfl) .nil))) (fn_shorten pre 5 5 (Nat.le_trans hpa (lek la rfl)) (Nat.le_of_ble_eq_true rfl) (Nat.le_of_ble_eq_true rfl) A (R.less (Nat.le_of_ble_eq_true rfl)))) rfl rfl) ?_
        have hsl := shorten_len (l := pre) (p := 5) (s := 5) (Nat.le_trans hpa la)
        generalize shorten pre 5 5 = sp at *
        refine Ex.ret F (Ev.tupGen (rs := [Sd (sp ++ shorten (a.drop pre.length) 41 5), Sd (sp ++ shorten (b.drop pre.length) 41 5)]) F rfl R.hd R.room rfl rfl rfl rfl (Ev.loc F rfl rfl rfl) fl rfl (sz (Nat.le_of_ble_eq_true rfl)) (flat2 _ _) rfl rfl (by decide) rfl rfl rfl rfl ?_ (fun _ => rfl)) rfl
        intro i d r hd hr s C code cenv A' hc hA hD hU G' F'
        subst hc
        have hx : ∃ x : List Nat, d = Sd x ∧ r = Sd (sp ++ shorten (x.drop pre.length) 41 5) ∧ pre.length ≤ x.length ∧ x.length ≤ 200 := by
          exact pair_get (P := fun d r => ∃ x : List Nat, d = Sd x ∧ r = Sd (sp ++ shorten (x.drop pre.length) 41 5) ∧ pre.length ≤ x.length ∧ x.length ≤ 200) ⟨a, rfl, rfl, hpa, la⟩ ⟨b, rfl, rfl, hpb, lb⟩ i d r hd hr
        obtain ⟨x, rfl, rfl, hlx, hx2⟩ := hx
        have hsl2 := shorten_len (l := x.drop pre.length) (p := 41) (s := 5) (drL hx2)
        have R' : Rm 1 A' := ⟨hA, fun h => absurd h (by omega), by have := R.dp; omega, by have := R.un; omega⟩
        exact Ev.bin F' (Ev.free F' rfl rfl rfl rfl) (Ev.callG F' rfl rfl rfl rfl rfl rfl rfl (Evs.cons F' rfl (Ev.sliceSfrom (l := x) (j := (pre.length : Int)) F' (Ev.loc F' rfl rfl rfl) (Ev.free F' rfl rfl rfl rfl) (Int.natCast_nonneg _) (Int.ofNat_le.mpr hlx) (sz (lek hx2 rfl))) (Evs.cons F' rfl (Ev.glob F' rfl rfl (fun _ _ => .int ..) rfl) (Evs.cons F' rfl (Ev.glob F' rfl rfl (fun _ _ => .int ..) rfl) .nil))) (fn_shorten (q := true) (x.drop pre.length) 41 5 (drL (lek hx2 rfl)) (Nat.le_of_ble_eq_true rfl) (Nat.le_of_ble_eq_true rfl) A' R')) (op_addSd (sz (Nat.le_trans (Nat.add_le_add hsl hsl2) (Nat.le_of_ble_eq_true rfl))))
end
end Mine
end H4

section H5
open PySem PySem.W PyProof.Rows
namespace Mine
theorem num_digits {n : Nat} (h : n < 1000) : 91 ∉ num n ∧ 104 ∉ num n := by
  have : ∀ n : Fin 1000, 91 ∉ num n.1 ∧ 104 ∉ num n.1 := by decide +kernel
  exact this ⟨n, h⟩
/-- what the answer spreads to -/
noncomputable def spr : List (List Nat × Nat) → List Nat → List Nat
  | [], last => last
  | s :: ss, last => s.1 ++ List.replicate s.2 42 ++ spr ss last
noncomputable def piece (s : List Nat × Nat) : List Nat := s.1 ++ 91 :: num s.2
theorem mul_star (n : Nat) : Txt.mul (S [42]) (n : Int) = S (List.replicate n 42) := by
  have h := mul_one_list 42 (n : Int)
  have : (Txt.mul (S [42]) (n : Int)).cps = (List.replicate n 42).toArray := by rw [← Array.toList_inj]; simpa using h
  exact congrArg Str.mk this
theorem spr_snoc : ∀ (ss : List (List Nat × Nat)) (s : List Nat × Nat), spr (ss ++ [s]) [] = spr ss [] ++ s.1 ++ List.replicate s.2 42
  | [], s => by simp [spr]
  | t :: ss, s => by simp [spr, spr_snoc ss s]
theorem spr_last : ∀ (ss : List (List Nat × Nat)) (last : List Nat), spr ss last = spr ss [] ++ last
  | [], last => by simp [spr]
  | t :: ss, last => by simp [spr, spr_last ss last]
theorem spr_take_le : ∀ (ss : List (List Nat × Nat)) (i : Nat), (spr (ss.take i) []).length ≤ (spr ss []).length
  | [], i => by simp
  | t :: ss, 0 => by simp [spr]
  | t :: ss, i + 1 => by have := spr_take_le ss i; simp [spr] at *; omega

theorem Ev.cv {X : Cx} {A : Around} {s₀ : Shared} {env : Env} {ρ : Str → Option D} {e : Expr} {d d' : D} (h : d = d') (he : Ev X A s₀ env ρ e d) : Ev X A s₀ env ρ e d' := h ▸ he
theorem Ev.cS {X : Cx} {A : Around} {s₀ : Shared} {env : Env} {ρ : Str → Option D} {x : Str} {l : List Nat} {k : Nat} {pos : Pos} (h : x = S l) : Ev X A s₀ env ρ (.Constant (.str x) k pos) (Sd l) := by
  subst h; exact Ev.cStr
section
variable {w : World} {q : Bool}
theorem fn_spread (segs : List (List Nat × Nat)) (last T : List Nat) (hT : T = body (segs.map piece) last) (hs : ∀ s ∈ segs, 104 ∉ s.1 ∧ s.2 < 1000 ∧ s.1.length ≤ 1000) (hl : 104 ∉ last) (hlT : T.length ≤ 1000) (hlen : (spr segs last).length ≤ 100000) :
    Fn (XX w q) 1 123 [Sd T] (Sd (spr segs last)) := by
  refine Fn.enter (ps := [("answer", Sd T)]) rfl rfl rfl rfl rfl rfl rfl rfl rfl rfl (Bnd.plain (ns := ["answer"]) rfl ?_) rfl ?_
  · intro vs hv
    obtain ⟨_, rfl⟩ := len1 hv; rfl
  · intro A s₀ R G env he F O
    subst he
    have ec : Str.ofString " chars]" = S chars := by decide +kernel
    have eb : Str.ofString "[" = S [91] := by decide +kernel
    have es : Str.ofString "*" = S [42] := by decide +kernel
    have hp : ∀ p ∈ segs.map piece, 104 ∉ p := by
      intro p hp
      obtain ⟨s, hs', rfl⟩ := List.mem_map.mp hp
      obtain ⟨h1, h2, _⟩ := hs s hs'
      unfold piece
      simp only [List.mem_append, List.mem_cons, not_or]
      exact ⟨h1, by decide, (num_digits h2).2⟩
    have esp : Txt.split (S T) (S chars) = (segs.map piece).map S ++ [S last] := by rw [hT]; exact split_body _ _ hp hl
    have fsp : Fc (XX w q) A (.builtin "str.split") [Sd T, .str (S chars)] (.list ((segs.map fun s => Sd (piece s)) ++ [Sd last])) := by
      have := Fc.split (X := XX w q) (A := A) (x := S T) (y := S chars) (by decide +kernel) (by rw [S_len]; exact sz (lek (Nat.add_le_add_right hlT 2) rfl))
      rw [esp, List.map_append, List.map_map, List.map_map] at this
      exact this
    refine Ex.step (Es.asgL F (Ev.cS ofS_nil) rfl rfl) ?_
    refine Ex.step (Es.asgL F (Ev.methS F (Ev.loc F rfl rfl rfl) rfl rfl (Evs.cons F rfl (Ev.cS ec) .nil) (fun _ => rfl) rfl rfl PySem.F.slot_str_split PySem.F.type_str_split fsp) rfl rfl) ?_
    have hpl : ((segs.map fun s => Sd (piece s)) ++ [Sd last]).length ≤ sizeLine := by
      have : (segs.map piece).length ≤ T.length := by
        rw [hT]
        clear hT hlT hlen esp fsp hp hs
        induction segs with
        | nil => simp
        | cons s ss ih => simp [body, piece] at *; omega
      rw [List.length_append, List.length_map]
      rw [List.length_map] at this
      exact sz (lek (Nat.add_le_add_right (Nat.le_trans this hlT) 1) rfl)
    have etk : ((segs.map fun s => Sd (piece s)) ++ [Sd last]).take (((segs.map fun s => Sd (piece s)) ++ [Sd last]).length - 1) = segs.map fun s => Sd (piece s) := by simp
    refine Ex.cons (K1 := fun o => ∃ ρ', o = .next ρ' ∧ ρ' "parts" = some (.list ((segs.map fun s => Sd (piece s)) ++ [Sd last])) ∧ ρ' "whole" = some (Sd (spr segs [])))
      (Es.for (ds := segs.map fun s => Sd (piece s)) F (Ev.cv (congrArg D.list etk) (Ev.sliceLbut F (Ev.loc F rfl rfl rfl) (Ev.un F Ev.cInt op_negI) hpl)) (Itb.list R.hd (flatM fun _ => rfl)) rfl
        (fun i ρ' => ρ' "parts" = some (.list ((segs.map fun s => Sd (piece s)) ++ [Sd last])) ∧ ρ' "whole" = some (Sd (spr (segs.take i) []))) ⟨rfl, rfl⟩ ?_ ?_ (fun _ => rfl) (fun _ h => h)) ?_ ?_
    · rintro i d ρ' hd ⟨e1, e2⟩
      rw [List.getElem?_map] at hd
      obtain ⟨s, hsi, rfl⟩ := Option.map_eq_some_iff.mp hd
      obtain ⟨hs1, hs2, hs3⟩ := hs s (List.mem_of_getElem? hsi)
      have hle := spr_take_le segs i
      have hle2 : (spr segs []).length ≤ (spr segs last).length := by rw [spr_last segs last]; simp
      have hle3 := Nat.le_trans hle (Nat.le_trans hle2 hlen)
      refine Ex.step (Es.unpack2 (d1 := Sd s.1) (d2 := Sd (num s.2)) F R.hd (Ev.methS F (Ev.loc F rfl rfl rfl) rfl rfl (Evs.cons F rfl (Ev.cS eb) (Evs.cons F rfl Ev.cInt .nil)) (fun _ => rfl) rfl rfl PySem.F.slot_str_rsplit PySem.F.type_str_rsplit (Fc.rsplit (by decide +kernel) (by rw [S_len]; unfold piece; rw [List.length_append, List.length_cons]; exact sz (lek (Nat.add_le_add_right (Nat.add_le_add hs3 (Nat.add_le_add_right (num_len hs2) 1)) 2) rfl)) (rsplit_one _ _ (num_digits hs2).1))) rfl rfl rfl rfl) ?_
      refine Ex.step (Es.asgL (d := Sd (spr (segs.take i) [] ++ s.1 ++ List.replicate s.2 42)) F (Ev.bin F (Ev.bin F (Ev.loc F rfl e2 rfl) (Ev.loc F rfl rfl rfl) (op_addSd (sz7 (lek (Nat.add_le_add hle3 hs3) rfl)))) (d2 := Sd (List.replicate s.2 42)) (Ev.cv (congrArg D.str (mul_star s.2)) <| Ev.bin F (Ev.cS es) (Ev.callB F rfl rfl rfl (by decide) rfl (.inr ⟨_, rfl⟩) rfl rfl (Evs.cons F rfl (Ev.loc F rfl rfl rfl) .nil) (Fc.intNum (Nat.lt_of_lt_of_le hs2 (by decide)))) (op_mulS (mulOk_of 1 1000 (by decide) (by omega) (by omega) (by omega) (by omega)))) (op_addSd (by rw [List.length_append, List.length_replicate]; exact sz7 (lek (Nat.add_le_add (Nat.add_le_add hle3 hs3) (Nat.le_of_lt hs2)) rfl)))) rfl rfl) (Ex.nil ⟨e1, ?_⟩)
      show some _ = some _
      rw [List.take_add_one, hsi, Option.toList_some, spr_snoc]
    · rintro ρ' ⟨e1, e2⟩
      rw [List.length_map, List.take_length] at e2
      exact Ex.nil ⟨ρ', rfl, e1, e2⟩
    · rintro ρ' ⟨_, h, e1, e2⟩
      cases h
      have hle2 : (spr segs last).length = (spr segs []).length + last.length := by rw [spr_last segs last]; simp
      refine Ex.ret (d := Sd (spr segs [] ++ last)) F (Ev.bin F (Ev.loc F rfl e2 rfl) (Ev.sub F (Ev.loc F rfl e1 rfl) (Ev.un F Ev.cInt op_negI) tyList slot_list_getitem.lookup (op_itemLn (d := Sd last) (by decide) (by simp; omega) (by decide) ?_) (fun _ _ => rfl)) (op_addSd (sz (hle2 ▸ hlen)))) (by rw [spr_last segs last])
      have e3 : ((-1 : Int) + ((((segs.map fun s => Sd (piece s)) ++ [Sd last]).length : Nat) : Int)).toNat = segs.length := by
        simp only [List.length_append, List.length_map, List.length_cons, List.length_nil]; omega
      show ((segs.map fun s => Sd (piece s)) ++ [Sd last])[((-1 : Int) + ((((segs.map fun s => Sd (piece s)) ++ [Sd last]).length : Nat) : Int)).toNat]? = _
      rw [e3, List.getElem?_append_right (by simp)]
      simp
    · rintro o hno ⟨ρ', rfl, _⟩
      exact absurd rfl (hno _)
end
end Mine
end H5

section M1
open PySem PySem.W PyProof.Rows
namespace Mine

noncomputable def muCx (X : Cx) (a : Addr) : Cx := { X with mu := fun b => b = a }
section
variable {X : Cx} {A : Around} {s₀ : Shared} {env : Env} {ρ : Str → Option D} {K : Out → Prop} {a : Addr}

theorem Gs.muS {s : Shared} (G : Gs X s) : Gs (muCx X a) s := ⟨⟨G.gd.k, G.gd.kP, G.gd.g, G.gd.b, G.gd.lim, G.gd.dig, G.gd.p0, G.gd.bm⟩, G.tab, G.bare⟩
theorem Grow.muS {s s' : Shared} (g : Grow X s s') : Grow (muCx X a) s s' := ⟨g.keep, g.tab, g.tok, g.os, g.bare, g.gens, g.quiet⟩
theorem Grow.unmu {s s' : Shared} (g : Grow (muCx X a) s s') : Grow X s s' := ⟨g.keep, g.tab, g.tok, g.os, g.bare, g.gens, g.quiet⟩
theorem Fm.muS (F : Fm X s₀ env) : Fm (muCx X a) s₀ env := ⟨F.kind, F.glob, F.bi, F.above, F.g0.muS⟩
theorem St.muS {s : Shared} (S : St X s₀ env ρ s) : St (muCx X a) s₀ env ρ s := ⟨S.gs.muS, S.grow.muS, S.loc, S.cel, S.own⟩

theorem own_lt {s : Shared} {x : Str} {l : List D} (S : St X s₀ env ρ s) (hx : env.kindOf x = some .local) (hρ : ρ x = some (.own a l)) : a < s.heap.objs.size := by
  obtain ⟨m, hn, hm⟩ := S.loc
  obtain ⟨v, hv, r⟩ := hm x _ hx hρ
  cases r with | own e rs => exact Heap.lt_size e

/-- a new list that its frame alone turns -/
theorem Ex.newOwn {x : Str} {px lp pos : Pos} {ss : List Stmt} {r : D} (F : Fm X s₀ env) (hx : env.kindOf x = some .local) (hs : swapsWith (.List [] lp) (some (.Name x px)) pos.line env = pure false)
    (h : ∀ a, s₀.heap.objs.size ≤ a → Ex (muCx X a) A s₀ env (upd ρ x (.own a [])) ss (fun o => o = .ret r)) : Ex X A s₀ env ρ (.Assign [.Name x px] (.List [] lp) pos :: ss) (fun o => o = .ret r) := fun s E S => by
  refine wpAny_execs_cons (wpAny_Assign_Name (wpAny_List (wpAny_items_nil ⟨Nat.zero_le _, ?_⟩)) hs)
  have g : Grow X s { s with heap := s.heap.push { cls := .type "list", data := .seq ([] : List Value).toArray } } := .push
  have S1 := S.grown F g
  obtain ⟨m, hn, _⟩ := S.loc
  have sz : s₀.heap.objs.size ≤ s.heap.objs.size := Nat.le_of_lt (Nat.lt_of_le_of_lt F.above hn.lt)
  refine store_local F S1 hx (.own (n := 0) (vs := []) (ds := []) (Heap.get?_push_size _ rfl) .nil) fun s2 S2 m2 => ?_
  refine wpAny_mono (h _ sz s2 E S2.muS) (fun f s3 q3 => ?_) fun _ _ x => x
  cases f with
  | ret v => obtain ⟨d, k, g3, r3⟩ := q3; exact ⟨d, k, g3.unmu, r3⟩
  | next => obtain ⟨ρ', k, _⟩ := q3; cases k
  | brk => obtain ⟨ρ', k, _⟩ := q3; cases k
  | cont => obtain ⟨ρ', k, _⟩ := q3; cases k

theorem Ev.ownL {e : Expr} {l : List D} (h : Ev X A s₀ env ρ e (.own a l)) : Ev X A s₀ env ρ e (.list l) := fun s E S =>
  wpAny_mono (h s E S) (fun v s1 q => ⟨q.1, by
    have r := q.2
    cases r with | own e rs => exact .list e rs⟩) fun _ _ x => x

theorem Es.append {x : Str} {px ap cp pos : Pos} {e : Expr} {l : List D} {d : D} (F : Fm X s₀ env) (ha : s₀.heap.objs.size ≤ a) (hmu : X.mu a) (hk : env.kindOf x = some .local) (hd : (x == ("__debug__" : Str)) = false)
    (hρ : ρ x = some (.own a l)) (hfl : ∀ y d, y ≠ x → ρ y = some d → d.flat = true) (hlf : ∀ d ∈ l, d.flat = true) (he : Ev X A s₀ env ρ e d) (hdf : d.flat = true) (hse : starEach [e] env = [(false, eval e env)]) (hbase : ∀ t, attributeBase (.Name x px) "append" env t = t)
    (hline : (ap.endLine == cp.line) = true) (hi : interactive env = false) (hs : swapsWith (.Call (.Attribute (.Name x px) "append" ap) [e] [] cp) none pos.line env = pure false) (hl : l.length ≤ sizeLine) :
    Es X A s₀ env ρ (.Expr (.Call (.Attribute (.Name x px) "append" ap) [e] [] cp) pos) (fun o => o = .next (upd ρ x (.own a (l ++ [d])))) := fun s E S => by
  refine wpAny_Expr (Call_method1 (hbase _) hse hline (wpAny_mono (Ev.loc F hk hρ hd s E S) (fun v s1 q1 => ?_) fun _ _ x => x)) hi hs
  obtain ⟨g1, r1⟩ := q1
  have S1 := S.grown F g1
  cases r1 with | own e1 rs1 =>
  rename_i vs n
  refine ⟨"list", "list.append", PySem.F.plainAttrs_list, slot_list_append, PySem.F.type_list_append, ⟨_, e1, rfl⟩, fun b hb => by cases hb; exact ⟨_, e1, rfl⟩, ?_⟩
  refine Calls.callWith_builtin rfl (Calls.evalArgs_plain ?_)
  have z := Evs.cons (pos := cp) F hse he .nil s1 E S1
  rw [hse] at z
  refine wpAny_mono z (fun vs3 s2 q2 => ?_) fun _ _ x => x
  obtain ⟨g2, r2⟩ := q2
  obtain ⟨v, rfl, r2⟩ := reps1 r2
  have S2 := S1.grown F g2
  obtain ⟨m, hn, hm⟩ := S2.loc
  have eP : a ≠ X.P := Nat.ne_of_gt (Nat.lt_of_lt_of_le F.g0.tab.lt.2 ha)
  have e3 := g2.keep _ _ eP e1
  refine append_at (hsz := by simpa [rs1.length] using hl) e3 fun h' hs' ho' => ?_
  have g' : Grow X s₀ { s2 with heap := h' } := S2.grow.upd (tk := s2.toks) ha hs'
  have hnl : a ≠ env.locals := fun z => by
    obtain ⟨o', es, ep, ho', hd', _⟩ := hn
    rw [← z, e3] at ho'; cases ho'; cases hd'
  have rs3 : Reps h' (vs ++ [v]) (l ++ [d]) := (Reps.flat rs1 hlf).append (Reps.flat r2 (by intro e he; simp at he; rw [he]; exact hdf))
  have own' : Rep h' (.ref a) (.own a (l ++ [d])) := .own (vs := vs ++ [v]) (n := n + 1) (by rw [ho']; simp) rs3
  have kc : ∀ c v, s2.heap.IsCell c v → h'.IsCell c v := fun c v hc => hc.sameBut hs' fun z => by
    obtain ⟨o, ho, hd⟩ := hc
    rw [z, e3] at ho; cases ho; cases hd
  refine ⟨_, rfl, ⟨F.g0.grow g', g', ⟨m, hn.sameBut hs' hnl.symm, fun y dy hky hr => ?_⟩, fun y dy hky hr => ?_, fun y hky => ?_⟩, ?_⟩
  · by_cases hy : y = x
    · subst hy
      rw [upd_here] at hr; cases hr
      obtain ⟨v0, hv0, r0⟩ := hm y _ hk hρ
      refine ⟨v0, hv0, ?_⟩
      cases r0; exact own'
    · rw [upd_there hy rfl] at hr
      obtain ⟨v0, hv0, r0⟩ := hm y _ hky hr
      exact ⟨v0, hv0, r0.flat (hfl y _ hy hr)⟩
  · have hy : y ≠ x := by rintro rfl; rw [hk] at hky; rcases hky with h | h <;> cases h
    rw [upd_there hy rfl] at hr
    obtain ⟨c, v0, hc, hv0, r0⟩ := S2.cel y _ hky hr
    exact ⟨c, v0, hc, kc _ _ hv0, r0.flat (hfl y _ hy hr)⟩
  · obtain ⟨c, v0, hc, hv0⟩ := S2.own y hky
    exact ⟨c, v0, hc, kc _ _ hv0⟩
  · refine (g1.mv.trans g2.mv).trans ⟨fun b o hP hm' _ eb => (hs'.2 b ?_).trans eb⟩
    rintro rfl; exact hm' hmu

theorem letOwned_tupiter {elts : List Expr} {x1} {pos : Pos} {I l T : Addr} {i : Nat} {s : Shared} {Q : Unit → Shared → Prop} {E : Value → Shared → Prop} (hit : s.heap.IsTupleIter I l i) (hQ : Q () s) :
    wpAny X.M A (letOwnedTupleGo (.Tuple elts x1 pos) (.ref I) (.ref T)) Q E s := by
  obtain ⟨o, ho, hc, hd⟩ := hit
  unfold letOwnedTupleGo
  refine wpAny_bind (wpAny_load ho ?_)
  rw [hc, hd]
  show wpAny _ A (if (["enumerate", "zip", "dict_itemiterator", "dict_reverseitemiterator", "odict_iterator", "itertools.zip_longest", "itertools.pairwise"].contains "tuple_iterator" &&
      (#[.ref l, .int i 0] : Array Value)[0]? == some (rawInt T)) = true then _ else _) Q E s
  rw [if_neg (by
    intro h
    rw [show (["enumerate", "zip", "dict_itemiterator", "dict_reverseitemiterator", "odict_iterator", "itertools.zip_longest", "itertools.pairwise"].contains "tuple_iterator") = false from by decide, Bool.false_and] at h
    cases h)]
  exact wpAny_pure hQ

/-- a loop over the pairs of a tuple of the program's start -/
theorem Es.forPair {xi xv : Str} {pi pv tp pos : Pos} {k : Nat} {iter : Expr} {body orelse : List Stmt} {t : Addr} {vs : List Value} {n : Nat} {its : List (D × D)} (F : Fm X s₀ env) (hh : A.handled = none)
    (hit : Ev X A s₀ env ρ iter (.val (.ref t))) (hK : X.K.lookup t = some (tobj vs n)) (hlen : vs.length = its.length)
    (hp : ∀ (i : Nat) (v : Value), vs[i]? = some v → ∃ (p : Addr) (v1 v2 : Value) (m : Nat) (d1 d2 : D), v = Value.ref p ∧ X.K.lookup p = some (tobj [v1, v2] m) ∧ its[i]? = some (d1, d2) ∧ (∀ h, Rep h v1 d1) ∧ (∀ h, Rep h v2 d2))
    (hmt : ¬ X.mu t) (hxi : env.kindOf xi = some .local) (hxv : env.kindOf xv = some .local)
    (Inv : Nat → (Str → Option D) → Prop) (h0 : Inv 0 ρ)
    (hb : ∀ i d1 d2 ρ', its[i]? = some (d1, d2) → Inv i ρ' → Ex X A s₀ env (upd (upd ρ' xi d1) xv d2) body (fun o => match o with | .next ρ'' => Inv (i + 1) ρ'' | .cont ρ'' => Inv (i + 1) ρ'' | .brk ρ'' => K (.next ρ'') | .ret d => K (.ret d)))
    (he : ∀ ρ', Inv its.length ρ' → Ex X A s₀ env ρ' orelse K)
    (hs : ∀ v, foldedSetIterable iter env v = pure v) (hmu : ∀ b, X.mu b → ∀ s, St X s₀ env ρ s → b < s.heap.objs.size) :
    Es X A s₀ env ρ (.For (.Tuple [.Name xi pi, .Name xv pv] k tp) iter body orelse pos) K := fun s E S => by
  refine wpAny_For (wpAny_mono (hit s E S) (fun v s1 q1 => ?_) fun _ _ x => x) hs
  obtain ⟨g1, r1⟩ := q1
  cases r1
  have S1 := S.grown F g1
  have et := S1.gs.gd.k _ _ hK
  have htup : s1.heap.IsTuple t vs.toArray := ⟨_, et, rfl, n, rfl⟩
  have tlt := Heap.lt_size et
  have htP : t ≠ X.P := fun z => by have := X.K; rw [z] at hK; rw [S1.gs.gd.kP] at hK; cases hK
  refine wpAny_pyIter_tuple htup ?_
  generalize hI : s1.heap.objs.size = I
  have hne : t ≠ I := fun z => by rw [← hI] at z; exact absurd tlt (by rw [z]; exact Nat.lt_irrefl _)
  have W := Walks.tuple (prog := X.prog) (w := X.w) hh I t hne vs.toArray
  have gp : Grow X s1 { s1 with heap := s1.heap.push { cls := .type "tuple_iterator", data := .fields #[.ref t, .int 0 0] } } := .push
  have S2 := S1.grown F gp
  have st0 : (s1.heap.push { cls := .type "tuple_iterator", data := .fields #[.ref t, .int 0 0] }).IsTupleIter I t 0 := ⟨_, by rw [← hI]; exact Heap.get?_push_size _ rfl, rfl, rfl⟩
  have st1 : (s1.heap.push { cls := .type "tuple_iterator", data := .fields #[.ref t, .int 0 0] }).IsTuple t vs.toArray := ⟨_, Heap.get?_push_of_some _ et, rfl, n, rfl⟩
  obtain ⟨m1, hn1, _⟩ := S1.loc
  have sz : s₀.heap.objs.size ≤ s1.heap.objs.size := Nat.le_of_lt (Nat.lt_of_le_of_lt F.above hn1.lt)
  have hw : ∀ b ∈ [I], s₀.heap.objs.size ≤ b := fun b hb => by simp at hb; rw [hb, ← hI]; exact sz
  have low : ∀ b o, s1.heap.get? b = some o → b ∉ [I] := fun b o e hm => by simp at hm; rw [hm, ← hI] at e; exact absurd (Heap.lt_size e) (Nat.lt_irrefl _)
  have IP : I ≠ X.P := fun e => absurd S1.gs.tab.lt.2 (by rw [← e, ← hI]; exact Nat.lt_irrefl _)
  have Imu : ¬ X.mu I := fun hm => absurd (hmu I hm s1 S1) (by rw [hI]; exact Nat.lt_irrefl _)
  have io : ∀ {h : Heap} {i : Nat}, h.IsTupleIter I t i → ∀ b ∈ [I], ∃ o, h.get? b = some o ∧ Iobj o := fun st b hb => by simp at hb; rw [hb]; exact iobj_tupIter st
  have step : ∀ {s' : Shared} {h1 : Heap} {tk1 : Nat}, Mv X s1 s' → (∀ b o, b ∉ [I] → s'.heap.get? b = some o → h1.get? b = some o) → Mv X s1 { s' with heap := h1, toks := tk1 } :=
    fun mv hk1 => ⟨fun b o h1' h2' h3' e => hk1 b o (low b o e) (mv.keep b o h1' h2' h3' e)⟩
  rw [show vs.toArray.size = its.length by rw [List.size_toArray, hlen]] at W
  refine codeAny_forLoop_any (fun k s' => ∃ i ρ', Inv i ρ' ∧ St X s₀ env ρ' s' ∧ (s'.heap.IsTupleIter I t i ∧ s'.heap.IsTuple t vs.toArray) ∧ i ≤ its.length ∧ k = its.length + 1 - i ∧ Mv X s1 s') ?_ (its.length + 1)
    ⟨0, ρ, h0, S2, ⟨st0, st1⟩, Nat.zero_le _, rfl, gp.mv⟩
  rintro k s' ⟨i, ρ', hinv, S', si, hi, rfl, mv⟩
  by_cases hlt : i < its.length
  · refine W.item i s' _ _ hlt si fun v h1 tk1 hpv si1 hk1 => ?_
    obtain ⟨p, v1, v2, m, d1, d2, rfl, hKp, hits, hr1, hr2⟩ := hp i v (by simpa using hpv)
    have S3 : St X s₀ env ρ' { s' with heap := h1, toks := tk1 } := S'.iter F hw (io si.1) hk1
    have mv3 := step (tk1 := tk1) mv hk1
    refine letOwned_tupiter si1.1 ?_
    have ht2 : h1.IsTuple p #[v1, v2] := ⟨_, S3.gs.gd.k _ _ hKp, rfl, m, rfl⟩
    refine wpAny_assign_Tuple hh ht2 rfl rfl fun h3 hx3 => ?_
    have kk : ∀ b o, h1.get? b = some o → h3.get? b = some o := fun b o e => hx3 b o (Nat.ne_of_lt (Heap.lt_size e)) e
    have g5 : Grow X { s' with heap := h1, toks := tk1 } { s' with heap := h3, toks := tk1 } := Grow.of kk
    have S5 := S3.grown F g5
    have si5 := W.frame _ _ h3 si1 fun b _ o e => kk b o e
    show wpAny X.M A (do holding [v2] (assign (.Name xi pi) env v1); do holding [] (assign (.Name xv pv) env v2); pure ()) _ _ _
    refine wpAny_bind (wpAny_holding (wpAny_assign_Name (store_local F S5 hxi (hr1 _) fun s6 S6 m6 => ?_)))
    refine wpAny_bind (wpAny_holding (wpAny_assign_Name (store_local F S6 hxv (hr2 _) fun s7 S7 m7 => wpAny_pure ?_)))
    have mv7 : Mv X { s' with heap := h3, toks := tk1 } s7 := m6.trans m7
    refine wpAny_mono (hb i d1 d2 ρ' hits hinv s7 _ S7) (fun f s8 q8 => ?_) fun _ _ x => x
    have fin : ∀ ρ'', St X s₀ env ρ'' s8 → Mv X s7 s8 → Inv (i + 1) ρ'' → ∃ m, m < its.length + 1 - i ∧ ∃ i' ρ', Inv i' ρ' ∧ St X s₀ env ρ' s8 ∧ (s8.heap.IsTupleIter I t i' ∧ s8.heap.IsTuple t vs.toArray) ∧ i' ≤ its.length ∧ m = its.length + 1 - i' ∧ Mv X s1 s8 := fun ρ'' S8 mv8 hinv' => by
      refine ⟨its.length + 1 - (i + 1), by omega, i + 1, ρ'', hinv', S8, ⟨?_, ?_⟩, hlt, rfl, mv3.trans (g5.mv.trans (mv7.trans mv8))⟩
      · refine si5.1.at fun o e => (mv7.trans mv8).keep I o IP Imu ?_ e
        obtain ⟨o', ho', hio⟩ := io si5.1 I (by simp)
        rw [e] at ho'; cases ho'
        obtain ⟨⟨fs, z⟩, _⟩ := hio; unfold Still; rw [z]; trivial
      · refine si5.2.at fun o e => (mv7.trans mv8).keep t o htP hmt ?_ e
        have e' : h3.get? t = some (tobj vs n) := (mv3.trans g5.mv).keep t _ htP hmt trivial et
        rw [e] at e'; cases e'; trivial
    cases f with
    | next => obtain ⟨ρ'', k', S8, mv8⟩ := q8; exact fin ρ'' S8 mv8 k'
    | cont => obtain ⟨ρ'', k', S8, mv8⟩ := q8; exact fin ρ'' S8 mv8 k'
    | brk => obtain ⟨ρ'', k', S8, mv8⟩ := q8; exact ⟨ρ'', k', S8, g1.mv.trans (mv3.trans (g5.mv.trans (mv7.trans mv8)))⟩
    | ret v => exact q8
  · have hin : i = its.length := by omega
    subst hin
    refine W.done s' _ _ si fun h1 tk1 hk1 => ?_
    have S3 : St X s₀ env ρ' { s' with heap := h1, toks := tk1 } := S'.iter F hw (io si.1) hk1
    exact wpAny_mono (he ρ' hinv _ _ S3) (fun f s5 q5 => q5.mono (g1.mv.trans (step mv hk1)) fun _ k => k) fun _ _ x => x
end
end Mine
end M1

section M2
open PySem PySem.W PyProof.Rows
namespace Mine

noncomputable def tabs : List (List (Int × Nat)) := [[(40960, 108), (49152, 115), (32768, 45), (24576, 98), (16384, 100), (8192, 99), (4096, 112)],
  [(256, 114)], [(128, 119)], [(2112, 115), (2048, 83), (64, 120)], [(32, 114)], [(16, 119)], [(1032, 115), (1024, 83), (8, 120)], [(4, 114)], [(2, 119)], [(513, 116), (512, 84), (1, 120)]]
noncomputable def hit (i : Nat) (x b : Int) : Bool := if i = 0 then Builtin.bitAnd x 61440 == b else Builtin.bitAnd x b == b
noncomputable def tabAt (i : Nat) : List (Int × Nat) := tabs.getD i []
noncomputable def fch (x : Int) (i : Nat) : Nat := (((tabAt i).find? (fun p => hit i x p.1)).map (·.2)).getD (if i = 0 then 63 else 45)
/-- the text of filemode -/
noncomputable def row (x : Int) : List Nat := (List.range 10).map (fch x)
theorem row_length (x : Int) : (row x).length = 10 := by simp [row]
theorem row_get {x : Int} {i : Nat} (h : i < 10) : (row x)[i]? = some (fch x i) := by
  simp [row, List.getElem?_map, List.getElem?_range h]

def FlatBut (p : Str) (ρ : Str → Option D) : Prop := ∀ y d, y ≠ p → ρ y = some d → d.flat = true
theorem FlatBut.nil {p : Str} : FlatBut p (fun _ => none) := fun _ _ _ e => by cases e
theorem FlatBut.upd {p x : Str} {ρ : Str → Option D} {d : D} (h : FlatBut p ρ) (hd : d.flat = true) : FlatBut p (Mine.upd ρ x d) := fun y e hy hr => by
  by_cases hx : y = x
  · subst hx; rw [upd_here] at hr; cases hr; exact hd
  · rw [upd_there hx rfl] at hr; exact h y e hy hr
theorem FlatBut.at {p : Str} {ρ : Str → Option D} {d : D} (h : FlatBut p ρ) : FlatBut p (Mine.upd ρ p d) := fun y e hy hr => by
  rw [upd_there hy rfl] at hr; exact h y e hy hr
theorem le2 {ρ : Str → Option D} {x y : Str} {d e : D} (h1 : ρ x = some d) (h2 : ρ y = some e) : le (upd (upd (fun _ => none) x d) y e) ρ := fun z f hz => by
  by_cases hy : z = y
  · subst hy; rw [upd_here] at hz; cases hz; exact h2
  · rw [upd_there hy rfl] at hz
    by_cases hx : z = x
    · subst hx; rw [upd_here] at hz; cases hz; exact h1
    · rw [upd_there hx rfl] at hz; cases hz
theorem join_ones0 : ∀ l : List Nat, Str.join (S []) (l.map fun c => S [c]) = S l
  | [] => rfl
  | [c] => rfl
  | c :: e :: r => by
    show S [c] ++ S [] ++ Str.join (S []) ((e :: r).map fun c => S [c]) = _
    rw [join_ones0 (e :: r), S_app, S_app]; rfl
theorem join_ones (l : List Nat) : Txt.join (S []) (l.map fun c => S [c]) = S l := by
  show Builtin.Str.glued _ _ = _
  rw [StrLaws.glued_eq_join]; exact join_ones0 l

section
variable {X : Cx} {A : Around} {s₀ : Shared} {env : Env} {ρ : Str → Option D} {K : Out → Prop} {a : Addr}
theorem Gs.unmu {s : Shared} (G : Gs (muCx X a) s) : Gs X s := ⟨⟨G.gd.k, G.gd.kP, G.gd.g, G.gd.b, G.gd.lim, G.gd.dig, G.gd.p0, G.gd.bm⟩, G.tab, G.bare⟩
theorem Fc.muS {f : Value} {ds : List D} {d : D} (h : Fc X A f ds d) : Fc (muCx X a) A f ds d := fun s vs E G rs => wpAny_mono (h s vs E G.unmu rs) (fun v s' q => ⟨q.1.muS, q.2⟩) fun _ _ x => x
theorem Ex.one {st : Stmt} (h : Es X A s₀ env ρ st K) : Ex X A s₀ env ρ [st] K := Ex.cons h (fun ρ' k => Ex.nil k) fun o _ k => k
end
theorem repS {h : Heap} {x : Str} {l : List Nat} {t : Tok} (e : x = S l) : Rep h (.str x t) (Sd l) := by subst e; exact .str ..

section
variable {w : World} {q : Bool}
noncomputable abbrev KK (w : World) : Frag := hd.heap_39 w.params
def pairsOk (K : Frag) (t : Addr) (i : Nat) : Prop := ∃ vs n, K.lookup t = some (tobj vs n) ∧ vs.length = (tabAt i).length ∧
  ∀ (j : Nat) (v : Value), vs[j]? = some v → ∃ (p : Addr) (v1 v2 : Value) (m : Nat) (d1 d2 : D), v = Value.ref p ∧ K.lookup p = some (tobj [v1, v2] m) ∧ ((tabAt i).map fun p => (D.int p.1, Sd [p.2]))[j]? = some (d1, d2) ∧ (∀ h, Rep h v1 d1) ∧ (∀ h, Rep h v2 d2)
theorem pairsOk.one {K : Frag} {t : Addr} {i : Nat} {n : Nat} {p1 : Addr} {b1 : Int} {t1 u1 : Tok} {x1 : Str} {c1 : Nat} {m1 : Nat} (h : K.lookup t = some (tobj [.ref p1] n)) (h1 : K.lookup p1 = some (tobj [.int b1 t1, .str x1 u1] m1)) (e1 : x1 = S [c1]) (ht : tabAt i = [(b1, c1)]) : pairsOk K t i := by
  refine ⟨_, _, h, by rw [ht]; rfl, fun j v hv => ?_⟩
  rw [ht]
  match j, hv with
  | 0, hv => cases hv; exact ⟨_, _, _, _, _, _, rfl, h1, rfl, fun _ => .int .., fun _ => repS e1⟩
  | j + 1, hv => simp at hv
theorem pairsOk.three {K : Frag} {t : Addr} {i : Nat} {n : Nat} {p1 p2 p3 : Addr} {b1 b2 b3 : Int} {t1 t2 t3 u1 u2 u3 : Tok} {x1 x2 x3 : Str} {c1 c2 c3 : Nat} {m1 m2 m3 : Nat} (h : K.lookup t = some (tobj [.ref p1, .ref p2, .ref p3] n))
    (h1 : K.lookup p1 = some (tobj [.int b1 t1, .str x1 u1] m1)) (h2 : K.lookup p2 = some (tobj [.int b2 t2, .str x2 u2] m2)) (h3 : K.lookup p3 = some (tobj [.int b3 t3, .str x3 u3] m3))
    (e1 : x1 = S [c1]) (e2 : x2 = S [c2]) (e3 : x3 = S [c3]) (ht : tabAt i = [(b1, c1), (b2, c2), (b3, c3)]) : pairsOk K t i := by
  refine ⟨_, _, h, by rw [ht]; rfl, fun j v hv => ?_⟩
  rw [ht]
  match j, hv with
  | 0, hv => cases hv; exact ⟨_, _, _, _, _, _, rfl, h1, rfl, fun _ => .int .., fun _ => repS e1⟩
  | 1, hv => cases hv; exact ⟨_, _, _, _, _, _, rfl, h2, rfl, fun _ => .int .., fun _ => repS e2⟩
  | 2, hv => cases hv; exact ⟨_, _, _, _, _, _, rfl, h3, rfl, fun _ => .int .., fun _ => repS e3⟩
  | j + 3, hv => simp at hv
theorem pairsOk0 : pairsOk (KK w) 84 0 := by
  refine ⟨[.ref 77, .ref 78, .ref 79, .ref 80, .ref 81, .ref 82, .ref 83], 0, rfl, rfl, fun j v hv => ?_⟩
  match j, hv with
  | 0, hv => cases hv; exact ⟨77, .int 40960 _, .str _ _, 0, _, _, rfl, rfl, rfl, fun _ => .int .., fun _ => repS (by decide +kernel)⟩
  | 1, hv => cases hv; exact ⟨78, .int 49152 _, .str _ _, 0, _, _, rfl, rfl, rfl, fun _ => .int .., fun _ => repS (by decide +kernel)⟩
  | 2, hv => cases hv; exact ⟨79, .int 32768 _, .str _ _, 0, _, _, rfl, rfl, rfl, fun _ => .int .., fun _ => repS (by decide +kernel)⟩
  | 3, hv => cases hv; exact ⟨80, .int 24576 _, .str _ _, 0, _, _, rfl, rfl, rfl, fun _ => .int .., fun _ => repS (by decide +kernel)⟩
  | 4, hv => cases hv; exact ⟨81, .int 16384 _, .str _ _, 0, _, _, rfl, rfl, rfl, fun _ => .int .., fun _ => repS (by decide +kernel)⟩
  | 5, hv => cases hv; exact ⟨82, .int 8192 _, .str _ _, 0, _, _, rfl, rfl, rfl, fun _ => .int .., fun _ => repS (by decide +kernel)⟩
  | 6, hv => cases hv; exact ⟨83, .int 4096 _, .str _ _, 0, _, _, rfl, rfl, rfl, fun _ => .int .., fun _ => repS (by decide +kernel)⟩
  | j + 7, hv => simp at hv
noncomputable def tads : List Addr := [84, 86, 88, 92, 94, 96, 100, 102, 104, 108]
theorem pairsOk_all : ∀ (i : Nat) (t : Addr), tads[i]? = some t → pairsOk (KK w) t i
  | 0, t, h => by cases h; exact pairsOk0
  | 1, t, h => by cases h; exact .one (n := 0) (m1 := 0) rfl rfl (c1 := 114) (by decide +kernel) rfl
  | 2, t, h => by cases h; exact .one (n := 0) (m1 := 0) rfl rfl (c1 := 119) (by decide +kernel) rfl
  | 3, t, h => by cases h; exact .three (n := 0) (m1 := 0) (m2 := 0) (m3 := 0) rfl rfl rfl rfl (c1 := 115) (c2 := 83) (c3 := 120) (by decide +kernel) (by decide +kernel) (by decide +kernel) rfl
  | 4, t, h => by cases h; exact .one (n := 0) (m1 := 0) rfl rfl (c1 := 114) (by decide +kernel) rfl
  | 5, t, h => by cases h; exact .one (n := 0) (m1 := 0) rfl rfl (c1 := 119) (by decide +kernel) rfl
  | 6, t, h => by cases h; exact .three (n := 0) (m1 := 0) (m2 := 0) (m3 := 0) rfl rfl rfl rfl (c1 := 115) (c2 := 83) (c3 := 120) (by decide +kernel) (by decide +kernel) (by decide +kernel) rfl
  | 7, t, h => by cases h; exact .one (n := 0) (m1 := 0) rfl rfl (c1 := 114) (by decide +kernel) rfl
  | 8, t, h => by cases h; exact .one (n := 0) (m1 := 0) rfl rfl (c1 := 119) (by decide +kernel) rfl
  | 9, t, h => by cases h; exact .three (n := 0) (m1 := 0) (m2 := 0) (m3 := 0) rfl rfl rfl rfl (c1 := 116) (c2 := 84) (c3 := 120) (by decide +kernel) (by decide +kernel) (by decide +kernel) rfl
  | i + 10, t, h => by simp [tads] at h

theorem fch_none {x : Int} {i : Nat} (h : ∀ (j : Nat) (p : Int × Nat), (tabAt i)[j]? = some p → hit i x p.1 = false) : fch x i = if i = 0 then 63 else 45 := by
  unfold fch
  have : (tabAt i).find? (fun p => hit i x p.1) = none := by
    rw [List.find?_eq_none]
    intro p hp
    obtain ⟨j, hj⟩ := List.mem_iff_getElem?.mp hp
    rw [h j p hj]; simp
  rw [this]; rfl
theorem fch_some {x : Int} {i j : Nat} {p : Int × Nat} (hj : (tabAt i)[j]? = some p) (hp : hit i x p.1 = true) (h : ∀ (j' : Nat) (p : Int × Nat), j' < j → (tabAt i)[j']? = some p → hit i x p.1 = false) : fch x i = p.2 := by
  unfold fch
  have : (tabAt i).find? (fun p => hit i x p.1) = some p := by
    obtain ⟨hl, e⟩ := List.getElem?_eq_some_iff.mp hj
    rw [List.find?_eq_some_iff_getElem]
    refine ⟨hp, j, hl, e, fun j' hj' => ?_⟩
    rw [h j' _ hj' (List.getElem?_eq_getElem (Nat.lt_trans hj' hl))]; rfl
  rw [this]; rfl

noncomputable def permD (x : Int) (i : Nat) : List D := ((row x).take i).map fun c => Sd [c]
theorem permD_snoc {x : Int} {i : Nat} (h : i < 10) : permD x i ++ [Sd [fch x i]] = permD x (i + 1) := by
  unfold permD
  rw [List.take_add_one, row_get h, List.map_append]; rfl
theorem permD_flat {x : Int} {i : Nat} : ∀ d ∈ permD x i, d.flat = true := by
  intro d hd
  unfold permD at hd
  obtain ⟨c, _, rfl⟩ := List.mem_map.mp hd
  rfl
theorem permD_len {x : Int} {i : Nat} : (permD x i).length ≤ sizeLine := by
  unfold permD; rw [List.length_map, List.length_take, row_length, sizeLine_eq]; omega

theorem sum_ones : ∀ l : List Nat, (l.map fun _ => 1).sum = l.length
  | [] => rfl
  | _ :: r => by simp [sum_ones r]; omega

set_option maxHeartbeats 1000000 in
theorem fn_filemode (x : Int) : Fn (XX w q) 2 116 [.int x] (Sd (row x)) := by
  refine Fn.enter (ps := [("mode", .int x)]) rfl rfl rfl rfl rfl rfl rfl rfl rfl rfl (Bnd.plain (ns := ["mode"]) rfl ?_) rfl ?_
  · intro vs hv
    obtain ⟨_, rfl⟩ := len1 hv; rfl
  · intro A s₀ R G env he F O
    subst he
    refine Ex.newOwn F rfl rfl fun a ha => ?_
    have mu : (muCx (XX w q) a).mu a := rfl
    have old : ∀ t o, (KK w).lookup t = some o → ¬ (muCx (XX w q) a).mu t := fun t o e h => by
      have h : t = a := h
      subst h
      exact absurd (Heap.lt_size (G.gd.k _ _ e)) (Nat.not_lt.mpr ha)
    have F' : Fm (muCx (XX w q) a) s₀ _ := F.muS
    let base : Nat → Str → Option D := fun i => upd (upd (fun _ => none) "mode" (.int x)) "perm" (.own a (permD x i))
    have emp : ([] : List D) = permD x 0 := by simp [permD]
    rw [emp]
    refine Ex.cons (K1 := fun o => ∃ ρ', o = .next ρ' ∧ le (base 10) ρ') (Es.forEnum (ds := tads.map fun t => D.val (.ref t)) (d := .val (.ref 109)) F' R.hd rfl rfl rfl (Ev.glob F' rfl rfl (fun _ _ => .val _) rfl)
      (Enb.top (n := 0) (vs := tads.map Value.ref) R.hd rfl (fun h => ?_) (old 109 _ rfl)) rfl rfl (fun i ρ' => i ≤ 10 ∧ le (base i) ρ') ⟨by omega, le2 rfl rfl⟩ ?_ ?_ (fun _ => rfl) ?_) ?_ ?_
    · show Reps h (tads.map Value.ref) (tads.map fun t => D.val (.ref t))
      generalize tads = l
      induction l with
      | nil => exact .nil
      | cons t r ih => exact .cons (.val _) ih
    · rintro i d ρ' hd ⟨hi, hle⟩
      rw [List.getElem?_map] at hd
      obtain ⟨t, ht, rfl⟩ := Option.map_eq_some_iff.mp hd
      have hi10 : i < 10 := (List.getElem?_eq_some_iff.mp ht).1
      obtain ⟨vs, n, hK, hlen, hp⟩ := pairsOk_all (w := w) i t ht
      refine Ex.weaken (ρ := upd (upd (base i) "index" (.int i)) "table" (.val (.ref t))) ?_ (le.upd2 (le.upd2 hle))
      refine Ex.one ?_
      refine Es.forPair (its := (tabAt i).map fun (p : Int × Nat) => (D.int p.1, Sd [p.2])) F' R.hd (Ev.loc F' rfl rfl rfl) hK (by rw [hlen, List.length_map]) hp (old t _ hK) rfl rfl
        (fun j ρ'' => le (upd (upd (base i) "index" (.int i)) "table" (.val (.ref t))) ρ'' ∧ ∀ j' p, j' < j → (tabAt i)[j']? = some p → hit i x p.1 = false) ⟨le.refl _, fun j' p h => absurd h (Nat.not_lt_zero _)⟩ ?_ ?_ (fun _ => rfl) ?_
      · rintro j d1 d2 ρ'' hj ⟨hle2, hno⟩
        rw [List.getElem?_map] at hj
        obtain ⟨⟨b, c⟩, hbc, e⟩ := Option.map_eq_some_iff.mp hj
        cases e
        have fin : ∀ ρ3, le (upd (upd (base i) "index" (.int i)) "table" (.val (.ref t))) ρ3 → hit i x b = false → le (upd (upd (base i) "index" (.int i)) "table" (.val (.ref t))) ρ3 ∧ ∀ j' p, j' < j + 1 → (tabAt i)[j']? = some p → hit i x p.1 = false := by
          intro ρ3 h3 hb
          refine ⟨h3, fun j' p h1 h2 => ?_⟩
          by_cases e : j' = j
          · subst e; rw [hbc] at h2; cases h2; exact hb
          · exact hno j' p (by omega) h2
        refine Ex.weaken (ρ := upd (upd (upd (upd (base i) "index" (.int i)) "table" (.val (.ref t))) "bit" (.int b)) "char" (Sd [c])) ?_ (le.upd2 (le.upd2 hle2))
        have fb : FlatBut "perm" (upd (upd (upd (upd (base i) "index" (.int i)) "table" (.val (.ref t))) "bit" (.int b)) "char" (Sd [c])) := ((((FlatBut.nil.upd rfl).at.upd rfl).upd rfl).upd rfl).upd rfl
        have grow : le (upd (upd (base i) "index" (.int i)) "table" (.val (.ref t))) (upd (upd (upd (upd (base i) "index" (.int i)) "table" (.val (.ref t))) "bit" (.int b)) "char" (Sd [c])) := (le.upd (le.upd (le.refl _) rfl) rfl)
        have win : hit i x b = true → permD x i ++ [Sd [c]] = permD x (i + 1) := fun hb => by
          rw [← permD_snoc hi10, fch_some hbc hb hno]
        refine Ex.one ?_
        refine Es.iff (b := (i : Int) == 0) F' (Ts.cmp F' (Ev.loc F' rfl rfl rfl) Ev.cInt op_eqI rfl) (fun hb => ?_) (fun hb => ?_)
        · have hi0 : i = 0 := by simpa using hb
          have eh : hit i x b = (Builtin.bitAnd x 61440 == b) := by unfold hit; rw [if_pos hi0]
          refine Ex.one (Es.iff (b := Builtin.bitAnd x 61440 == b) F' (Ts.cmp F' (Ev.callG F' rfl rfl rfl rfl rfl rfl rfl (Evs.cons F' rfl (Ev.loc F' rfl rfl rfl) .nil) (fn_S_IFMT x A (R.less (by omega))).muS) (Ev.loc F' rfl rfl rfl) op_eqI rfl) (fun hb => ?_) (fun hb => ?_))
          · refine Ex.step (Es.append F' ha mu rfl rfl rfl fb permD_flat (Ev.loc F' rfl rfl rfl) rfl rfl (fun _ => rfl) rfl rfl rfl permD_len) (Ex.brk ?_)
            refine ⟨hi10, le2 rfl ?_⟩
            rw [← win (eh.trans hb)]; rfl
          · exact Ex.nil (fin _ grow (eh.trans hb))
        · have hi0 : i ≠ 0 := by simpa using hb
          have eh : hit i x b = (Builtin.bitAnd x b == b) := by unfold hit; rw [if_neg hi0]
          refine Ex.one (Es.iff (b := Builtin.bitAnd x b == b) F' (Ts.cmp F' (Ev.bin F' (Ev.loc F' rfl rfl rfl) (Ev.loc F' rfl rfl rfl) op_andI) (Ev.loc F' rfl rfl rfl) op_eqI rfl) (fun hb => ?_) (fun hb => ?_))
          · refine Ex.step (Es.append F' ha mu rfl rfl rfl fb permD_flat (Ev.loc F' rfl rfl rfl) rfl rfl (fun _ => rfl) rfl rfl rfl permD_len) (Ex.brk ?_)
            refine ⟨hi10, le2 rfl ?_⟩
            rw [← win (eh.trans hb)]; rfl
          · exact Ex.nil (fin _ grow (eh.trans hb))
      · rintro ρ'' ⟨hle2, hno⟩
        rw [List.length_map] at hno
        have hn := fch_none (x := x) (i := i) fun j p hj => hno j p (List.getElem?_eq_some_iff.mp hj).1 hj
        refine Ex.weaken (ρ := upd (upd (base i) "index" (.int i)) "table" (.val (.ref t))) ?_ hle2
        have fb : FlatBut "perm" (upd (upd (base i) "index" (.int i)) "table" (.val (.ref t))) := (((FlatBut.nil.upd rfl).at.upd rfl).upd rfl)
        refine Ex.one (Es.iff (b := (i : Int) == 0) F' (Ts.cmp F' (Ev.loc F' rfl rfl rfl) Ev.cInt op_eqI rfl) (fun hb => ?_) (fun hb => ?_))
        · have hi0 : i = 0 := by simpa using hb
          rw [if_pos hi0] at hn
          refine Ex.step (Es.append (d := Sd [63]) F' ha mu rfl rfl rfl fb permD_flat (Ev.cS (by decide +kernel)) rfl rfl (fun _ => rfl) rfl rfl rfl permD_len) (Ex.nil ?_)
          refine ⟨hi10, le2 rfl ?_⟩
          rw [← permD_snoc hi10, hn]; rfl
        · have hi0 : i ≠ 0 := by simpa using hb
          rw [if_neg hi0] at hn
          refine Ex.step (Es.append (d := Sd [45]) F' ha mu rfl rfl rfl fb permD_flat (Ev.cS (by decide +kernel)) rfl rfl (fun _ => rfl) rfl rfl rfl permD_len) (Ex.nil ?_)
          refine ⟨hi10, le2 rfl ?_⟩
          rw [← permD_snoc hi10, hn]; rfl
      · intro b hb s S
        have hb : b = a := hb
        subst hb
        exact own_lt (x := "perm") S rfl rfl
    · rintro ρ' ⟨_, hle⟩
      exact Ex.nil ⟨ρ', rfl, hle⟩
    · intro b hb s S
      have hb : b = a := hb
      subst hb
      exact own_lt (x := "perm") S rfl rfl
    · rintro ρ' ⟨_, h, hle⟩
      cases h
      refine Ex.weaken (ρ := base 10) ?_ hle
      have ep : permD x 10 = ((row x).map fun c => S [c]).map D.str := by
        unfold permD; rw [List.take_of_length_le (by rw [row_length]; omega), List.map_map]; rfl
      have fj := Fc.join (X := muCx (XX w q) a) (A := A) (x := S []) (ys := (row x).map fun c => S [c]) (by
        rw [List.map_map, List.length_map, row_length]
        have : (List.map (Str.length ∘ fun c => S [c]) (row x)) = (row x).map fun _ => 1 := rfl
        rw [this, sum_ones, row_length]; decide)
      rw [join_ones, ← ep] at fj
      exact Ex.ret F' (Ev.methS F' (Ev.cS ofS_nil) rfl rfl (Evs.cons F' rfl (Ev.ownL (Ev.loc F' rfl rfl rfl)) .nil) (fun _ => rfl) rfl rfl PySem.F.slot_str_join PySem.F.type_str_join fj) rfl
    · rintro o hno ⟨ρ', rfl, _⟩
      exact absurd rfl (hno _)
end
end Mine
end M2

section M3
open PySem PySem.W PyProof.Rows
namespace Mine

inductive PairsAre : List (Value × Value) → List (List Nat × Int) → Prop
  | nil : PairsAre [] []
  | cons {k : List Nat} {i : Int} {t u : Tok} {vs : List (Value × Value)} {kvs : List (List Nat × Int)} : PairsAre vs kvs → PairsAre ((.str (S k) t, .int i u) :: vs) ((k, i) :: kvs)
theorem S_eq {a b : List Nat} (h : S a = S b) : a = b := by
  have := S_inj (a := a) (b := b)
  rw [beq_iff_eq.mpr h] at this
  exact beq_iff_eq.mp this.symm
theorem PairsAre.keys {vs : List (Value × Value)} {kvs : List (List Nat × Int)} (h : PairsAre vs kvs) : allStrKeys vs = true ∧ (strPairs vs).map (·.1) = kvs.map fun p => S p.1 := by
  induction h with
  | nil => exact ⟨rfl, rfl⟩
  | cons h ih => exact ⟨ih.1, congrArg (List.cons _) ih.2⟩
theorem PairsAre.at {vs : List (Value × Value)} {kvs : List (List Nat × Int)} {c : List Nat} {r : Int} (h : PairsAre vs kvs) (hn : (kvs.map (·.1)).Nodup) (hm : (c, r) ∈ kvs) : ∃ u, valueAt (strPairs vs) (S c) = some (.int r u) := by
  induction h with
  | nil => cases hm
  | @cons k i t u vs kvs h ih =>
    simp only [List.map_cons, List.nodup_cons] at hn
    rcases List.mem_cons.mp hm with e | hm'
    · cases e
      exact ⟨u, by simp [valueAt, strPairs]⟩
    · obtain ⟨u', e⟩ := ih hn.2 hm'
      refine ⟨u', ?_⟩
      have hne : S k ≠ S c := fun e => hn.1 (by rw [S_eq e]; exact List.mem_map.mpr ⟨_, hm', rfl⟩)
      simpa [valueAt, strPairs, hne] using e
theorem nodup_S {kvs : List (List Nat × Int)} (h : (kvs.map (·.1)).Nodup) : (kvs.map fun p => S p.1).Nodup := by
  induction kvs with
  | nil => exact List.nodup_nil
  | cons p r ih =>
    simp only [List.map_cons, List.nodup_cons] at *
    refine ⟨fun hm => ?_, ih h.2⟩
    obtain ⟨q, hq, e⟩ := List.mem_map.mp hm
    exact h.1 (by rw [← S_eq e]; exact List.mem_map.mpr ⟨_, hq, rfl⟩)

section
variable {X : Cx} {A : Around} {s₀ : Shared} {env : Env} {ρ : Str → Option D}

def Kv (X : Cx) (A : Around) (s₀ : Shared) (env : Env) (ρ : Str → Option D) (pos : Pos) (keys : List (Option Expr)) (values : List Expr) (kvs : List (List Nat × Int)) : Prop :=
  ∀ s E, St X s₀ env ρ s → wpAny X.M A (evalPairs (pairTrees keys values env pos)) (fun vs s' => Grow X s s' ∧ PairsAre vs kvs) E s
theorem Kv.nil {pos : Pos} : Kv X A s₀ env ρ pos [] [] [] := fun s E S => pairTrees_nil_walk ⟨.refl .., .nil⟩
theorem Kv.cons {pos : Pos} {k v : Expr} {ks : List (Option Expr)} {vs : List Expr} {c : List Nat} {i : Int} {kvs : List (List Nat × Int)} (F : Fm X s₀ env) (hk : Ev X A s₀ env ρ k (Sd c)) (hv : Ev X A s₀ env ρ v (.int i)) (h : Kv X A s₀ env ρ pos ks vs kvs) :
    Kv X A s₀ env ρ pos (some k :: ks) (v :: vs) ((c, i) :: kvs) := fun s E S =>
  pairTrees_cons_walk (wpAny_mono (hk s E S) (fun v1 s1 q1 => wpAny_mono (hv s1 E (S.grown F q1.1)) (fun v2 s2 q2 => wpAny_mono (h s2 E ((S.grown F q1.1).grown F q2.1)) (fun r s3 q3 => by
    obtain ⟨g1, r1⟩ := q1
    obtain ⟨g2, r2⟩ := q2
    obtain ⟨g3, r3⟩ := q3
    cases r1; cases r2
    exact ⟨g1.trans (g2.trans g3), .cons r3⟩) fun _ _ x => x) fun _ _ x => x) fun _ _ x => x)

/-- an item of a written dict -/
theorem Ev.dictAt {keys : List (Option Expr)} {values : List Expr} {slice : Expr} {dp pos : Pos} {kvs : List (List Nat × Int)} {c : List Nat} {r : Int} (F : Fm X s₀ env) (hall : keys.all (·.isSome) = true) (hl : keys.length = values.length) (h0 : keys ≠ []) (hlen : keys.length ≤ 15)
    (hev : Kv X A s₀ env ρ dp keys values kvs) (hsl : Ev X A s₀ env ρ slice (Sd c)) (hn : (kvs.map (·.1)).Nodup) (hm : (c, r) ∈ kvs) (hs : ∀ o i, subscripted slice false o i = operate [o, i] (getItem o i)) :
    Ev X A s₀ env ρ (.Subscript (.Dict keys values dp) slice pos) (.int r) := fun s E S => by
  have gp : Grow X s { s with heap := s.heap.push { cls := .type "dict", data := .dict #[] } } := .push
  have S1 := S.grown F gp
  have dP : s.heap.objs.size ≠ X.P := Nat.ne_of_gt S.gs.tab.lt.2
  have dnone : s.heap.get? s.heap.objs.size = none := by
    cases e : s.heap.get? s.heap.objs.size with
    | none => rfl
    | some o => exact absurd (Heap.lt_size e) (Nat.lt_irrefl _)
  refine Subscript_ (wpAny_Dict_walk (knd := PySem.strKind X.prog X.w) hall hl h0 hlen (wpAny_mono (hev _ E S1) (fun vs s1 q1 => ?_) fun _ _ x => x))
  obtain ⟨g1, pa⟩ := q1
  have hd : s1.heap.DictOf (PySem.strKind X.prog X.w) s.heap.objs.size [] := (Heap.DictOf.new s.heap).at fun o e => g1.keep _ o dP e
  refine display_done_str pa.keys.1 (by rw [pa.keys.2]; exact nodup_S hn) hd fun h' hm' hs' => ?_
  have g2 : Grow X s { s1 with heap := h', toks := s1.toks + vs.length } := (gp.trans g1).updN dnone hs'
  have S2 := S.grown F g2
  refine wpAny_mono (hsl _ E S2) (fun v2 s2 q2 => ?_) fun _ _ x => x
  obtain ⟨g3, r3⟩ := q2
  obtain ⟨t, rfl⟩ := r3.strE
  have hm2 : s2.heap.DictOf (PySem.strKind X.prog X.w) s.heap.objs.size (strPairs vs) := hm'.at fun o e => g3.keep _ o dP e
  obtain ⟨u, hv⟩ := pa.at hn hm
  exact tail_any hm2.typeIs slot_dict_getitem.lookup (wpAny_getItem_of (knd := PySem.strKind X.prog X.w) (k := Mine.S c) (by simp [PySem.strKind, Value.isStrOf]) hm2.mapOf hv ⟨g2.trans (g3.trans .toks), .int ..⟩) (hs _ _)
end

noncomputable def lRW : List Nat := [45, 114, 119]
noncomputable def lst : List Nat := [45, 45, 115, 45, 45, 115, 45, 45, 116]
noncomputable def lST : List Nat := [45, 45, 83, 45, 45, 83, 45, 45, 84]
noncomputable def kvsAt (p : Nat) : List (List Nat × Int) :=
  if p % 3 ≠ 0 then [([45], 0), ([lRW.getD (p % 3) 0], 2 ^ (9 - p))]
  else [([45], 0), ([120], 2 ^ (9 - p)), ([lst.getD (p - 1) 0], 2 ^ (9 - p) + 2 ^ (12 - p / 3)), ([lST.getD (p - 1) 0], 2 ^ (12 - p / 3))]
theorem kvsAt_nodup {p : Nat} (h1 : 1 ≤ p) (h9 : p ≤ 9) : ((kvsAt p).map (·.1)).Nodup := by
  have : ∀ p : Fin 10, 1 ≤ p.1 → ((kvsAt p.1).map (·.1)).Nodup := by decide
  exact this ⟨p, by omega⟩ h1
theorem fmod_nat (p m : Nat) : (p : Int).fmod m = ((p % m : Nat) : Int) := by
  rw [Int.fmod_eq_emod_of_nonneg _ (by omega)]; rfl
theorem fdiv_nat (p m : Nat) : (p : Int).fdiv m = ((p / m : Nat) : Int) := by
  rw [Int.fdiv_eq_ediv_of_nonneg _ (by omega)]; rfl
section
variable {X : Cx} {A : Around}
theorem op_mod3 {p : Nat} : Op2 X A (binaryOp .Mod) (.int p) (.int 3) (.int ((p % 3 : Nat) : Int)) := by
  have := op_modI (X := X) (A := A) (a := p) (b := 3) (by decide)
  rwa [show (p : Int).fmod 3 = ((p % 3 : Nat) : Int) from fmod_nat p 3] at this
theorem op_div3 {p : Nat} : Op2 X A (binaryOp .FloorDiv) (.int p) (.int 3) (.int ((p / 3 : Nat) : Int)) := by
  have := op_divI (X := X) (A := A) (a := p) (b := 3) (by decide) (by decide)
  rwa [show (p : Int).fdiv 3 = ((p / 3 : Nat) : Int) from fdiv_nat p 3] at this
theorem op_subN {a b : Int} {n : Nat} (h : a - b = n) : Op2 X A (binaryOp .Sub) (.int a) (.int b) (.int n) := h ▸ op_subI
theorem op_pow2 {n : Nat} (h : n ≤ 100) : Op2 X A (binaryOp .Pow) (.int 2) (.int n) (.int (2 ^ n)) := op_powI (by omega) (by omega) (by decide)
end
section
variable {w : World} {q : Bool}
set_option maxHeartbeats 2000000 in
theorem fn_bits (p : Nat) (h1 : 1 ≤ p) (h9 : p ≤ 9) (c : Nat) (r : Int) (hm : ([c], r) ∈ kvsAt p) : Fn (XX w q) 1 130 [.int p, Sd [c]] (.int r) := by
  refine Fn.enter (ps := [("place", .int p), ("sign", Sd [c])]) rfl rfl rfl rfl rfl rfl rfl rfl rfl rfl (Bnd.plain (ns := ["place", "sign"]) rfl ?_) rfl ?_
  · intro vs hv
    obtain ⟨_, _, rfl⟩ := len2 hv; rfl
  · intro A s₀ R G env he F O
    subst he
    have e1 : (9 : Int) - p = ((9 - p : Nat) : Int) := (Int.ofNat_sub h9).symm
    have s9 : 9 - p ≤ 100 := lek (Nat.sub_le 9 p) rfl
    refine Ex.step (Es.asgL (d := .int (2 ^ (9 - p))) F (Ev.bin F Ev.cInt (Ev.bin F Ev.cInt (Ev.loc F rfl rfl rfl) (op_subN (n := 9 - p) e1)) (op_pow2 s9)) rfl rfl) ?_
    have hn := kvsAt_nodup h1 h9
    have em : (p : Int).fmod 3 = ((p % 3 : Nat) : Int) := fmod_nat p 3
    have ed : (p : Int).fdiv 3 = ((p / 3 : Nat) : Int) := fdiv_nat p 3
    by_cases h3 : p % 3 ≠ 0
    · refine Ex.cons (K1 := fun o => o = .ret (.int r)) (Es.iff (b := ((p % 3 : Nat) : Int) != 0) F (Ts.cmp F (Ev.bin F (Ev.loc F rfl rfl rfl) Ev.cInt op_mod3) Ev.cInt op_neI rfl) (fun _ => ?_) (fun hb => ?_)) (fun _ h => nx h) fun o _ h => h
      · refine @Ex.ret _ _ _ _ _ _ _ _ _ _ F ?_ rfl
        refine @Ev.dictAt _ _ _ _ _ _ _ _ _ _ _ _ _ F ?_ ?_ ?_ ?_ ?_ ?_ hn hm ?_
        · rfl
        · rfl
        · simp
        · simp
        rotate_left
        · exact Ev.loc F rfl rfl rfl
        · exact (fun _ _ => rfl)
        unfold kvsAt
        rw [if_pos h3]
        refine Kv.cons F (Ev.cS (by decide +kernel)) Ev.cInt (Kv.cons F (Ev.itemS (l := lRW) (k := ((p % 3 : Nat) : Int)) F (Ev.cS (by decide +kernel)) (Ev.bin F (Ev.loc F rfl rfl rfl) Ev.cInt op_mod3) (Int.natCast_nonneg _) (i63 (lek (Nat.le_of_lt (Nat.mod_lt p (by decide))) rfl)) ?_ (fun _ _ => rfl)) (Ev.loc F rfl rfl rfl) .nil)
        have : p % 3 = 1 ∨ p % 3 = 2 := by omega
        rcases this with e | e <;> rw [e] <;> rfl
      · have hb := (bne_eq_false_iff_eq).mp hb
        exfalso; exact h3 (by omega)
    · have h3 : p % 3 = 0 := by omega
      refine Ex.step (Es.iff (b := ((p % 3 : Nat) : Int) != 0) F (Ts.cmp F (Ev.bin F (Ev.loc F rfl rfl rfl) Ev.cInt op_mod3) Ev.cInt op_neI rfl) (fun hb => ?_) (fun hb => Ex.nil rfl)) ?_
      · exfalso; rw [h3] at hb; exact absurd hb (by decide)
      have e2 : (12 : Int) - ((p / 3 : Nat) : Int) = ((12 - p / 3 : Nat) : Int) := (Int.ofNat_sub (Nat.le_trans (Nat.div_le_self p 3) (lek h9 rfl))).symm
      refine Ex.step (Es.asgL (d := .int (2 ^ (12 - p / 3))) F (Ev.bin F Ev.cInt (Ev.bin F Ev.cInt (Ev.bin F (Ev.loc F rfl rfl rfl) Ev.cInt op_div3) (op_subN (n := 12 - p / 3) e2)) (op_pow2 (lek (Nat.sub_le 12 _) rfl))) rfl rfl) ?_
      refine @Ex.ret _ _ _ _ _ _ _ _ _ _ F ?_ rfl
      refine @Ev.dictAt _ _ _ _ _ _ _ _ _ _ _ _ _ F ?_ ?_ ?_ ?_ ?_ ?_ hn hm ?_
      · rfl
      · rfl
      · simp
      · simp
      rotate_left
      · exact Ev.loc F rfl rfl rfl
      · exact (fun _ _ => rfl)
      unfold kvsAt
      rw [if_neg (by omega)]
      have e3 : (p : Int) - 1 = ((p - 1 : Nat) : Int) := (Int.ofNat_sub h1).symm
      have s1 : ((p - 1 : Nat) : Int) < 2 ^ 63 := i63 (Nat.le_trans (Nat.sub_le p 1) (lek h9 rfl))
      have hg : ∀ l : List Nat, l.length = 9 → l[((p - 1 : Nat) : Int).toNat]? = some (l.getD (p - 1) 0) := fun l hl => by
        rw [Int.toNat_natCast, List.getD_eq_getElem?_getD, List.getElem?_eq_getElem (by rw [hl]; exact Nat.lt_of_lt_of_le (Nat.sub_lt h1 (by decide)) h9)]; rfl
      exact Kv.cons F (Ev.cS (by decide +kernel)) Ev.cInt (Kv.cons F (Ev.cS (by decide +kernel)) (Ev.loc F rfl rfl rfl)
        (Kv.cons F (Ev.itemS (l := lst) (k := ((p - 1 : Nat) : Int)) F (Ev.cS (by decide +kernel)) (Ev.bin F (Ev.loc F rfl rfl rfl) Ev.cInt (op_subN (n := p - 1) e3)) (Int.natCast_nonneg _) s1 (hg lst rfl) (fun _ _ => rfl)) (Ev.bin F (Ev.loc F rfl rfl rfl) (Ev.loc F rfl rfl rfl) op_addI)
        (Kv.cons F (Ev.itemS (l := lST) (k := ((p - 1 : Nat) : Int)) F (Ev.cS (by decide +kernel)) (Ev.bin F (Ev.loc F rfl rfl rfl) Ev.cInt (op_subN (n := p - 1) e3)) (Int.natCast_nonneg _) s1 (hg lST rfl) (fun _ _ => rfl)) (Ev.loc F rfl rfl rfl) .nil)))
end
end Mine
end M3

section M4
open PySem PySem.W PyProof.Rows
namespace Mine

theorem iniE_some {x : Str} {d : D} : ∀ {ps : List (Str × D)} {ρ : Str → Option D}, iniE ρ ps x = some d → (x, d) ∈ ps ∨ ρ x = some d
  | [], ρ, h => .inr h
  | (y, e) :: r, ρ, h => by
    rcases iniE_some (ps := r) h with h | h
    · exact .inl (List.mem_cons_of_mem _ h)
    · by_cases hx : x = y
      · subst hx; rw [upd_here] at h; cases h; exact .inl (List.mem_cons_self ..)
      · rw [upd_there hx rfl] at h; exact .inr h
def Has (ρ : Str → Option D) : List (Str × D) → Prop
  | [] => True
  | (x, d) :: r => ρ x = some d ∧ Has ρ r
theorem Has.mem {ρ : Str → Option D} {x : Str} {d : D} : ∀ {ps : List (Str × D)}, Has ρ ps → (x, d) ∈ ps → ρ x = some d
  | (y, e) :: r, h, hm => by
    rcases List.mem_cons.mp hm with q | q
    · cases q; exact h.1
    · exact Has.mem h.2 q
noncomputable abbrev env0 (ps : List (Str × D)) : Str → Option D := iniE (fun _ => none) ps
theorem Has.le {ρ : Str → Option D} {ps : List (Str × D)} (h : Has ρ ps) : le (env0 ps) ρ := fun x d hx => by
  rcases iniE_some hx with q | q
  · exact h.mem q
  · cases q

section
variable {X : Cx} {A : Around} {s₀ : Shared} {env : Env} {ρ : Str → Option D} {K : Out → Prop}
theorem Ex.on {ss : List Stmt} {ps : List (Str × D)} (h : Has ρ ps) (hx : Ex X A s₀ env (env0 ps) ss K) : Ex X A s₀ env ρ ss K := hx.weaken h.le
theorem op_addZ {a b c : Int} (h : a + b = c) : Op2 X A (binaryOp .Add) (.int a) (.int b) (.int c) := h ▸ op_addI
theorem op_subZ {a b c : Int} (h : a - b = c) : Op2 X A (binaryOp .Sub) (.int a) (.int b) (.int c) := h ▸ op_subI
theorem op_mul14 {b : Nat} {c : Nat} (h : 14 * b = c) : Op2 X A (binaryOp .Mult) (.int 14) (.int b) (.int c) := by
  subst h
  have := op_mulI (X := X) (A := A) (a := 14) (b := b) (.of_left (by decide))
  rwa [show (14 : Int) * b = ((14 * b : Nat) : Int) by omega] at this
theorem op_div14 {b : Nat} : Op2 X A (binaryOp .FloorDiv) (.int b) (.int 14) (.int ((b / 14 : Nat) : Int)) := by
  have := op_divI (X := X) (A := A) (a := b) (b := 14) (by decide) (by decide)
  rwa [show (b : Int).fdiv 14 = ((b / 14 : Nat) : Int) from fdiv_nat b 14] at this
theorem Ev.sliceSmidN {value e f : Expr} {p pos : Pos} {l : List Nat} {i j c : Nat} (F : Fm X s₀ env) (hv : Ev X A s₀ env ρ value (Sd l)) (hi : Ev X A s₀ env ρ e (.int i)) (hj : Ev X A s₀ env ρ f (.int j)) (h01 : j = i + c) (h1 : j ≤ l.length) (hlen : l.length ≤ 1000) :
    Ev X A s₀ env ρ (.Subscript value (.Slice (some e) (some f) none p) pos) (Sd ((l.drop i).take c)) := by
  have := Ev.sliceSmid (p := p) (pos := pos) (l := l) (i := i) (j := j) F hv hi hj (by omega) (by omega) (by omega) (by rw [sizeLine_eq]; omega)
  rwa [show ((j : Int) - i).toNat = c by omega, Int.toNat_natCast] at this
theorem Ev.itemSN {value idx : Expr} {pos : Pos} {l : List Nat} {k c : Nat} (F : Fm X s₀ env) (hv : Ev X A s₀ env ρ value (Sd l)) (hi : Ev X A s₀ env ρ idx (.int k)) (hk : k < 2 ^ 60) (hd : l[k]? = some c)
    (hs : ∀ o i, subscripted (idx) false o i = operate [o, i] (getItem o i)) : Ev X A s₀ env ρ (.Subscript value idx pos) (Sd [c]) :=
  Ev.itemS F hv hi (by omega) (by omega) (by simpa using hd) hs
end
end Mine
end M4

section M5
open PySem PySem.W PyProof.Rows
namespace Mine

noncomputable def dif (o n : List Nat) (j : Nat) : Bool := (o.drop (14 * j + 2)).take 10 != (n.drop (14 * j + 2)).take 10
noncomputable def ch (l : List Nat) (k i : Nat) : Nat := l.getD (14 * k + 2 + i) 0
noncomputable def bv (p c : Nat) : Int := (((kvsAt p).find? (fun e => e.1 == [c])).map (·.2)).getD 0
noncomputable def unl (o n : List Nat) (k : Nat) : List Nat := (List.range 10).filter fun i => ch o k i != ch n k i
noncomputable def goneAt (o n : List Nat) (k i : Nat) : Int := if i = 0 then 0 else Builtin.bitAnd (bv i (ch o k i)) (Builtin.bitNot (bv i (ch n k i)))
noncomputable def kindsOf (o n : List Nat) (k : Nat) (l : List Nat) : List Nat := if 0 ∈ l then [ch o k 0, ch n k 0] else []
noncomputable def first (o n : List Nat) : Option Nat := (List.range (min o.length n.length / 14)).find? (dif o n)
noncomputable def readP (o n : List Nat) : List PyData :=
  [.int o.length, .int n.length] ++ match first o n with
    | none => []
    | some k => [.int k, .str (S (kindsOf o n k (unl o n k))), .int ((unl o n k).map (goneAt o n k)).sum, .int ((unl o n k).map (goneAt n o k)).sum]

theorem Ts.cv {X : Cx} {A : Around} {s₀ : Shared} {env : Env} {ρ : Str → Option D} {e : Expr} {b b' : Bool} (h : b = b') (he : Ts X A s₀ env ρ e b) : Ts X A s₀ env ρ e b' := h ▸ he
theorem neS_eq (a b : List Nat) : (S a != S b) = (a != b) := by unfold bne; rw [S_inj]
theorem neS_one (a b : Nat) : (S [a] != S [b]) = (a != b) := by rw [neS_eq]; unfold bne; simp
theorem getD_some {l : List Nat} {i : Nat} (h : i < l.length) : l[i]? = some (l.getD i 0) := by
  rw [List.getD_eq_getElem?_getD, List.getElem?_eq_getElem h]; rfl
theorem rngL_nat (a m : Nat) : rngL a (a + m : Nat) = (List.range m).map fun (i : Nat) => D.int ((a + i : Nat) : Int) := by
  unfold rngL
  rw [show (((a + m : Nat) : Int) - a).toNat = m by omega]
  rfl
noncomputable def keep (p : Nat → Bool) : D → Option D := fun d => match d with
  | .int i => if p i.toNat then some d else none
  | _ => none
theorem keep_nat (p : Nat → Bool) (j : Nat) : keep p (.int j) = if p j then some (.int j) else none := by
  show (if p (j : Int).toNat then _ else _) = _
  rw [Int.toNat_natCast]
theorem Item.filt {X : Cx} {A : Around} {s₀ : Shared} {env : Env} {ρ : Str → Option D} {ifs : List Expr} {elt : Expr} {d : D} {b : Bool} (hf : d.flat = true) (ht : Tests X A s₀ env ρ ifs b) (he : Ev X A s₀ env ρ elt d) : Item X A s₀ env ρ ifs elt (if b then some d else none) := by
  cases b with
  | true => exact ⟨hf, ht, he⟩
  | false => exact ht
theorem keep_rng (p : Nat → Bool) (a m : Nat) : (rngL a (a + m : Nat)).filterMap (keep p) = (((List.range m).filter fun i => p (a + i)).map fun (i : Nat) => D.int ((a + i : Nat) : Int)) := by
  rw [rngL_nat, List.filterMap_map]
  generalize List.range m = l
  induction l with
  | nil => rfl
  | cons i r ih =>
    have e : (keep p ∘ fun (i : Nat) => D.int ((a + i : Nat) : Int)) i = if p (a + i) then some (D.int ((a + i : Nat) : Int)) else none := by
      show (if p ((a + i : Nat) : Int).toNat then _ else _) = _
      rw [Int.toNat_natCast]
    rw [List.filterMap_cons, e, ih, List.filter_cons]
    cases p (a + i) <;> rfl

section
variable {X : Cx} {A : Around}
theorem Fc.minL2N {a b : Nat} (hh : A.handled = none) : Fc X A (.builtin "min") [.list [.int a, .int b]] (.int ((min a b : Nat) : Int)) := by
  have := Fc.minL2 (X := X) (a := a) (b := b) hh
  rwa [show min (a : Int) b = ((min a b : Nat) : Int) by omega] at this
end

section
variable {w : World} {q : Bool}
set_option maxHeartbeats 4000000 in
theorem fn_read (tb ta o n : List Nat) (ho : Fn (XX w q) 1 123 [Sd tb] (Sd o)) (hn : Fn (XX w q) 1 123 [Sd ta] (Sd n)) (lo : o.length ≤ 1000) (ln : n.length ≤ 1000)
    (hb : ∀ k, first o n = some k → ∀ i, i ∈ unl o n k → i ≠ 0 → ([ch o k i], bv i (ch o k i)) ∈ kvsAt i ∧ ([ch n k i], bv i (ch n k i)) ∈ kvsAt i) : Fn (XX w q) 3 135 [Sd tb, Sd ta] (.list ((readP o n).map fromP)) := by
  refine Fn.enter (ps := [("before", Sd tb), ("after", Sd ta)]) rfl rfl rfl rfl rfl rfl rfl rfl rfl rfl (Bnd.plain (ns := ["before", "after"]) rfl ?_) rfl ?_
  · intro vs hv
    obtain ⟨_, _, rfl⟩ := len2 hv; rfl
  · intro A s₀ R G env he F O
    subst he
    refine Ex.step (Es.asgC F O (Ev.callG F rfl rfl rfl rfl rfl rfl rfl (Evs.cons F rfl (Ev.loc F rfl rfl rfl) .nil) (ho A (R.less (Nat.le_of_ble_eq_true rfl)))) rfl rfl) ?_
    refine Ex.step (Es.asgC F O (Ev.callG F rfl rfl rfl rfl rfl rfl rfl (Evs.cons F rfl (Ev.loc F rfl rfl rfl) .nil) (hn A (R.less (Nat.le_of_ble_eq_true rfl)))) rfl rfl) ?_
    refine Ex.step (Es.asgL F (Ev.list (ds := [.int o.length, .int n.length]) (sz (Nat.le_of_ble_eq_true rfl)) (Evs.cons F rfl (Ev.callB F rfl rfl rfl (by decide) rfl (.inl ⟨_, rfl⟩) rfl rfl (Evs.cons F rfl (Ev.cell F rfl rfl rfl) .nil) (Fc.lenS (p60 (lek lo rfl)))) (Evs.cons F rfl (Ev.callB F rfl rfl rfl (by decide) rfl (.inl ⟨_, rfl⟩) rfl rfl (Evs.cons F rfl (Ev.cell F rfl rfl rfl) .nil) (Fc.lenS (p60 (lek ln rfl)))) .nil))) rfl rfl) ?_
    refine Ex.step (Es.asgL F (Ev.callB F rfl rfl rfl (by decide) rfl (.inr ⟨_, rfl⟩) rfl rfl (Evs.cons F rfl (Ev.bin F (Ev.callB F rfl rfl rfl (by decide) rfl (.inl ⟨_, rfl⟩) rfl rfl (Evs.cons F rfl (Ev.loc F rfl rfl rfl) .nil) (Fc.minL2N R.hd)) Ev.cInt op_div14) .nil) Fc.range1) rfl rfl) ?_
    refine Ex.on (ps := [("old", Sd o), ("new", Sd n), ("lengths", .list [.int o.length, .int n.length]), ("places", .rng 0 ((min o.length n.length / 14 : Nat) : Int) 1)]) ⟨rfl, rfl, rfl, rfl, trivial⟩ ?_
    generalize hm : min o.length n.length / 14 = m
    have hmo : 14 * m ≤ o.length := by omega
    have hmn : 14 * m ≤ n.length := by omega
    have hm1 : m ≤ 1000 := by omega
    have ek := keep_rng (dif o n) 0 m
    simp only [Nat.zero_add] at ek
    have e0 : rngL ((0 : Nat) : Int) ((m : Nat) : Int) = rngL 0 m := rfl
    rw [e0] at ek
    refine @Ex.step _ _ _ _ _ _ _ _ _ (Es.asgComp (cl := _) (keep (dif o n)) rfl F (Ev.loc F rfl rfl rfl) (Itb.rng R.hd (by decide) (naN (lek hm1 rfl))) (szR (lek hm1 rfl)) rfl (by decide) rfl (by decide) rfl rfl rfl ?_ (fun _ => rfl)) ?_
    · intro d hd s C cenv hc Gs' F'
      subst hc
      obtain ⟨j, hj, rfl⟩ : ∃ j : Nat, j < m ∧ d = .int j := by
        rw [← e0] at hd
        have := rngL_nat 0 m
        rw [Nat.zero_add] at this
        rw [this] at hd
        obtain ⟨j, hj, e⟩ := List.mem_map.mp hd
        exact ⟨j, List.mem_range.mp hj, by rw [← e, Nat.zero_add]⟩
      rw [keep_nat]
      have hj12 : 14 * j + 12 ≤ 14 * m := by clear hm hm1 lo ln hmo hmn; omega
      refine Item.filt rfl (Tests.one (Ts.cv (neS_eq _ _) (Ts.cmp F'
        (Ev.sliceSmidN (i := 14 * j + 2) (j := 14 * j + 12) F' (Ev.cell F' rfl rfl rfl) (Ev.bin F' (Ev.bin F' Ev.cInt (Ev.loc F' rfl rfl rfl) (op_mul14 (b := j) rfl)) Ev.cInt (op_addK 2)) (Ev.bin F' (Ev.bin F' Ev.cInt (Ev.loc F' rfl rfl rfl) (op_mul14 (b := j) rfl)) Ev.cInt (op_addK 12)) (c := 10) (Nat.add_assoc (14 * j) 2 10).symm (Nat.le_trans hj12 hmo) lo)
        (Ev.sliceSmidN (i := 14 * j + 2) (j := 14 * j + 12) F' (Ev.cell F' rfl rfl rfl) (Ev.bin F' (Ev.bin F' Ev.cInt (Ev.loc F' rfl rfl rfl) (op_mul14 (b := j) rfl)) Ev.cInt (op_addK 2)) (Ev.bin F' (Ev.bin F' Ev.cInt (Ev.loc F' rfl rfl rfl) (op_mul14 (b := j) rfl)) Ev.cInt (op_addK 12)) (c := 10) (Nat.add_assoc (14 * j) 2 10).symm (Nat.le_trans hj12 hmn) ln) op_neS rfl))) (Ev.loc F' rfl rfl rfl)
    rw [ek]
    have hf : first o n = ((List.range m).filter fun i => dif o n i).head? := by
      unfold first; rw [hm, List.head?_filter]
    cases hk : first o n with
    | none =>
      rw [hk] at hf
      have hnil : ((List.range m).filter fun i => dif o n i) = [] := List.head?_eq_none_iff.mp hf.symm
      rw [hnil]
      have er : (readP o n).map fromP = [.int o.length, .int n.length] := by unfold readP; rw [hk]; rfl
      rw [er]
      refine @Ex.cons _ _ _ _ _ _ _ _ (fun o' => o' = .ret (.list [.int o.length, .int n.length])) (Es.iff (b := true) F (Ts.cmp F (Ev.loc F rfl rfl rfl) (Ev.list (Nat.zero_le _) .nil) (op_eqLnil R.units) rfl) (fun _ => Ex.ret F (Ev.loc F rfl rfl rfl) rfl) tf) (fun _ h => nx h) fun o _ h => h
    | some k =>
      rw [hk] at hf
      have hkm : k < m ∧ dif o n k = true := by
        have := List.mem_of_mem_head? hf.symm
        rw [List.mem_filter, List.mem_range] at this
        exact this
      obtain ⟨hkm, hdk⟩ := hkm
      have hP0 : (((List.range m).filter fun i => dif o n i).map fun (i : Nat) => D.int (i : Int))[0]? = some (.int k) := by
        rw [List.getElem?_map, ← List.head?_eq_getElem?, ← hf]; rfl
      have hPe : (((List.range m).filter fun i => dif o n i).map fun (i : Nat) => D.int (i : Int)).isEmpty = false := by
        cases h : (((List.range m).filter fun i => dif o n i).map fun (i : Nat) => D.int (i : Int)) with
        | nil => rw [h] at hP0; cases hP0
        | cons a r => rfl
      generalize (((List.range m).filter fun i => dif o n i).map fun (i : Nat) => D.int (i : Int)) = PL at *
      refine @Ex.step _ _ _ _ _ _ _ _ _ (Es.iff (b := false) F (Ts.cv hPe (Ts.cmp F (Ev.loc F rfl rfl rfl) (Ev.list (Nat.zero_le _) .nil) (op_eqLnil R.units) rfl)) ff fun _ => Ex.nil rfl) ?_
      refine @Ex.step _ _ _ _ _ _ _ _ _ (Es.asgL F (Ev.itemL F (Ev.loc F rfl rfl rfl) Ev.cInt (by decide) (by decide) hP0 (fun _ _ => rfl)) rfl rfl) ?_
      refine @Ex.on _ _ _ _ _ _ _ [("old", Sd o), ("new", Sd n), ("lengths", .list [.int o.length, .int n.length]), ("k", .int k)] ⟨rfl, rfl, rfl, rfl, trivial⟩ ?_
      have hk12 : 14 * k + 12 ≤ 14 * m := by clear hm hm1 lo ln hmo hmn; omega
      have hkb : 14 * k + 12 ≤ 100000 := Nat.le_trans hk12 (Nat.le_trans (Nat.mul_le_mul_left 14 hm1) (Nat.le_of_ble_eq_true rfl))
      have hkx : ∀ x, x < 10 → 14 * k + 2 + x < 14 * k + 12 := fun x hx => by rw [Nat.add_assoc]; exact Nat.add_lt_add_left (Nat.add_lt_add_left hx 2) _
      have hkp : ∀ x, x < 10 → 14 * k + 2 + x < 2 ^ 60 := fun x hx => p60 (Nat.le_trans (Nat.le_of_lt (hkx x hx)) hkb)
      have ek2 := keep_rng (fun i => o.getD i 0 != n.getD i 0) (14 * k + 2) 10
      refine @Ex.step _ _ _ _ _ _ _ _ _ (Es.asgComp (cl := _) (keep fun i => o.getD i 0 != n.getD i 0) rfl F (Ev.callB F rfl rfl rfl (by decide) rfl (.inr ⟨_, rfl⟩) rfl rfl
        (Evs.cons F rfl (Ev.bin F (Ev.bin F Ev.cInt (Ev.loc F rfl rfl rfl) (op_mul14 (b := k) rfl)) Ev.cInt (op_addK 2))
        (Evs.cons F rfl (Ev.bin F (Ev.bin F Ev.cInt (Ev.loc F rfl rfl rfl) (op_mul14 (b := k) rfl)) Ev.cInt (op_addK 12)) .nil)) Fc.range2)
        (Itb.rng R.hd (naN (Nat.le_trans (Nat.add_le_add_left (by decide : 2 ≤ 12) _) hkb)) (naN hkb)) (by rw [rngL_nat (14 * k + 2) 10]; exact szM (Nat.le_of_ble_eq_true rfl)) rfl (by decide) rfl (by decide) rfl rfl rfl ?_ (fun _ => rfl)) ?_
      · intro d hd s C cenv hc Gs' F'
        subst hc
        obtain ⟨x, hx, rfl⟩ : ∃ x : Nat, x < 10 ∧ d = .int ((14 * k + 2 + x : Nat) : Int) := by
          rw [rngL_nat (14 * k + 2) 10] at hd
          obtain ⟨j, hj, e⟩ := List.mem_map.mp hd
          exact ⟨j, List.mem_range.mp hj, e.symm⟩
        rw [keep_nat]
        have ho1 : o[14 * k + 2 + x]? = some (o.getD (14 * k + 2 + x) 0) := getD_some (Nat.lt_of_lt_of_le (hkx x hx) (Nat.le_trans hk12 hmo))
        have hn1 : n[14 * k + 2 + x]? = some (n.getD (14 * k + 2 + x) 0) := getD_some (Nat.lt_of_lt_of_le (hkx x hx) (Nat.le_trans hk12 hmn))
        refine Item.filt rfl (Tests.one (Ts.cv (neS_one _ _) (Ts.cmp F' (Ev.itemSN F' (Ev.cell F' rfl rfl rfl) (Ev.loc F' rfl rfl rfl) (hkp x hx) ho1 (fun _ _ => rfl)) (Ev.itemSN F' (Ev.cell F' rfl rfl rfl) (Ev.loc F' rfl rfl rfl) (hkp x hx) hn1 (fun _ _ => rfl)) op_neS rfl))) (Ev.loc F' rfl rfl rfl)
      rw [ek2]
      have eu : ((List.range 10).filter fun i => o.getD (14 * k + 2 + i) 0 != n.getD (14 * k + 2 + i) 0) = unl o n k := rfl
      rw [eu]
      have hU : ∀ x ∈ unl o n k, x < 10 := fun x hx => by
        unfold unl at hx
        rw [List.mem_filter, List.mem_range] at hx
        exact hx.1
      have hb' := hb k hk
      have er : (readP o n).map fromP = [.int o.length, .int n.length] ++ [.int k, Sd (kindsOf o n k (unl o n k)), .int ((unl o n k).map (goneAt o n k)).sum, .int ((unl o n k).map (goneAt n o k)).sum] := by unfold readP; rw [hk]; rfl
      rw [er]
      generalize unl o n k = U at *
      refine @Ex.step _ _ _ _ _ _ _ _ _ (Es.asgL F (Ev.cS ofS_nil) rfl rfl) ?_
      refine @Ex.step _ _ _ _ _ _ _ _ _ (Es.asgL F Ev.cInt rfl rfl) ?_
      refine @Ex.step _ _ _ _ _ _ _ _ _ (Es.asgL F Ev.cInt rfl rfl) ?_
      let base : Nat → List (Str × D) := fun i => [("old", Sd o), ("new", Sd n), ("lengths", .list [.int o.length, .int n.length]), ("k", .int k), ("kinds", Sd (kindsOf o n k (U.take i))), ("went", .int ((U.take i).map (goneAt o n k)).sum), ("came", .int ((U.take i).map (goneAt n o k)).sum)]
      refine @Ex.cons _ _ _ _ _ _ _ _ (fun o' => ∃ ρ', o' = .next ρ' ∧ le (env0 (base U.length)) ρ') (Es.for F (Ev.loc F rfl rfl rfl) (Itb.list R.hd (by intro d hd; obtain ⟨s, _, rfl⟩ := List.mem_map.mp hd; rfl)) rfl
        (fun i ρ' => le (env0 (base i)) ρ') (Has.le ⟨rfl, rfl, rfl, rfl, rfl, rfl, rfl, trivial⟩) ?_ ?_ (fun _ => rfl) (fun _ h => h)) ?_ ?_
      · intro i d ρ' hd hle
        rw [List.getElem?_map] at hd
        obtain ⟨x, hx, rfl⟩ := Option.map_eq_some_iff.mp hd
        have hxU := List.mem_of_getElem? hx
        have hx10 := hU x hxU
        have et : U.take (i + 1) = U.take i ++ [x] := by rw [List.take_add_one, hx]; rfl
        have ho1 : o[14 * k + 2 + x]? = some (ch o k x) := getD_some (Nat.lt_of_lt_of_le (hkx x hx10) (Nat.le_trans hk12 hmo))
        have hn1 : n[14 * k + 2 + x]? = some (ch n k x) := getD_some (Nat.lt_of_lt_of_le (hkx x hx10) (Nat.le_trans hk12 hmn))
        have hp := hkp x hx10
        refine @Ex.weaken _ _ _ _ _ _ _ _ ?_ (le.upd2 hle)
        by_cases hx0 : x = 0
        · have e1 : kindsOf o n k (U.take (i + 1)) = [ch o k x, ch n k x] := by
            unfold kindsOf; rw [if_pos (by rw [et, hx0]; simp), hx0]
          have e2 : ((U.take (i + 1)).map (goneAt o n k)).sum = ((U.take i).map (goneAt o n k)).sum := by
            rw [et, List.map_append, List.sum_append, hx0]; simp [goneAt]
          have e3 : ((U.take (i + 1)).map (goneAt n o k)).sum = ((U.take i).map (goneAt n o k)).sum := by
            rw [et, List.map_append, List.sum_append, hx0]; simp [goneAt]
          refine Ex.one (Es.iff (b := true) F (Ts.cv (b := ((14 * k + 2 + x : Nat) : Int) == ((2 + 14 * k : Nat) : Int)) (by rw [beq_iff_eq]; clear hm hm1 lo ln hmo hmn hk12 hkb hkm hx10; omega) (Ts.cmp F (Ev.loc F rfl rfl rfl) (Ev.bin F Ev.cInt (Ev.bin F Ev.cInt (Ev.loc F rfl rfl rfl) (op_mul14 (b := k) rfl)) (op_addKl 2)) op_eqI rfl)) (fun _ => ?_) tf)
          refine @Ex.step _ _ _ _ _ _ _ _ _ (Es.asgL F (Ev.bin F (Ev.itemSN F (Ev.cell F rfl rfl rfl) (Ev.loc F rfl rfl rfl) hp ho1 (fun _ _ => rfl)) (Ev.itemSN F (Ev.cell F rfl rfl rfl) (Ev.loc F rfl rfl rfl) hp hn1 (fun _ _ => rfl)) (op_addSd (sz (Nat.le_of_ble_eq_true rfl)))) rfl rfl) (Ex.nil ?_)
          show le (env0 (base (i + 1))) _
          refine Has.le ⟨rfl, rfl, rfl, rfl, congrArg (fun l => some (Sd l)) e1.symm, congrArg (fun l => some (D.int l)) e2.symm, congrArg (fun l => some (D.int l)) e3.symm, trivial⟩
        · have e1 : kindsOf o n k (U.take (i + 1)) = kindsOf o n k (U.take i) := by
            unfold kindsOf; rw [et]
            have : (0 ∈ U.take i ++ [x]) ↔ (0 ∈ U.take i) := by simp; exact fun h => absurd h.symm hx0
            simp only [this]
          have g1 : ∀ a b : List Nat, goneAt a b k x = Builtin.bitAnd (bv x (ch a k x)) (Builtin.bitNot (bv x (ch b k x))) := fun a b => by unfold goneAt; rw [if_neg hx0]
          have e2 : ((U.take (i + 1)).map (goneAt o n k)).sum = ((U.take i).map (goneAt o n k)).sum + Builtin.bitAnd (bv x (ch o k x)) (Builtin.bitNot (bv x (ch n k x))) := by
            rw [et, List.map_append, List.sum_append, ← g1]; simp
          have e3 : ((U.take (i + 1)).map (goneAt n o k)).sum = ((U.take i).map (goneAt n o k)).sum + Builtin.bitAnd (bv x (ch n k x)) (Builtin.bitNot (bv x (ch o k x))) := by
            rw [et, List.map_append, List.sum_append, ← g1]; simp
          obtain ⟨hbo, hbn⟩ := hb' x hxU hx0
          have hx1 : 1 ≤ x := Nat.pos_of_ne_zero hx0
          have s1 : ((14 * k + 2 + x : Nat) : Int) - 2 = ((14 * k + x : Nat) : Int) := by clear hm hm1 lo ln hmo hmn hk12 hkb hkm hx10; omega
          have s2 : ((14 * k + x : Nat) : Int) - ((14 * k : Nat) : Int) = (x : Int) := by clear hm hm1 lo ln hmo hmn hk12 hkb hkm hx10 s1; omega
          refine Ex.one (Es.iff (b := false) F (Ts.cv (b := ((14 * k + 2 + x : Nat) : Int) == ((2 + 14 * k : Nat) : Int)) (by rw [beq_eq_false_iff_ne]; clear hm hm1 lo ln hmo hmn hk12 hkb hkm hx10 s1 s2; omega) (Ts.cmp F (Ev.loc F rfl rfl rfl) (Ev.bin F Ev.cInt (Ev.bin F Ev.cInt (Ev.loc F rfl rfl rfl) (op_mul14 (b := k) rfl)) (op_addKl 2)) op_eqI rfl)) ff (fun _ => ?_))
          refine @Ex.step _ _ _ _ _ _ _ _ _ (Es.asgL F (Ev.callG F rfl rfl rfl rfl rfl rfl rfl (Evs.cons F rfl (Ev.bin F (Ev.bin F (Ev.loc F rfl rfl rfl) Ev.cInt (op_subZ s1)) (Ev.bin F Ev.cInt (Ev.loc F rfl rfl rfl) (op_mul14 (b := k) rfl)) (op_subZ s2)) (Evs.cons F rfl (Ev.itemSN F (Ev.cell F rfl rfl rfl) (Ev.loc F rfl rfl rfl) hp ho1 (fun _ _ => rfl)) .nil)) (fn_bits x hx1 (Nat.le_of_lt_succ hx10) _ _ hbo A (R.less (Nat.le_of_ble_eq_true rfl)))) rfl rfl) ?_
          refine @Ex.step _ _ _ _ _ _ _ _ _ (Es.asgL F (Ev.callG F rfl rfl rfl rfl rfl rfl rfl (Evs.cons F rfl (Ev.bin F (Ev.bin F (Ev.loc F rfl rfl rfl) Ev.cInt (op_subZ s1)) (Ev.bin F Ev.cInt (Ev.loc F rfl rfl rfl) (op_mul14 (b := k) rfl)) (op_subZ s2)) (Evs.cons F rfl (Ev.itemSN F (Ev.cell F rfl rfl rfl) (Ev.loc F rfl rfl rfl) hp hn1 (fun _ _ => rfl)) .nil)) (fn_bits x hx1 (Nat.le_of_lt_succ hx10) _ _ hbn A (R.less (Nat.le_of_ble_eq_true rfl)))) rfl rfl) ?_
          refine @Ex.step _ _ _ _ _ _ _ _ _ (Es.asgL F (Ev.bin F (Ev.loc F rfl rfl rfl) (Ev.bin F (Ev.loc F rfl rfl rfl) (Ev.un F (Ev.loc F rfl rfl rfl) op_invI) op_andI) op_addI) rfl rfl) ?_
          refine @Ex.step _ _ _ _ _ _ _ _ _ (Es.asgL F (Ev.bin F (Ev.loc F rfl rfl rfl) (Ev.bin F (Ev.loc F rfl rfl rfl) (Ev.un F (Ev.loc F rfl rfl rfl) op_invI) op_andI) op_addI) rfl rfl) (Ex.nil ?_)
          show le (env0 (base (i + 1))) _
          refine Has.le ⟨rfl, rfl, rfl, rfl, congrArg (fun l => some (Sd l)) e1.symm, congrArg (fun l => some (D.int l)) e2.symm, congrArg (fun l => some (D.int l)) e3.symm, trivial⟩
      · intro ρ' hle
        rw [List.length_map] at hle
        exact Ex.nil ⟨ρ', rfl, hle⟩
      · rintro ρ' ⟨_, h, hle⟩
        cases h
        refine @Ex.weaken _ _ _ _ _ _ _ _ ?_ hle
        have ed : env0 (base U.length) = env0 [("old", Sd o), ("new", Sd n), ("lengths", .list [.int o.length, .int n.length]), ("k", .int k), ("kinds", Sd (kindsOf o n k U)), ("went", .int (U.map (goneAt o n k)).sum), ("came", .int (U.map (goneAt n o k)).sum)] := by
          show env0 _ = _
          simp only [base, List.take_length]
        rw [ed]
        exact Ex.ret F (Ev.bin F (Ev.loc F rfl rfl rfl) (Ev.list (sz (Nat.le_of_ble_eq_true rfl)) (Evs.cons F rfl (Ev.loc F rfl rfl rfl) (Evs.cons F rfl (Ev.loc F rfl rfl rfl) (Evs.cons F rfl (Ev.loc F rfl rfl rfl) (Evs.cons F rfl (Ev.loc F rfl rfl rfl) .nil))))) (op_addL (sz (Nat.le_of_ble_eq_true rfl)))) rfl
      · rintro o' hno ⟨ρ', rfl, _⟩
        exact absurd rfl (hno _)
end
end Mine
end M5

section M6
open PySem PySem.W PyProof.Rows
namespace Mine
section
variable {X : Cx} {A : Around} {s₀ : Shared} {env : Env} {ρ : Str → Option D}
theorem Ts.or2 {x y : Expr} {pos : Pos} {b1 b2 : Bool} (F : Fm X s₀ env) (hx : Ts X A s₀ env ρ x b1) (hy : Ts X A s₀ env ρ y b2) : Ts X A s₀ env ρ (.BoolOp .Or [x, y] pos) (b1 || b2) := by
  cases b1 with
  | true => exact @Ts.orT _ _ _ _ _ _ _ _ hx
  | false =>
    cases b2 with
    | true => exact @Ts.orF _ _ _ _ _ _ _ pos pos _ F hx (@Ts.orT _ _ _ _ _ _ _ _ hy)
    | false => exact @Ts.orF _ _ _ _ _ _ _ pos pos _ F hx (@Ts.orF _ _ _ _ _ _ _ pos pos _ F hy Ts.orNil)
theorem op_modE {a b : Int} (hb : 0 < b) : Op2 X A (binaryOp .Mod) (.int a) (.int b) (.int (a % b)) := by
  have := op_modI (X := X) (A := A) (a := a) (b := b) (by omega)
  rwa [Int.fmod_eq_emod_of_nonneg _ (by omega)] at this
theorem op_divE {a b : Int} (hb : 0 < b) (hs : b < 1073741824) : Op2 X A (binaryOp .FloorDiv) (.int a) (.int b) (.int (a / b)) := by
  have := op_divI (X := X) (A := A) (a := a) (b := b) (by omega) (by omega)
  rwa [Int.fdiv_eq_ediv_of_nonneg _ (by omega)] at this
theorem Fc.min2N {a b : Nat} (hh : A.handled = none) : Fc X A (.builtin "min") [.int a, .int b] (.int ((min a b : Nat) : Int)) := by
  have := Fc.min2 (X := X) (a := a) (b := b) hh
  rwa [show min (a : Int) b = ((min a b : Nat) : Int) by omega] at this
end

noncomputable def keepV (p : Nat → Bool) (g : Nat → D) : D → Option D := fun d => match d with
  | .int i => if p i.toNat then some (g i.toNat) else none
  | _ => none
theorem keepV_nat (p : Nat → Bool) (g : Nat → D) (j : Nat) : keepV p g (.int j) = if p j then some (g j) else none := by
  show (if p (j : Int).toNat then some (g (j : Int).toNat) else _) = _
  rw [Int.toNat_natCast]
theorem keepV_map (p : Nat → Bool) (g : Nat → D) (l : List Nat) : (l.map fun (i : Nat) => D.int (i : Int)).filterMap (keepV p g) = (l.filter p).map g := by
  rw [List.filterMap_map]
  induction l with
  | nil => rfl
  | cons i r ih =>
    rw [List.filterMap_cons, Function.comp_apply, keepV_nat, ih, List.filter_cons]
    cases p i <;> rfl
theorem rngL0 (m : Nat) : rngL 0 m = (List.range m).map fun (i : Nat) => D.int (i : Int) := by
  have := rngL_nat 0 m
  rw [Nat.zero_add] at this
  refine Eq.trans (show rngL 0 m = rngL ((0 : Nat) : Int) (m : Int) from rfl) (this.trans ?_)
  simp only [Nat.zero_add]
theorem keepV_rng (p : Nat → Bool) (g : Nat → D) (m : Nat) : (rngL 0 m).filterMap (keepV p g) = ((List.range m).filter p).map g := by
  rw [rngL0, keepV_map]
theorem mem_rng0 {m : Nat} {d : D} (h : d ∈ rngL 0 m) : ∃ j : Nat, j < m ∧ d = .int j := by
  rw [rngL0] at h
  obtain ⟨j, hj, e⟩ := List.mem_map.mp h
  exact ⟨j, List.mem_range.mp hj, e.symm⟩

/-- the sign of a mode's kind -/
noncomputable def signsL : List Nat := [63, 112, 99, 63, 100, 63, 98, 63, 45, 63, 108, 63, 115, 63, 63, 63]
noncomputable def kindN (x : Int) : Nat := signsL.getD (x / 4096 % 16).toNat 0
noncomputable def diffM (a b : Int) : Bool := kindN a != kindN b || a % 4096 != b % 4096
noncomputable def goneL (a b : Int) : List Nat := (List.range 12).filter fun i => decide (a / 2 ^ i % 2 > b / 2 ^ i % 2)
noncomputable def goneM (a b : Int) : Int := ((goneL a b).map fun i => (2 : Int) ^ i).sum
noncomputable def firstM (as bs : List Int) : Option Nat := (List.range (min as.length bs.length)).find? fun k => diffM (as.getD k 0) (bs.getD k 0)
noncomputable def dueP (as bs : List Int) : List PyData :=
  [.int ((14 * as.length : Nat) : Int), .int ((14 * bs.length : Nat) : Int)] ++ match firstM as bs with
    | none => []
    | some k => [.int k, .str (S (if kindN (as.getD k 0) != kindN (bs.getD k 0) then [kindN (as.getD k 0), kindN (bs.getD k 0)] else [])), .int (goneM (as.getD k 0) (bs.getD k 0)), .int (goneM (bs.getD k 0) (as.getD k 0))]
theorem kind_at (x : Int) : signsL[(x / 4096 % 16).toNat]? = some (kindN x) := getD_some (by show _ < 16; omega)
theorem kind_rng (x : Int) : 0 ≤ x / 4096 % 16 ∧ x / 4096 % 16 < 2 ^ 63 := ⟨Int.emod_nonneg _ (by decide), Int.lt_trans (Int.emod_lt_of_pos _ (by decide)) (by decide)⟩
theorem pow12 {i : Nat} (h : i < 12) : (0 : Int) < 2 ^ i ∧ (2 : Int) ^ i < 1073741824 := by
  have : ∀ i : Fin 12, (0 : Int) < 2 ^ i.1 ∧ (2 : Int) ^ i.1 < 1073741824 := by decide
  exact this ⟨i, h⟩
theorem getI {l : List Int} {i : Nat} (h : i < l.length) : (l.map D.int)[i]? = some (.int (l.getD i 0)) := by
  rw [List.getElem?_map, List.getD_eq_getElem?_getD, List.getElem?_eq_getElem h]; rfl

section
variable {X : Cx} {A : Around} {s₀ : Shared} {env : Env} {ρ : Str → Option D}
theorem Ev.itemIN {value idx : Expr} {pos : Pos} {l : List Int} {k : Nat} (F : Fm X s₀ env) (hv : Ev X A s₀ env ρ value (.list (l.map D.int))) (hi : Ev X A s₀ env ρ idx (.int k)) (hk : k < l.length) (hl : l.length ≤ 1000)
    (hs : ∀ o i, subscripted idx false o i = operate [o, i] (getItem o i)) : Ev X A s₀ env ρ (.Subscript value idx pos) (.int (l.getD k 0)) :=
  Ev.itemL F hv hi (by omega) (by omega) (by rw [Int.toNat_natCast]; exact getI hk) hs
theorem Ev.ite2 {t b o : Expr} {pos : Pos} {c : Bool} {x y : List Nat} (F : Fm X s₀ env) (ht : Ts X A s₀ env ρ t c) (hb : Ev X A s₀ env ρ b (Sd x)) (ho : Ev X A s₀ env ρ o (Sd y)) : Ev X A s₀ env ρ (.IfExp t b o pos) (Sd (if c then x else y)) := by
  cases c with
  | true => exact @Ev.ite _ _ _ _ _ _ _ _ _ _ _ F ht (fun _ => hb) tf
  | false => exact @Ev.ite _ _ _ _ _ _ _ _ _ _ _ F ht ff (fun _ => ho)
end
section
variable {w : World} {q : Bool}
set_option maxHeartbeats 4000000 in
theorem fn_due (as bs : List Int) (la : as.length ≤ 1000) (lb : bs.length ≤ 1000) : Fn (XX w q) 3 140 [.list (as.map D.int), .list (bs.map D.int)] (.list ((dueP as bs).map fromP)) := by
  refine Fn.enter (ps := [("first", .list (as.map D.int)), ("second", .list (bs.map D.int))]) rfl rfl rfl rfl rfl rfl rfl rfl rfl rfl (Bnd.plain (ns := ["first", "second"]) rfl ?_) rfl ?_
  · intro vs hv
    obtain ⟨_, _, rfl⟩ := len2 hv; rfl
  · intro A s₀ R G env he F O
    subst he
    have fl : ∀ {B : Around} (l : List Int), l.length ≤ 1000 → Fc (XX w q) B (.builtin "len") [.list (l.map D.int)] (.int (l.length : Int)) := fun l hl => by
      have := Fc.lenL (X := XX w q) (A := ‹Around›) (ds := l.map D.int) (by rw [List.length_map]; exact p60 (lek hl rfl))
      rwa [List.length_map] at this
    refine @Ex.step _ _ _ _ _ _ _ _ _ (Es.asgL F (Ev.cS (l := signsL) (by decide +kernel)) rfl rfl) ?_
    refine @Ex.step _ _ _ _ _ _ _ _ _ (Es.asgL F (Ev.list (ds := [.int ((14 * as.length : Nat) : Int), .int ((14 * bs.length : Nat) : Int)]) (sz (Nat.le_of_ble_eq_true rfl)) (Evs.cons F rfl (Ev.bin F Ev.cInt (Ev.callB F rfl rfl rfl (by decide) rfl (.inl ⟨_, rfl⟩) rfl rfl (Evs.cons F rfl (Ev.cell F rfl rfl rfl) .nil) (fl as la)) (op_mul14 rfl)) (Evs.cons F rfl (Ev.bin F Ev.cInt (Ev.callB F rfl rfl rfl (by decide) rfl (.inl ⟨_, rfl⟩) rfl rfl (Evs.cons F rfl (Ev.cell F rfl rfl rfl) .nil) (fl bs lb)) (op_mul14 rfl)) .nil))) rfl rfl) ?_
    let base : List (Str × D) := [("first", .list (as.map D.int)), ("second", .list (bs.map D.int)), ("signs", Sd signsL), ("lengths", .list [.int ((14 * as.length : Nat) : Int), .int ((14 * bs.length : Nat) : Int)])]
    generalize hr : D.list ((dueP as bs).map fromP) = r
    refine @Ex.cons _ _ _ _ _ _ _ _ (fun o' => o' = .ret r ∨ ∃ ρ', o' = .next ρ' ∧ le (env0 base) ρ' ∧ firstM as bs = none) (Es.forC F O
      (Ev.callB F rfl rfl rfl (by decide) rfl (.inr ⟨_, rfl⟩) rfl rfl (Evs.cons F rfl (Ev.callB F rfl rfl rfl (by decide) rfl (.inl ⟨_, rfl⟩) rfl rfl (Evs.cons F rfl (Ev.callB F rfl rfl rfl (by decide) rfl (.inl ⟨_, rfl⟩) rfl rfl (Evs.cons F rfl (Ev.cell F rfl rfl rfl) .nil) (fl as la)) (Evs.cons F rfl (Ev.callB F rfl rfl rfl (by decide) rfl (.inl ⟨_, rfl⟩) rfl rfl (Evs.cons F rfl (Ev.cell F rfl rfl rfl) .nil) (fl bs lb)) .nil)) (Fc.min2N R.hd)) .nil) Fc.range1)
      (Itb.rng R.hd (by decide) (naN (Nat.le_trans (Nat.min_le_left _ _) (lek la rfl)))) rfl
      (fun i ρ' => le (env0 base) ρ' ∧ ∀ j, j < i → diffM (as.getD j 0) (bs.getD j 0) = false) ⟨Has.le ⟨rfl, rfl, rfl, rfl, trivial⟩, fun j h => absurd h (Nat.not_lt_zero _)⟩ ?_ ?_ (fun _ => rfl) (fun _ h => h)) ?_ ?_
    · rintro i d ρ' hd ⟨hle, hno⟩
      obtain ⟨hi, rfl⟩ : i < min as.length bs.length ∧ d = .int (i : Int) := by
        have hl := (List.getElem?_eq_some_iff.mp hd).1
        rw [rngL_length] at hl
        have hl : i < min as.length bs.length := by omega
        rw [rngL0, List.getElem?_map, List.getElem?_range hl] at hd
        cases hd
        exact ⟨hl, rfl⟩
      have hia : i < as.length := by omega
      have hib : i < bs.length := by omega
      refine @Ex.weaken _ _ _ _ _ _ _ _ ?_ (le.upd2 hle)
      have hdue : diffM (as.getD i 0) (bs.getD i 0) = true → r = .list ([.int ((14 * as.length : Nat) : Int), .int ((14 * bs.length : Nat) : Int)] ++ [.int i, Sd (if kindN (as.getD i 0) != kindN (bs.getD i 0) then [kindN (as.getD i 0), kindN (bs.getD i 0)] else []), .int (goneM (as.getD i 0) (bs.getD i 0)), .int (goneM (bs.getD i 0) (as.getD i 0))]) := fun hd => by
        have hf : firstM as bs = some i := by
          unfold firstM
          rw [List.find?_range_eq_some]
          exact ⟨hd, by rw [List.mem_range]; exact hi, fun j hj => by rw [hno j hj]; rfl⟩
        rw [← hr]; unfold dueP; rw [hf]; rfl
      generalize ha : as.getD i 0 = a at *
      generalize hb : bs.getD i 0 = b at *
      have ga : ∀ {env' : Env} {ρ'' : Str → Option D} {s' : Shared} {value idx : Expr} {pos : Pos} (F' : Fm (XX w q) s' env') (hv : Ev (XX w q) A s' env' ρ'' value (.list (as.map D.int))) (hi : Ev (XX w q) A s' env' ρ'' idx (.int i)) (hs : ∀ o i, subscripted idx false o i = operate [o, i] (getItem o i)), Ev (XX w q) A s' env' ρ'' (.Subscript value idx pos) (.int a) :=
        fun F' hv hi hs => ha ▸ Ev.itemIN F' hv hi hia la hs
      have gb : ∀ {env' : Env} {ρ'' : Str → Option D} {s' : Shared} {value idx : Expr} {pos : Pos} (F' : Fm (XX w q) s' env') (hv : Ev (XX w q) A s' env' ρ'' value (.list (bs.map D.int))) (hi : Ev (XX w q) A s' env' ρ'' idx (.int i)) (hs : ∀ o i, subscripted idx false o i = operate [o, i] (getItem o i)), Ev (XX w q) A s' env' ρ'' (.Subscript value idx pos) (.int b) :=
        fun F' hv hi hs => hb ▸ Ev.itemIN F' hv hi hib lb hs
      refine @Ex.step _ _ _ _ _ _ _ _ _ (Es.asgL F (Ev.bin F
        (Ev.itemS F (Ev.loc F rfl rfl rfl) (Ev.bin F (Ev.bin F (ga F (Ev.cell F rfl rfl rfl) (Ev.cell F rfl rfl rfl) (fun _ _ => rfl)) Ev.cInt (op_divE (by decide) (by decide))) Ev.cInt (op_modE (by decide))) (kind_rng a).1 (kind_rng a).2 (kind_at a) (fun _ _ => rfl))
        (Ev.itemS F (Ev.loc F rfl rfl rfl) (Ev.bin F (Ev.bin F (gb F (Ev.cell F rfl rfl rfl) (Ev.cell F rfl rfl rfl) (fun _ _ => rfl)) Ev.cInt (op_divE (by decide) (by decide))) Ev.cInt (op_modE (by decide))) (kind_rng b).1 (kind_rng b).2 (kind_at b) (fun _ _ => rfl)) (op_addSd (sz (Nat.le_of_ble_eq_true rfl)))) rfl rfl) ?_
      refine Ex.one (Es.iff (b := diffM a b) F (Ts.or2 F (Ts.cv (neS_one _ _) (Ts.cmp F (Ev.itemS (k := 0) F (Ev.loc F rfl rfl rfl) Ev.cInt (by decide) (by decide) rfl (fun _ _ => rfl)) (Ev.itemS (k := 1) F (Ev.loc F rfl rfl rfl) Ev.cInt (by decide) (by decide) rfl (fun _ _ => rfl)) op_neS rfl))
        (Ts.cmp F (Ev.bin F (ga F (Ev.cell F rfl rfl rfl) (Ev.cell F rfl rfl rfl) (fun _ _ => rfl)) Ev.cInt (op_modE (by decide))) (Ev.bin F (gb F (Ev.cell F rfl rfl rfl) (Ev.cell F rfl rfl rfl) (fun _ _ => rfl)) Ev.cInt (op_modE (by decide))) op_neI rfl)) (fun hc => ?_) (fun hc => ?_))
      · have e1 : (rngL 0 12).filterMap (keepV (fun j => decide (a / 2 ^ j % 2 > b / 2 ^ j % 2)) fun j => .int (2 ^ j)) = ((goneL a b).map fun i => (2 : Int) ^ i).map D.int := by
          rw [List.map_map]; exact keepV_rng _ _ 12
        have e2 : (rngL 0 12).filterMap (keepV (fun j => decide (a / 2 ^ j % 2 < b / 2 ^ j % 2)) fun j => .int (2 ^ j)) = ((goneL b a).map fun i => (2 : Int) ^ i).map D.int := by
          rw [List.map_map]; exact keepV_rng _ _ 12
        refine @Ex.step _ _ _ _ _ _ _ _ _ (Es.asgL F (Ev.callB F rfl rfl rfl (by decide) rfl (.inl ⟨_, rfl⟩) rfl rfl (Evs.cons F rfl (Ev.cv (congrArg D.list e1) (Ev.comp (cl := _) _ F (Ev.callB F rfl rfl rfl (by decide) rfl (.inr ⟨_, rfl⟩) rfl rfl (Evs.cons F rfl Ev.cInt .nil) Fc.range1)
          (Itb.rng R.hd (by decide) (by decide)) (szR (m := 12) (Nat.le_of_ble_eq_true rfl)) rfl (by decide) rfl (by decide) rfl rfl ?_ (fun _ => rfl))) .nil) (Fc.sum R.hd)) rfl rfl) ?_
        · intro d hd s C cenv hc' Gs' F'
          subst hc'
          obtain ⟨j, hj, rfl⟩ := mem_rng0 (m := 12) hd
          have hp := pow12 hj
          have hj1 : j ≤ 100 := lek (Nat.le_of_lt hj) rfl
          rw [keepV_nat]
          exact Item.filt rfl (Tests.one (Ts.cmp F' (Ev.bin F' (Ev.bin F' (ga F' (Ev.cell F' rfl rfl rfl) (Ev.cell F' rfl rfl rfl) (fun _ _ => rfl)) (Ev.bin F' Ev.cInt (Ev.loc F' rfl rfl rfl) (op_pow2 (n := j) hj1)) (op_divE hp.1 hp.2)) Ev.cInt (op_modE (by decide)))
            (Ev.bin F' (Ev.bin F' (gb F' (Ev.cell F' rfl rfl rfl) (Ev.cell F' rfl rfl rfl) (fun _ _ => rfl)) (Ev.bin F' Ev.cInt (Ev.loc F' rfl rfl rfl) (op_pow2 (n := j) hj1)) (op_divE hp.1 hp.2)) Ev.cInt (op_modE (by decide))) op_gtI rfl)) (Ev.bin F' Ev.cInt (Ev.loc F' rfl rfl rfl) (op_pow2 (n := j) hj1))
        refine @Ex.step _ _ _ _ _ _ _ _ _ (Es.asgL F (Ev.callB F rfl rfl rfl (by decide) rfl (.inl ⟨_, rfl⟩) rfl rfl (Evs.cons F rfl (Ev.cv (congrArg D.list e2) (Ev.comp (cl := _) _ F (Ev.callB F rfl rfl rfl (by decide) rfl (.inr ⟨_, rfl⟩) rfl rfl (Evs.cons F rfl Ev.cInt .nil) Fc.range1)
          (Itb.rng R.hd (by decide) (by decide)) (szR (m := 12) (Nat.le_of_ble_eq_true rfl)) rfl (by decide) rfl (by decide) rfl rfl ?_ (fun _ => rfl))) .nil) (Fc.sum R.hd)) rfl rfl) ?_
        · intro d hd s C cenv hc' Gs' F'
          subst hc'
          obtain ⟨j, hj, rfl⟩ := mem_rng0 (m := 12) hd
          have hp := pow12 hj
          have hj1 : j ≤ 100 := lek (Nat.le_of_lt hj) rfl
          rw [keepV_nat]
          exact Item.filt rfl (Tests.one (Ts.cmp F' (Ev.bin F' (Ev.bin F' (ga F' (Ev.cell F' rfl rfl rfl) (Ev.cell F' rfl rfl rfl) (fun _ _ => rfl)) (Ev.bin F' Ev.cInt (Ev.loc F' rfl rfl rfl) (op_pow2 (n := j) hj1)) (op_divE hp.1 hp.2)) Ev.cInt (op_modE (by decide)))
            (Ev.bin F' (Ev.bin F' (gb F' (Ev.cell F' rfl rfl rfl) (Ev.cell F' rfl rfl rfl) (fun _ _ => rfl)) (Ev.bin F' Ev.cInt (Ev.loc F' rfl rfl rfl) (op_pow2 (n := j) hj1)) (op_divE hp.1 hp.2)) Ev.cInt (op_modE (by decide))) op_ltI rfl)) (Ev.bin F' Ev.cInt (Ev.loc F' rfl rfl rfl) (op_pow2 (n := j) hj1))
        refine @Ex.ret _ _ _ _ _ _ _ _ _ _ F (Ev.bin F (Ev.loc F rfl rfl rfl) (Ev.list (sz (Nat.le_of_ble_eq_true rfl)) (Evs.cons F rfl (Ev.cell F rfl rfl rfl) (Evs.cons F rfl (Ev.ite2 F (Ts.cv (neS_one _ _) (Ts.cmp F (Ev.itemS (k := 0) F (Ev.loc F rfl rfl rfl) Ev.cInt (by decide) (by decide) rfl (fun _ _ => rfl)) (Ev.itemS (k := 1) F (Ev.loc F rfl rfl rfl) Ev.cInt (by decide) (by decide) rfl (fun _ _ => rfl)) op_neS rfl)) (Ev.loc F rfl rfl rfl) (Ev.cS ofS_nil)) (Evs.cons F rfl (Ev.loc F rfl rfl rfl) (Evs.cons F rfl (Ev.loc F rfl rfl rfl) .nil))))) (op_addL (sz (Nat.le_of_ble_eq_true rfl)))) ?_
        exact .inl (congrArg Out.ret (hdue hc).symm)
      · refine Ex.nil ⟨Has.le ⟨rfl, rfl, rfl, rfl, trivial⟩, fun j hj => ?_⟩
        by_cases e : j = i
        · subst e; rw [ha, hb]; exact hc
        · exact hno j (by omega)
    · rintro ρ' ⟨hle, hno⟩
      refine Ex.nil (.inr ⟨ρ', rfl, hle, ?_⟩)
      rw [rngL_length] at hno
      unfold firstM
      rw [List.find?_eq_none]
      intro j hj
      rw [List.mem_range] at hj
      rw [hno j (by omega)]; decide
    · rintro ρ' (h | ⟨_, h, hle, hf⟩)
      · cases h
      · cases h
        refine @Ex.weaken _ _ _ _ _ _ _ _ ?_ hle
        have er : r = .list [.int ((14 * as.length : Nat) : Int), .int ((14 * bs.length : Nat) : Int)] := by
          rw [← hr]; unfold dueP; rw [hf]; rfl
        rw [er]
        exact Ex.ret F (Ev.loc F rfl rfl rfl) rfl
    · rintro o' hno (rfl | ⟨ρ', rfl, _⟩)
      · rfl
      · exact absurd rfl (hno _)
end
end Mine
end M6

section P3
open PySem PySem.W PyProof.Rows
namespace Mine
noncomputable def tb (x : Int) (j : Nat) : Bool := x / 2 ^ j % 2 == 1
theorem and_pow (x : Int) (j : Nat) : (Builtin.bitAnd x (2 ^ j) == 2 ^ j) = tb x j := by
  rw [kbt_bit]
  unfold tb
  have h0 : x / 2 ^ j % 2 = 0 ∨ x / 2 ^ j % 2 = 1 := by omega
  have hp : (2 : Int) ^ j ≠ 0 := by have := Int.pow_pos (n := 2) (m := j) (by decide); omega
  rcases h0 with e | e <;> rw [e]
  · rw [Int.zero_mul]
    rw [Bool.eq_iff_iff, beq_iff_eq, beq_iff_eq]
    constructor
    · intro h; exact absurd h.symm hp
    · intro h; cases h
  · rw [Int.one_mul]; simp
theorem and_shift (k : Nat) (x m : Int) : Builtin.bitAnd x (2 ^ k * m) = 2 ^ k * Builtin.bitAnd (x / 2 ^ k) m := by
  induction k generalizing x with
  | zero => simp
  | succ k ih =>
    rw [kbt_halves]
    have e1 : (2 : Int) ^ (k + 1) * m / 2 = 2 ^ k * m := by
      rw [Int.pow_succ, Int.mul_comm (2 ^ k) 2, Int.mul_assoc, Int.mul_ediv_cancel_left _ (by decide)]
    have e2 : (2 : Int) ^ (k + 1) * m % 2 = 0 := by
      rw [Int.pow_succ, Int.mul_comm (2 ^ k) 2, Int.mul_assoc]; omega
    rw [e1, e2, ih]
    have e3 : x / 2 / 2 ^ k = x / 2 ^ (k + 1) := by
      rw [Int.ediv_ediv_of_nonneg (by decide), Int.pow_succ, Int.mul_comm]
    rw [e3, if_neg (by omega), Int.pow_succ, Int.mul_comm (2 ^ k) 2, Int.mul_assoc]; omega
theorem and_kind (x : Int) : Builtin.bitAnd x 61440 = 4096 * (x / 4096 % 16) := by
  have := and_shift 12 x 15
  rw [bitAnd_m4] at this
  exact this
theorem two_bits {p q D : Int} (hp : p = 0 ∨ p = 1) (hq : q = 0 ∨ q = 1) (hD : 0 < D) : (2 * (p * D) + (if q = 1 ∧ (1 : Int) = 1 then 1 else 0) = 2 * D + 1) ↔ (p = 1 ∧ q = 1) := by
  rcases hp with rfl | rfl <;> rcases hq with rfl | rfl <;> simp <;> omega
theorem and_two (x : Int) (l d : Nat) : (Builtin.bitAnd x (2 ^ l * (2 * 2 ^ d + 1)) == 2 ^ l * (2 * 2 ^ d + 1)) = (tb x (l + 1 + d) && tb x l) := by
  have hp : (0 : Int) < 2 ^ d := Int.pow_pos (by decide)
  have hl : (2 : Int) ^ l ≠ 0 := Int.ne_of_gt (Int.pow_pos (by decide))
  have e1 : x / 2 ^ l / 2 / 2 ^ d = x / 2 ^ (l + 1 + d) := by
    rw [Int.ediv_ediv_of_nonneg (Int.le_of_lt (Int.pow_pos (by decide))), Int.ediv_ediv_of_nonneg (Int.mul_nonneg (Int.le_of_lt (Int.pow_pos (by decide))) (by decide)), Int.pow_add, Int.pow_succ]
  have e2 : ∀ D : Int, (2 * D + 1) / 2 = D := fun D => by omega
  have e3 : ∀ D : Int, (2 * D + 1) % 2 = 1 := fun D => by omega
  rw [and_shift, kbt_halves, e2, e3, kbt_bit, e1]
  unfold tb
  rw [Bool.eq_iff_iff, Bool.and_eq_true, beq_iff_eq, beq_iff_eq, beq_iff_eq, Int.mul_eq_mul_left_iff hl]
  exact two_bits (Int.emod_two_eq _) (Int.emod_two_eq _) hp
theorem and_2112 (x : Int) : (Builtin.bitAnd x 2112 == 2112) = (tb x 11 && tb x 6) := and_two x 6 4
theorem and_1032 (x : Int) : (Builtin.bitAnd x 1032 == 1032) = (tb x 10 && tb x 3) := and_two x 3 6
theorem and_513 (x : Int) : (Builtin.bitAnd x 513 == 513) = (tb x 9 && tb x 0) := and_two x 0 8
/-- the sign of a place, by its bits -/
noncomputable def pc (i : Nat) (run above : Bool) : Nat :=
  if i % 3 ≠ 0 then (if run then lRW.getD (i % 3) 0 else 45) else
  if above then (if run then lst.getD (i - 1) 0 else lST.getD (i - 1) 0) else if run then 120 else 45
theorem hit_pow (i j : Nat) (x : Int) (hi : i ≠ 0) : hit i x (2 ^ j) = tb x j := by unfold hit; rw [if_neg hi, and_pow]
theorem fch_one {x : Int} {i j c : Nat} (hi : i ≠ 0) (ht : tabAt i = [((2 : Int) ^ j, c)]) : fch x i = if tb x j then c else 45 := by
  unfold fch
  rw [ht, if_neg hi, List.find?_cons, hit_pow _ _ _ hi]
  cases tb x j <;> rfl
theorem fch_three {x b : Int} {i j l c1 c2 c3 : Nat} (hi : i ≠ 0) (ht : tabAt i = [(b, c1), ((2 : Int) ^ j, c2), ((2 : Int) ^ l, c3)]) (hb : hit i x b = (tb x j && tb x l)) :
    fch x i = if tb x j then (if tb x l then c1 else c2) else if tb x l then c3 else 45 := by
  unfold fch
  rw [ht, if_neg hi, List.find?_cons, List.find?_cons, List.find?_cons, hit_pow _ _ _ hi, hit_pow _ _ _ hi, hb]
  cases tb x j <;> cases tb x l <;> rfl
theorem fch_pc (x : Int) : ∀ i, 1 ≤ i → i < 10 → fch x i = pc i (tb x (9 - i)) (tb x (12 - i / 3))
  | 1, _, _ => fch_one (j := 8) (c := 114) (by decide) rfl
  | 2, _, _ => fch_one (j := 7) (c := 119) (by decide) rfl
  | 3, _, _ => fch_three (b := 2112) (j := 11) (l := 6) (by decide) rfl (and_2112 x)
  | 4, _, _ => fch_one (j := 5) (c := 114) (by decide) rfl
  | 5, _, _ => fch_one (j := 4) (c := 119) (by decide) rfl
  | 6, _, _ => fch_three (b := 1032) (j := 10) (l := 3) (by decide) rfl (and_1032 x)
  | 7, _, _ => fch_one (j := 2) (c := 114) (by decide) rfl
  | 8, _, _ => fch_one (j := 1) (c := 119) (by decide) rfl
  | 9, _, _ => fch_three (b := 513) (j := 9) (l := 0) (by decide) rfl (and_513 x)
  | i + 10, _, h => absurd h (by omega)
theorem fch_kind (x : Int) : fch x 0 = kindN x := by
  have hr : ∃ n : Fin 16, x / 4096 % 16 = (n.1 : Int) := ⟨⟨(x / 4096 % 16).toNat, by omega⟩, by show _ = (((x / 4096 % 16).toNat : Nat) : Int); omega⟩
  obtain ⟨n, hn⟩ := hr
  unfold fch kindN hit
  simp only [if_pos]
  rw [and_kind, hn]
  revert n
  have : ∀ n : Fin 16, (((tabAt 0).find? (fun p => (4096 * (n.1 : Int) == p.1))).map (·.2)).getD 63 = signsL.getD ((n.1 : Int)).toNat 0 := by decide
  intro n _
  exact this n
end Mine
end P3

section P4
open PySem PySem.W PyProof.Rows
namespace Mine
noncomputable def vb (i : Nat) (r u : Bool) : Int := (if r then 2 ^ (9 - i) else 0) + (if i % 3 = 0 ∧ u = true then 2 ^ (12 - i / 3) else 0)
theorem bv_pc {i : Nat} (h1 : 1 ≤ i) (h9 : i < 10) (r u : Bool) : ([pc i r u], bv i (pc i r u)) ∈ kvsAt i ∧ bv i (pc i r u) = vb i r u := by
  have : ∀ (i : Fin 10) (r u : Bool), 1 ≤ i.1 → ([pc i.1 r u], bv i.1 (pc i.1 r u)) ∈ kvsAt i.1 ∧ bv i.1 (pc i.1 r u) = vb i.1 r u := by decide +kernel
  exact this ⟨i, h9⟩ r u h1
theorem gone_vb {i : Nat} (h1 : 1 ≤ i) (h9 : i < 10) (r u r' u' : Bool) : Builtin.bitAnd (vb i r u) (Builtin.bitNot (vb i r' u')) = vb i (r && !r') (u && !u') := by
  have : ∀ (i : Fin 10) (r u r' u' : Bool), 1 ≤ i.1 → Builtin.bitAnd (vb i.1 r u) (Builtin.bitNot (vb i.1 r' u')) = vb i.1 (r && !r') (u && !u') := by decide +kernel
  exact this ⟨i, h9⟩ r u r' u' h1
theorem pc_inj {i : Nat} (h1 : 1 ≤ i) (h9 : i < 10) {r u r' u' : Bool} (h : pc i r u = pc i r' u') : r = r' ∧ (i % 3 = 0 → u = u') := by
  have : ∀ (i : Fin 10) (r u r' u' : Bool), 1 ≤ i.1 → pc i.1 r u = pc i.1 r' u' → r = r' ∧ (i.1 % 3 = 0 → u = u') := by decide +kernel
  exact this ⟨i, h9⟩ r u r' u' h1 h

/-- what goes at a place -/
noncomputable def goneF (a b : Int) (i : Nat) : Int := if i = 0 then 0 else Builtin.bitAnd (bv i (fch a i)) (Builtin.bitNot (bv i (fch b i)))
theorem goneF_vb (a b : Int) {i : Nat} (h1 : 1 ≤ i) (h9 : i < 10) : goneF a b i = vb i (tb a (9 - i) && !tb b (9 - i)) (tb a (12 - i / 3) && !tb b (12 - i / 3)) := by
  unfold goneF
  rw [if_neg (by omega), fch_pc a i h1 h9, fch_pc b i h1 h9, (bv_pc h1 h9 _ _).2, (bv_pc h1 h9 _ _).2, gone_vb h1 h9]
theorem goneF_same (a b : Int) {i : Nat} (h9 : i < 10) (h : fch a i = fch b i) : goneF a b i = 0 := by
  by_cases h0 : i = 0
  · unfold goneF; rw [if_pos h0]
  · have h1 : 1 ≤ i := by omega
    rw [goneF_vb a b h1 h9]
    rw [fch_pc a i h1 h9, fch_pc b i h1 h9] at h
    obtain ⟨e1, e2⟩ := pc_inj h1 h9 h
    unfold vb
    rw [e1]
    by_cases h3 : i % 3 = 0
    · rw [e2 h3]; simp
    · simp [h3]
theorem sum_filter (l : List Nat) (p : Nat → Bool) (f : Nat → Int) : ((l.filter p).map f).sum = (l.map fun x => if p x then f x else 0).sum := by
  induction l with
  | nil => rfl
  | cons x r ih =>
    rw [List.filter_cons]
    cases h : p x <;> simp [h, ih]
theorem goneM_sum (a b : Int) : goneM a b = ((List.range 10).map (goneF a b)).sum := by
  have hp : ∀ j, decide (a / 2 ^ j % 2 > b / 2 ^ j % 2) = (tb a j && !tb b j) := by
    intro j
    unfold tb
    have h1 : a / 2 ^ j % 2 = 0 ∨ a / 2 ^ j % 2 = 1 := by omega
    have h2 : b / 2 ^ j % 2 = 0 ∨ b / 2 ^ j % 2 = 1 := by omega
    rcases h1 with e1 | e1 <;> rcases h2 with e2 | e2 <;> rw [e1, e2] <;> decide
  unfold goneM goneL
  simp only [hp]
  rw [sum_filter]
  have e : ((List.range 10).map (goneF a b)).sum = ((List.range 10).map fun i => if i = 0 then 0 else vb i (tb a (9 - i) && !tb b (9 - i)) (tb a (12 - i / 3) && !tb b (12 - i / 3))).sum := by
    congr 1
    apply List.map_congr_left
    intro i hi
    rw [List.mem_range] at hi
    by_cases h0 : i = 0
    · subst h0; rfl
    · rw [if_neg h0, goneF_vb a b (by omega) hi]
  rw [e]
  clear hp e
  have key : ∀ g : Nat → Bool, ((List.range 12).map fun x => if g x then (2 : Int) ^ x else 0).sum = ((List.range 10).map fun i => if i = 0 then 0 else vb i (g (9 - i)) (g (12 - i / 3))).sum := fun g => by
    have hv : ∀ i, vb i (g (9 - i)) (g (12 - i / 3)) = (if g (9 - i) then (2 : Int) ^ (9 - i) else 0) + (if i % 3 = 0 then (if g (12 - i / 3) then (2 : Int) ^ (12 - i / 3) else 0) else 0) := fun i => by
      unfold vb
      by_cases h : i % 3 = 0
      · rw [if_pos h]
        congr 1
        cases g (12 - i / 3)
        · rw [if_neg (fun q => by cases q.2)]; rfl
        · rw [if_pos ⟨h, rfl⟩]; rfl
      · rw [if_neg h]; congr 1; exact if_neg (fun q => h q.1)
    simp only [hv]
    have lin : ∀ T : Nat → Int, T 0 + (T 1 + (T 2 + (T 3 + (T 4 + (T 5 + (T 6 + (T 7 + (T 8 + (T 9 + (T 10 + (T 11 + 0))))))))))) = (0 + (((T 8 + 0)) + (((T 7 + 0)) + (((T 6 + T 11)) + (((T 5 + 0)) + (((T 4 + 0)) + (((T 3 + T 10)) + (((T 2 + 0)) + (((T 1 + 0)) + (((T 0 + T 9)) + 0)))))))))) := fun T => by omega
    exact lin fun j => if g j then (2 : Int) ^ j else 0
  exact key fun j => tb a j && !tb b j

theorem low (x : Int) (j d : Nat) : x / 2 ^ j % 2 = x % 2 ^ (j + 1 + d) / 2 ^ j % 2 := by
  have e := Int.emod_add_mul_ediv x (2 ^ (j + 1 + d))
  have hj : (2 : Int) ^ j ≠ 0 := Int.ne_of_gt (Int.pow_pos (by decide))
  generalize hr : x % 2 ^ (j + 1 + d) = r at e ⊢
  rw [← e, Int.pow_add, Int.pow_succ, Int.mul_assoc, Int.mul_assoc, Int.add_mul_ediv_left _ _ hj, Int.add_mul_emod_self_left]
theorem half (x m : Int) (hm : 0 < m) : x % (m * 2) = x % m + m * (x / m % 2) := by
  have h1 := Int.emod_add_mul_ediv x m
  have h2 := Int.emod_add_mul_ediv (x / m) 2
  have h3 := Int.emod_nonneg x (Int.ne_of_gt hm)
  have h4 := Int.emod_lt_of_pos x hm
  have h5 := Int.emod_two_eq (x / m)
  generalize x / m % 2 = t at *
  refine ((Int.ediv_emod_unique (q := x / m / 2) (Int.mul_pos hm (by decide))).mpr ⟨?_, ?_, ?_⟩).2
  · rw [Int.mul_assoc, Int.add_assoc, ← Int.mul_add, h2, h1]
  · rcases h5 with rfl | rfl
    · rw [Int.mul_zero, Int.add_zero]; exact h3
    · rw [Int.mul_one]; exact Int.add_nonneg h3 (Int.le_of_lt hm)
  · rcases h5 with rfl | rfl <;> clear h1 h2 <;> omega
theorem tb_eq {a b : Int} {j : Nat} (h : tb a j = tb b j) : a / 2 ^ j % 2 = b / 2 ^ j % 2 := by
  unfold tb at h
  rcases Int.emod_two_eq (a / 2 ^ j) with e1 | e1 <;> rcases Int.emod_two_eq (b / 2 ^ j) with e2 | e2 <;> rw [e1, e2] at h ⊢ <;> cases h
theorem low_bits {a b : Int} : ∀ n, (∀ j, j < n → tb a j = tb b j) → a % 2 ^ n = b % 2 ^ n
  | 0, _ => by rw [Int.pow_zero, Int.emod_one, Int.emod_one]
  | n + 1, h => by
    rw [Int.pow_succ, half _ _ (Int.pow_pos (by decide)), half _ _ (Int.pow_pos (by decide)), low_bits n fun j hj => h j (Nat.lt_succ_of_lt hj), tb_eq (h n (Nat.lt_succ_self n))]
theorem low_of_bits {a b : Int} (h : ∀ j, j < 12 → tb a j = tb b j) : a % 4096 = b % 4096 := low_bits 12 h
theorem bits_of_low {a b : Int} (h : a % 4096 = b % 4096) : ∀ j, j < 12 → tb a j = tb b j := fun j hj => by
  have e : j + 1 + (11 - j) = 12 := by omega
  have h : a % 2 ^ 12 = b % 2 ^ 12 := h
  unfold tb
  rw [low a j (11 - j), low b j (11 - j), e, h]
theorem row_eq_iff {a b : Int} : row a = row b ↔ ∀ i, i < 10 → fch a i = fch b i := by
  unfold row
  constructor
  · intro h i hi
    have := congrArg (fun l => l[i]?) h
    simp only [List.getElem?_map, List.getElem?_range hi, Option.map_some] at this
    exact Option.some.inj this
  · intro h
    apply List.map_congr_left
    intro i hi
    exact h i (List.mem_range.mp hi)
theorem place_of {j : Nat} (hj : j < 12) : ∃ i, 1 ≤ i ∧ i < 10 ∧ (9 - i = j ∨ (i % 3 = 0 ∧ 12 - i / 3 = j)) := by
  have : ∀ j : Fin 12, ∃ i : Fin 10, 1 ≤ i.1 ∧ (9 - i.1 = j.1 ∨ (i.1 % 3 = 0 ∧ 12 - i.1 / 3 = j.1)) := by decide +kernel
  obtain ⟨i, h1, h⟩ := this ⟨j, hj⟩
  exact ⟨i.1, h1, i.2, h⟩
theorem place_lt {i : Nat} (h1 : 1 ≤ i) (hi : i < 10) (h3 : i % 3 = 0) : 12 - i / 3 < 12 := by
  have : ∀ i : Fin 10, 1 ≤ i.1 → i.1 % 3 = 0 → 12 - i.1 / 3 < 12 := by decide
  exact this ⟨i, hi⟩ h1 h3
theorem diff_row (a b : Int) : diffM a b = (row a != row b) := by
  unfold diffM
  rw [Bool.eq_iff_iff, bne_iff_ne, Ne, row_eq_iff, Bool.or_eq_true, bne_iff_ne, bne_iff_ne, ← fch_kind, ← fch_kind]
  constructor
  · intro h hr
    rcases h with h | h
    · exact h (hr 0 (by decide))
    · refine h (low_of_bits fun j hj => ?_)
      obtain ⟨i, h1, h9, hi⟩ := place_of hj
      have := hr i h9
      rw [fch_pc a _ h1 h9, fch_pc b _ h1 h9] at this
      have := pc_inj h1 h9 this
      rcases hi with rfl | ⟨h3, rfl⟩
      · exact this.1
      · exact this.2 h3
  · intro h
    refine Classical.byContradiction fun hc => h fun i hi => ?_
    simp only [not_or, Classical.not_not] at hc
    by_cases h0 : i = 0
    · subst h0; exact hc.1
    · have h1 : 1 ≤ i := Nat.pos_of_ne_zero h0
      have hb := bits_of_low hc.2
      rw [fch_pc a i h1 hi, fch_pc b i h1 hi, hb (9 - i) (Nat.lt_of_le_of_lt (Nat.sub_le 9 i) (by decide))]
      by_cases h3 : i % 3 = 0
      · rw [hb (12 - i / 3) (place_lt h1 hi h3)]
      · unfold pc; rw [if_pos h3, if_pos h3]
end Mine
end P4

section P5
open PySem PySem.W PyProof.Rows
open PySem.Builtin PySem.Builtin.Str
namespace Mine
/-- the text of a list of rows, c ahead -/
noncomputable def txtF : Nat → List (List Nat) → List Nat
  | _, [] => []
  | c, x :: r => c :: 39 :: (x ++ 39 :: (if r.isEmpty then 93 else 44) :: txtF 32 r)
noncomputable def alph : List Nat := [45, 63, 98, 99, 100, 108, 112, 114, 115, 116, 119, 120, 83, 84]
theorem row_alph (x : Int) : ∀ c ∈ row x, c ∈ alph := by
  intro c hc
  unfold row at hc
  obtain ⟨i, hi, rfl⟩ := List.mem_map.mp hc
  rw [List.mem_range] at hi
  by_cases h0 : i = 0
  · subst h0
    rw [fch_kind]
    have : ∀ n : Fin 16, signsL.getD n.1 0 ∈ alph := by decide
    exact this ⟨(x / 4096 % 16).toNat, by omega⟩
  · rw [fch_pc x i (by omega) hi]
    have : ∀ (i : Fin 10) (r u : Bool), 1 ≤ i.1 → pc i.1 r u ∈ alph := by decide +kernel
    exact this ⟨i, hi⟩ _ _ (Nat.pos_of_ne_zero h0)
theorem alph_repr : ∀ c ∈ alph, reprChar 39 c = [c] := by decide +kernel
theorem alph_low : ∀ c ∈ alph, c < 128 ∧ c ≠ 104 ∧ c ≠ 39 := by decide
theorem foldl_repr (l : List Nat) (h : ∀ c ∈ l, c ∈ alph) : ∀ acc : Array Nat, l.foldl (fun out c => out ++ (reprChar 39 c).toArray) acc = acc ++ l.toArray := by
  induction l with
  | nil => intro acc; simp
  | cons c r ih =>
    intro acc
    rw [List.foldl_cons, alph_repr c (h c (List.mem_cons_self ..)), ih fun d hd => h d (List.mem_cons_of_mem _ hd)]
    simp
theorem repr_row (l : List Nat) (h : ∀ c ∈ l, c ∈ alph) : reprText (S l) = S (39 :: (l ++ [39])) := by
  have hq : reprQuote (S l) = 39 := by
    unfold reprQuote
    have : (S l).cps.contains 39 = false := by
      rw [Bool.eq_false_iff]
      intro hc
      have : 39 ∈ l := by simpa using hc
      exact (alph_low _ (h _ this)).2.2 rfl
    rw [this]; rfl
  unfold reprText
  rw [hq]
  have := foldl_repr l h #[39]
  rw [← Array.foldl_toList]
  show (⟨(l.foldl (fun out c => out ++ (reprChar 39 c).toArray) #[39]).push 39⟩ : Str) = _
  rw [this]
  congr 1
  simp
theorem join_txt : ∀ (x : List Nat) (r : List (List Nat)) (c : Nat), S [c] ++ Str.join ", " ((x :: r).map fun l => S (39 :: (l ++ [39]))) ++ S [93] = S (txtF c (x :: r))
  | x, [], c => by
    show S [c] ++ S (39 :: (x ++ [39])) ++ S [93] = _
    rw [S_app, S_app]
    congr 1
    simp [txtF]
  | x, y :: r, c => by
    have ih := join_txt y r 32
    have ec : Str.ofString ", " = S [44, 32] := by decide +kernel
    have e : Str.join ", " ((x :: y :: r).map fun l => S (39 :: (l ++ [39]))) = S (39 :: (x ++ [39])) ++ Str.ofString ", " ++ Str.join ", " ((y :: r).map fun l => S (39 :: (l ++ [39]))) := rfl
    rw [e]
    generalize Str.join ", " ((y :: r).map fun l => S (39 :: (l ++ [39]))) = J at ih
    have e2 : Str.ofString ", " = S [44] ++ S [32] := by rw [ec, S_app]; rfl
    rw [e2]
    simp only [Str.append_assoc] at ih ⊢
    rw [ih, S_app, S_app, S_app]
    congr 1
    simp [txtF]
theorem shown_txt (xs : List Int) (hne : xs ≠ []) : (PyData.list ((xs.map fun x => S (row x)).map PyData.str)).shown = S (txtF 91 (xs.map row)) := by
  have hall : ∀ ys : List Int, PyData.shownAll ((ys.map fun x => S (row x)).map PyData.str) = (ys.map row).map fun l => S (39 :: (l ++ [39])) := by
    intro ys
    induction ys with
    | nil => simp [PyData.shownAll]
    | cons y ys ih =>
      simp only [List.map_cons]
      rw [PyData.shownAll_cons, PyData.shown_str, repr_row _ (row_alph y), ih]
  show PyData.shown _ = _
  unfold PyData.shown
  rw [listText_eq_join, hall]
  have e1 : Str.ofString "[" = S [91] := by decide +kernel
  have e2 : Str.ofString "]" = S [93] := by decide +kernel
  rw [e1, e2]
  cases xs with
  | nil => exact absurd rfl hne
  | cons x r => exact join_txt (row x) (r.map row) 91
theorem txt_alph (R : List (List Nat)) : ∀ (c : Nat), (∀ r ∈ R, ∀ d ∈ r, d ∈ alph) → c < 128 → c ≠ 104 → ∀ d ∈ txtF c R, d < 128 ∧ d ≠ 104 := by
  induction R with
  | nil => intro c _ _ _ d hd; cases hd
  | cons x r ih =>
    intro c h h1 h2 d hd
    unfold txtF at hd
    rcases List.mem_cons.mp hd with rfl | hd
    · exact ⟨h1, h2⟩
    rcases List.mem_cons.mp hd with rfl | hd
    · decide
    rcases List.mem_append.mp hd with hd | hd
    · have := alph_low d (h x (List.mem_cons_self ..) d hd)
      exact ⟨this.1, this.2.1⟩
    rcases List.mem_cons.mp hd with rfl | hd
    · decide
    rcases List.mem_cons.mp hd with rfl | hd
    · split <;> decide
    · exact ih 32 (fun y hy => h y (List.mem_cons_of_mem _ hy)) (by decide) (by decide) d hd
theorem txt_len (R : List (List Nat)) : ∀ (c : Nat), (∀ r ∈ R, r.length = 10) → (txtF c R).length = 14 * R.length := by
  induction R with
  | nil => intro c _; rfl
  | cons x r ih =>
    intro c h
    have hx := h x (List.mem_cons_self ..)
    have ih := ih 32 fun y hy => h y (List.mem_cons_of_mem _ hy)
    unfold txtF
    rw [List.length_cons, List.length_cons, List.length_append, List.length_cons, List.length_cons, List.length_cons, ih, hx]
    clear ih hx h
    omega
/-- the sign at a place of a row -/
theorem txt_at (R : List (List Nat)) : ∀ (c k i : Nat) (x : List Nat), (∀ r ∈ R, r.length = 10) → R[k]? = some x → i < 10 → (txtF c R)[14 * k + 2 + i]? = x[i]? := by
  induction R with
  | nil => intro c k i x _ h _; cases h
  | cons y r ih =>
    intro c k i x hl h hi
    have hx := hl y (List.mem_cons_self ..)
    unfold txtF
    cases k with
    | zero =>
      cases h
      rw [show 14 * 0 + 2 + i = i + 1 + 1 from Nat.add_comm 2 i, List.getElem?_cons_succ, List.getElem?_cons_succ, List.getElem?_append_left (hx.symm ▸ hi)]
    | succ k =>
      have ih := ih 32 k i x (fun z hz => hl z (List.mem_cons_of_mem _ hz)) h hi
      rw [show 14 * (k + 1) + 2 + i = (14 * k + 2 + i + 2 + 10) + 1 + 1 by omega, List.getElem?_cons_succ, List.getElem?_cons_succ, List.getElem?_append_right (by rw [hx]; exact Nat.le_add_left _ _), hx, show 14 * k + 2 + i + 12 - 10 = (14 * k + 2 + i) + 1 + 1 from Nat.add_sub_cancel (n := 14 * k + 2 + i + 2) (m := 10), List.getElem?_cons_succ, List.getElem?_cons_succ, ih]

theorem cp_app : ∀ (l a b : List Nat), cp (l ++ a) (l ++ b) = l ++ cp a b
  | [], a, b => rfl
  | x :: l, a, b => by
    have : cp (x :: (l ++ a)) (x :: (l ++ b)) = x :: cp (l ++ a) (l ++ b) := by rw [cp, if_pos rfl]
    show cp (x :: (l ++ a)) (x :: (l ++ b)) = x :: (l ++ cp a b)
    rw [this, cp_app l a b]
theorem cp_blk (c u : Nat) (r z w : List Nat) : (cp (c :: 39 :: (r ++ 39 :: u :: z)) (c :: 39 :: (r ++ 39 :: u :: w))).length = r.length + 4 + (cp z w).length := by
  have := cp_app ([c, 39] ++ r ++ [39, u]) z w
  have e : ∀ z : List Nat, ([c, 39] ++ r ++ [39, u]) ++ z = c :: 39 :: (r ++ 39 :: u :: z) := fun z => by simp
  rw [e, e] at this
  rw [this]; simp; omega
theorem cp_blk1 (c : Nat) (r z w : List Nat) : r.length + 3 ≤ (cp (c :: 39 :: (r ++ 39 :: z)) (c :: 39 :: (r ++ 39 :: w))).length := by
  have := cp_app ([c, 39] ++ r ++ [39]) z w
  have e : ∀ z : List Nat, ([c, 39] ++ r ++ [39]) ++ z = c :: 39 :: (r ++ 39 :: z) := fun z => by simp
  rw [e, e] at this
  rw [this]; simp
theorem cp_two (c : Nat) (z w : List Nat) : (cp (c :: 39 :: z) (c :: 39 :: w)).length = 2 + (cp z w).length := by
  have := cp_app [c, 39] z w
  rw [show c :: 39 :: z = [c, 39] ++ z from rfl, show c :: 39 :: w = [c, 39] ++ w from rfl, this]; simp; omega
theorem cp_neq : ∀ (x y u v : List Nat), x.length = y.length → x ≠ y → (cp (x ++ u) (y ++ v)).length < x.length
  | [], [], u, v, _, h => absurd rfl h
  | [], _ :: _, u, v, h, _ => by simp at h
  | _ :: _, [], u, v, h, _ => by simp at h
  | c :: x, d :: y, u, v, hl, hne => by
    show (cp (c :: (x ++ u)) (d :: (y ++ v))).length < _
    unfold cp
    by_cases h : c = d
    · subst h
      rw [if_pos rfl]
      have := cp_neq x y u v (by simpa using hl) (fun e => hne (by rw [e]))
      simp; omega
    · rw [if_neg h]; simp
theorem cp_some (R : List (List Nat)) : ∀ (T : List (List Nat)) (c k : Nat) (x y : List Nat), (∀ r ∈ R, r.length = 10) → (∀ r ∈ T, r.length = 10) → (∀ j, j < k → R[j]? = T[j]?) → R[k]? = some x → T[k]? = some y → x ≠ y →
    14 * k + 2 ≤ (cp (txtF c R) (txtF c T)).length ∧ (cp (txtF c R) (txtF c T)).length < 14 * k + 12 := by
  induction R with
  | nil => intro T c k x y _ _ _ h _ _; cases h
  | cons r R ih =>
    intro T c k x y hR hT hall h1 h2 hne
    have l1 := hR r (List.mem_cons_self ..)
    cases T with
    | nil => cases h2
    | cons t T =>
      cases k with
      | zero =>
        have hx : r = x := Option.some.inj h1
        have hy : t = y := Option.some.inj h2
        subst hx
        subst hy
        have l2 := hT t (List.mem_cons_self ..)
        unfold txtF
        have := cp_neq r t (39 :: (if R.isEmpty then 93 else 44) :: txtF 32 R) (39 :: (if T.isEmpty then 93 else 44) :: txtF 32 T) (l1.trans l2.symm) hne
        rw [cp_two]
        rw [l1] at this
        exact ⟨Nat.le_add_right _ _, Nat.add_lt_add_left this 2⟩
      | succ k =>
        have e : r = t := Option.some.inj (hall 0 (Nat.succ_pos k))
        subst e
        have ih := ih T 32 k x y (fun z hz => hR z (List.mem_cons_of_mem _ hz)) (fun z hz => hT z (List.mem_cons_of_mem _ hz)) (fun j hj => hall (j + 1) (Nat.succ_lt_succ hj)) h1 h2 hne
        have n1 : R.isEmpty = false := by cases R with | nil => cases h1 | cons => rfl
        have n2 : T.isEmpty = false := by cases T with | nil => cases h2 | cons => rfl
        unfold txtF
        rw [n1, n2, cp_blk, l1]
        clear hall
        omega
theorem cp_none (R : List (List Nat)) : ∀ (T : List (List Nat)) (c : Nat), (∀ r ∈ R, r.length = 10) → (∀ r ∈ T, r.length = 10) → (∀ j, j < min R.length T.length → R[j]? = T[j]?) →
    14 * min R.length T.length ≤ (cp (txtF c R) (txtF c T)).length + 2 := by
  induction R with
  | nil => intro T c _ _ _; rw [List.length_nil, Nat.zero_min]; exact Nat.zero_le _
  | cons r R ih =>
    intro T c hR hT hall
    cases T with
    | nil => rw [List.length_nil, Nat.min_zero]; exact Nat.zero_le _
    | cons t T =>
      have em : min (r :: R).length (t :: T).length = min R.length T.length + 1 := Nat.succ_min_succ ..
      rw [em] at hall ⊢
      have e : r = t := Option.some.inj (hall 0 (Nat.succ_pos _))
      subst e
      have l1 := hR r (List.mem_cons_self ..)
      have ih := ih T 32 (fun z hz => hR z (List.mem_cons_of_mem _ hz)) (fun z hz => hT z (List.mem_cons_of_mem _ hz)) (fun j hj => hall (j + 1) (Nat.succ_lt_succ hj))
      unfold txtF
      clear em hall hR hT
      generalize hm : min R.length T.length = m at *
      by_cases h : R.isEmpty = T.isEmpty
      · rw [h, cp_blk, l1]; clear hm h; omega
      · have hm : m = 0 := by
          rw [← hm]
          cases R with
          | nil => exact Nat.zero_min _
          | cons => cases T with | nil => exact Nat.min_zero _ | cons => exact absurd rfl h
        have := cp_blk1 c r ((if R.isEmpty then 93 else 44) :: txtF 32 R) ((if T.isEmpty then 93 else 44) :: txtF 32 T)
        rw [l1] at this
        rw [hm]; exact Nat.le_trans (Nat.le_succ 14) (Nat.add_le_add_right this 2)
end Mine
end P5

section P6
open PySem PySem.W PyProof.Rows
namespace Mine
/-- T spreads to o -/
def Spr (T o : List Nat) : Prop := ∃ segs last, T = body (segs.map piece) last ∧ (∀ s ∈ segs, 104 ∉ s.1 ∧ s.2 < 1000) ∧ 104 ∉ last ∧ o = spr segs last
theorem Spr.plain {l : List Nat} (h : 104 ∉ l) : Spr l l := ⟨[], l, rfl, (fun _ h => by cases h), h, rfl⟩
theorem body_app : ∀ (ps qs : List (List Nat)) (a b : List Nat) (q : List Nat), body ps a ++ body (q :: qs) b = body (ps ++ (a ++ q) :: qs) b
  | [], qs, a, b, q => by simp [body]
  | p :: ps, qs, a, b, q => by
    have := body_app ps qs a b q
    simp only [body, List.cons_append, List.append_assoc] at this ⊢
    rw [this]
theorem body_app0 : ∀ (ps : List (List Nat)) (a b : List Nat), body ps a ++ b = body ps (a ++ b)
  | [], a, b => rfl
  | p :: ps, a, b => by simp only [body, List.append_assoc, body_app0 ps a b]
theorem spr_app : ∀ (ss : List (List Nat × Nat)) (a : List Nat) (h : List Nat) (n : Nat) (r : List (List Nat × Nat)) (b : List Nat), spr ss a ++ spr ((h, n) :: r) b = spr (ss ++ (a ++ h, n) :: r) b
  | [], a, h, n, r, b => by simp [spr]
  | s :: ss, a, h, n, r, b => by
    have := spr_app ss a h n r b
    simp only [spr, List.cons_append, List.append_assoc] at this ⊢
    rw [this]
theorem spr_app0 : ∀ (ss : List (List Nat × Nat)) (a b : List Nat), spr ss a ++ b = spr ss (a ++ b)
  | [], a, b => rfl
  | s :: ss, a, b => by simp only [spr, List.append_assoc, spr_app0 ss a b]
theorem Spr.append {T1 T2 o1 o2 : List Nat} (h1 : Spr T1 o1) (h2 : Spr T2 o2) : Spr (T1 ++ T2) (o1 ++ o2) := by
  obtain ⟨s1, l1, rfl, a1, b1, rfl⟩ := h1
  obtain ⟨s2, l2, rfl, a2, b2, rfl⟩ := h2
  cases s2 with
  | nil =>
    refine ⟨s1, l1 ++ l2, ?_, a1, ?_, ?_⟩
    · exact body_app0 _ _ _
    · simp [b1, b2]
    · exact spr_app0 _ _ _
  | cons s r =>
    obtain ⟨h, n⟩ := s
    refine ⟨s1 ++ (l1 ++ h, n) :: r, l2, ?_, ?_, b2, spr_app _ _ _ _ _ _⟩
    · rw [List.map_cons, body_app, List.map_append, List.map_cons]
      simp [piece]
    · intro s hs
      rcases List.mem_append.mp hs with q | q
      · exact a1 s q
      · rcases List.mem_cons.mp q with rfl | q
        · have := a2 (h, n) (List.mem_cons_self ..)
          exact ⟨by simp [b1, this.1], this.2⟩
        · exact a2 s (List.mem_cons_of_mem _ q)
noncomputable def mask (l : List Nat) (p s : Nat) : List Nat := if p + s + 12 < l.length then l.take p ++ List.replicate (l.length - p - s) 42 ++ l.drop (l.length - s) else l
theorem mask_len (l : List Nat) (p s : Nat) : (mask l p s).length = l.length := by
  unfold mask
  split
  · simp only [List.length_append, List.length_take, List.length_replicate, List.length_drop]; omega
  · rfl
theorem Spr.short {l : List Nat} {p s : Nat} (h : 104 ∉ l) (hl : l.length < 1000) : Spr (shorten l p s) (mask l p s) := by
  unfold shorten mask
  split
  · refine ⟨[(l.take p, l.length - p - s)], l.drop (l.length - s), ?_, ?_, fun hm => h (List.mem_of_mem_drop hm), ?_⟩
    · simp [body, piece]
    · intro s' hs
      simp only [List.mem_cons, List.not_mem_nil, or_false] at hs
      subst hs
      exact ⟨fun hm => h (List.mem_of_mem_take hm), by show l.length - p - s < 1000; omega⟩
    · simp [spr]
  · exact Spr.plain h
theorem seg_len : ∀ (ps : List (List Nat)) (last : List Nat), ∀ p ∈ ps, p.length ≤ (body ps last).length
  | [], _, p, h => by cases h
  | q :: ps, last, p, h => by
    unfold body
    simp only [List.length_append]
    rcases List.mem_cons.mp h with rfl | h
    · omega
    · have := seg_len ps last p h; omega
theorem Spr.fn {w : World} {q : Bool} {T o : List Nat} (h : Spr T o) (hT : T.length ≤ 1000) (ho : o.length ≤ 100000) : Fn (XX w q) 1 123 [Sd T] (Sd o) := by
  obtain ⟨segs, last, e, h1, h2, rfl⟩ := h
  refine fn_spread segs last T e (fun s hs => ⟨(h1 s hs).1, (h1 s hs).2, ?_⟩) h2 hT ho
  have := seg_len (segs.map piece) last (piece s) (List.mem_map_of_mem hs)
  rw [← e] at this
  unfold piece at this
  simp only [List.length_append] at this
  omega

/-- what told1 spreads to -/
noncomputable def sp1 (a b x : List Nat) : List Nat :=
  if max a.length b.length ≤ 80 then x else
  if max a.length b.length < 58 + (cp a b).length then mask (cp a b) 5 (63 + (cp a b).length - max a.length b.length) ++ x.drop (cp a b).length
  else mask (cp a b) 5 5 ++ mask (x.drop (cp a b).length) 41 5
theorem cp_mem {a b : List Nat} {c : Nat} (h : c ∈ cp a b) : c ∈ a := by rw [cp_take] at h; exact List.mem_of_mem_take h
theorem told_spr {a b x : List Nat} (ha : 104 ∉ a) (hx : 104 ∉ x) (la : a.length ≤ 140) (lx : x.length ≤ 140) : Spr (told1 a b x) (sp1 a b x) := by
  have hp : 104 ∉ cp a b := fun h => ha (cp_mem h)
  have hl := cp_len_le a b
  have hd : 104 ∉ x.drop (cp a b).length := fun h => hx (List.mem_of_mem_drop h)
  unfold told1 sp1
  split
  · exact .plain hx
  · split
    · exact (Spr.short hp (by omega)).append (.plain hd)
    · exact (Spr.short hp (by omega)).append (Spr.short hd (by simp only [List.length_drop]; omega))
theorem sp1_len {a b x : List Nat} (hx : (cp a b).length ≤ x.length) : (sp1 a b x).length = x.length := by
  unfold sp1
  split
  · rfl
  · split
    · rw [List.length_append, mask_len, List.length_drop]; omega
    · rw [List.length_append, mask_len, mask_len, List.length_drop]; omega
theorem mask_front {l : List Nat} {p s i : Nat} (h : i < p) : (mask l p s)[i]? = l[i]? := by
  unfold mask
  split
  · rw [List.append_assoc, List.getElem?_append_left (by rw [List.length_take]; omega), List.getElem?_take_of_lt h]
  · rfl
theorem cp_take2 (a b : List Nat) : cp a b = b.take (cp a b).length := by
  have := cp_take b a
  rw [cp_comm b a] at this; exact this
theorem cp_same {a b : List Nat} {p : Nat} (h : p < (cp a b).length) : a[p]? = b[p]? := by
  have e1 := congrArg (fun l => l[p]?) (cp_take a b)
  have e2 := congrArg (fun l => l[p]?) (cp_take2 a b)
  simp only [List.getElem?_take_of_lt h] at e1 e2
  rw [← e1, ← e2]
/-- ahead of the parting both spread alike -/
theorem sp1_same {a b : List Nat} {p : Nat} (h : p < (cp a b).length) : (sp1 a b a)[p]? = (sp1 a b b)[p]? := by
  unfold sp1
  split
  · exact cp_same h
  · split
    · rw [List.getElem?_append_left (by rw [mask_len]; exact h), List.getElem?_append_left (by rw [mask_len]; exact h)]
    · rw [List.getElem?_append_left (by rw [mask_len]; exact h), List.getElem?_append_left (by rw [mask_len]; exact h)]
/-- behind it 41 signs stand as they are -/
theorem sp1_here {a b x : List Nat} {p : Nat} (hx : cp a b = x.take (cp a b).length) (h1 : (cp a b).length ≤ p) (h2 : p < (cp a b).length + 41) : (sp1 a b x)[p]? = x[p]? := by
  unfold sp1
  split
  · rfl
  · split
    · rw [List.getElem?_append_right (by rw [mask_len]; exact h1), mask_len, List.getElem?_drop]
      congr 1; omega
    · rw [List.getElem?_append_right (by rw [mask_len]; exact h1), mask_len, mask_front (by omega), List.getElem?_drop]
      congr 1; omega
theorem told_len {a b x : List Nat} (hx : (cp a b).length ≤ x.length) (hm : x.length ≤ max a.length b.length) (h140 : max a.length b.length ≤ 140) : (told1 a b x).length ≤ 80 := by
  unfold told1
  generalize max a.length b.length = m at *
  split
  · rename_i h; exact Nat.le_trans hm h
  · have h1 : ∀ s, (shorten (cp a b) 5 s).length ≤ 5 + s + 12 := fun s => shorten_len (Nat.le_trans hx (Nat.le_trans hm (Nat.le_trans h140 (by decide))))
    split
    · rename_i h0 h
      have := h1 (63 + (cp a b).length - m)
      rw [List.length_append, List.length_drop]; omega
    · rw [List.length_append]
      exact Nat.add_le_add (h1 5) (shorten_len (p := 41) (s := 5) (by rw [List.length_drop]; exact Nat.le_trans (Nat.sub_le _ _) (Nat.le_trans hm (Nat.le_trans h140 (by decide)))))
end Mine
end P6

section P7
open PySem PySem.W PyProof.Rows
namespace Mine
noncomputable abbrev txt (as : List Int) : List Nat := txtF 91 (as.map row)
theorem txt_length (as : List Int) : (txt as).length = 14 * as.length := by
  rw [txt_len _ _ (by intro r hr; obtain ⟨x, _, rfl⟩ := List.mem_map.mp hr; exact row_length x), List.length_map]
theorem txt_low (as : List Int) : ∀ d ∈ txt as, d < 128 ∧ d ≠ 104 :=
  txt_alph _ _ (by intro r hr d hd; obtain ⟨x, _, rfl⟩ := List.mem_map.mp hr; exact row_alph x d hd) (by decide) (by decide)
theorem txt_row {as : List Int} {k i : Nat} (hk : k < as.length) (hi : i < 10) : (txt as)[14 * k + 2 + i]? = some (fch (as.getD k 0) i) := by
  have := txt_at (as.map row) 91 k i (row (as.getD k 0)) (by intro r hr; obtain ⟨x, _, rfl⟩ := List.mem_map.mp hr; exact row_length x) (by
    rw [List.getElem?_map, List.getD_eq_getElem?_getD, List.getElem?_eq_getElem hk]; rfl) hi
  rw [this, row_get hi]
theorem rows_at {as : List Int} {k : Nat} (hk : k < as.length) : (as.map row)[k]? = some (row (as.getD k 0)) := by
  rw [List.getElem?_map, List.getD_eq_getElem?_getD, List.getElem?_eq_getElem hk]; rfl

section
variable {as bs : List Int}
/-- the two readings -/
noncomputable abbrev oo (as bs : List Int) : List Nat := sp1 (txt as) (txt bs) (txt as)
noncomputable abbrev nn (as bs : List Int) : List Nat := sp1 (txt as) (txt bs) (txt bs)
theorem oo_len : (oo as bs).length = 14 * as.length := by rw [sp1_len (cp_len_le _ _), txt_length]
theorem nn_len : (nn as bs).length = 14 * bs.length := by rw [sp1_len (by rw [cp_comm]; exact cp_len_le _ _), txt_length]

theorem same_before {k : Nat} (h : ∀ j, j < k → j < min as.length bs.length → diffM (as.getD j 0) (bs.getD j 0) = false) (hk : k ≤ min as.length bs.length) : ∀ j, j < k → (as.map row)[j]? = (bs.map row)[j]? := fun j hj => by
  rw [rows_at (by omega), rows_at (by omega)]
  have := h j hj (by omega)
  rw [diff_row] at this
  have : row (as.getD j 0) = row (bs.getD j 0) := by simpa using this
  rw [this]
theorem slice_eq {o n : List Nat} {p : Nat} (h : ∀ i, i < 10 → o[p + i]? = n[p + i]?) : (o.drop p).take 10 = (n.drop p).take 10 := by
  apply List.ext_getElem?
  intro i
  by_cases hi : i < 10
  · rw [List.getElem?_take_of_lt hi, List.getElem?_take_of_lt hi, List.getElem?_drop, List.getElem?_drop, h i hi]
  · rw [List.getElem?_eq_none (by rw [List.length_take]; omega), List.getElem?_eq_none (by rw [List.length_take]; omega)]
theorem slice_ne {o n : List Nat} {p i : Nat} (hi : i < 10) (h : (o.drop p).take 10 = (n.drop p).take 10) : o[p + i]? = n[p + i]? := by
  have := congrArg (fun l => l[i]?) h
  simp only [List.getElem?_take_of_lt hi, List.getElem?_drop] at this
  exact this
theorem rows10 (l : List Int) : ∀ r ∈ l.map row, r.length = 10 := by
  intro r hr; obtain ⟨x, _, rfl⟩ := List.mem_map.mp hr; exact row_length x

theorem dif_before {j : Nat} (h : 14 * j + 12 ≤ (cp (txt as) (txt bs)).length) : dif (oo as bs) (nn as bs) j = false := by
  unfold dif
  rw [bne_eq_false_iff_eq]
  exact slice_eq fun i hi => sp1_same (by omega)

/-- at the parting row -/
theorem at_row {k : Nat} (hf : firstM as bs = some k) : k < min as.length bs.length ∧ 14 * k + 2 ≤ (cp (txt as) (txt bs)).length ∧
    (∀ i, i < 10 → (fch (as.getD k 0) i = fch (bs.getD k 0) i → ch (oo as bs) k i = ch (nn as bs) k i) ∧ (fch (as.getD k 0) i ≠ fch (bs.getD k 0) i → ch (oo as bs) k i = fch (as.getD k 0) i ∧ ch (nn as bs) k i = fch (bs.getD k 0) i)) := by
  unfold firstM at hf
  rw [List.find?_range_eq_some, List.mem_range] at hf
  obtain ⟨hd, hk, hno⟩ := hf
  have hsb := same_before (as := as) (bs := bs) (k := k) (fun j hj _ => by simpa using hno j hj) (by omega)
  have hne : row (as.getD k 0) ≠ row (bs.getD k 0) := by rw [diff_row] at hd; simpa using hd
  obtain ⟨c1, c2⟩ := cp_some (as.map row) (bs.map row) 91 k _ _ (rows10 as) (rows10 bs) hsb (rows_at (by omega)) (rows_at (by omega)) hne
  have c1 : 14 * k + 2 ≤ (cp (txt as) (txt bs)).length := c1
  have c2 : (cp (txt as) (txt bs)).length < 14 * k + 12 := c2
  refine ⟨hk, c1, fun i hi => ?_⟩
  have ra := txt_row (as := as) (k := k) (i := i) (by omega) hi
  have rb := txt_row (as := bs) (k := k) (i := i) (by omega) hi
  have hoo : ∀ x, (oo as bs)[14 * k + 2 + i]? = some x → ch (oo as bs) k i = x := fun x h => by
    unfold ch; rw [List.getD_eq_getElem?_getD, h]; rfl
  have hnn : ∀ x, (nn as bs)[14 * k + 2 + i]? = some x → ch (nn as bs) k i = x := fun x h => by
    unfold ch; rw [List.getD_eq_getElem?_getD, h]; rfl
  by_cases hp : 14 * k + 2 + i < (cp (txt as) (txt bs)).length
  · have e1 := cp_same hp
    rw [ra, rb] at e1
    have e2 := sp1_same hp
    refine ⟨fun _ => ?_, fun h => absurd (Option.some.inj e1) h⟩
    unfold ch
    rw [List.getD_eq_getElem?_getD, List.getD_eq_getElem?_getD, e2]
  · have ho := sp1_here (a := txt as) (b := txt bs) (x := txt as) (p := 14 * k + 2 + i) (cp_take _ _) (by omega) (by omega)
    have hn := sp1_here (a := txt as) (b := txt bs) (x := txt bs) (p := 14 * k + 2 + i) (cp_take2 _ _) (by omega) (by omega)
    rw [ra] at ho
    rw [rb] at hn
    exact ⟨fun h => by rw [hoo _ ho, hnn _ hn, h], fun _ => ⟨hoo _ ho, hnn _ hn⟩⟩

theorem first_due : first (oo as bs) (nn as bs) = firstM as bs := by
  have hm : min (oo as bs).length (nn as bs).length / 14 = min as.length bs.length := by rw [oo_len, nn_len]; omega
  cases hf : firstM as bs with
  | none =>
    unfold first
    rw [hm, List.find?_eq_none]
    intro j hj
    rw [List.mem_range] at hj
    unfold firstM at hf
    rw [List.find?_eq_none] at hf
    have hsb := same_before (as := as) (bs := bs) (k := min as.length bs.length) (fun j hj _ => by simpa using hf j (List.mem_range.mpr hj)) (Nat.le_refl _)
    have hc := cp_none (as.map row) (bs.map row) 91 (rows10 as) (rows10 bs) (by rw [List.length_map, List.length_map]; exact hsb)
    rw [List.length_map, List.length_map] at hc
    rw [dif_before (by show _ ≤ (cp (txtF 91 (as.map row)) (txtF 91 (bs.map row))).length; omega)]
    decide
  | some k =>
    obtain ⟨hk, hc, hat⟩ := at_row hf
    unfold first
    rw [hm, List.find?_range_eq_some, List.mem_range]
    have hf' := hf
    unfold firstM at hf'
    rw [List.find?_range_eq_some] at hf'
    refine ⟨?_, hk, fun j hj => by rw [dif_before (by omega)]; rfl⟩
    unfold dif
    rw [bne_iff_ne]
    intro he
    have hd := hf'.1
    rw [diff_row, bne_iff_ne] at hd
    refine hd (row_eq_iff.mpr fun i hi => ?_)
    refine Classical.byContradiction fun hne => ?_
    obtain ⟨e1, e2⟩ := (hat i hi).2 hne
    have e3 := slice_ne hi he
    refine hne ?_
    rw [← e1, ← e2]
    unfold ch
    rw [List.getD_eq_getElem?_getD, List.getD_eq_getElem?_getD, e3]

theorem unl_mem {k : Nat} (hf : firstM as bs = some k) {i : Nat} : i ∈ unl (oo as bs) (nn as bs) k ↔ i < 10 ∧ fch (as.getD k 0) i ≠ fch (bs.getD k 0) i := by
  obtain ⟨hk, hc, hat⟩ := at_row hf
  unfold unl
  rw [List.mem_filter, List.mem_range, bne_iff_ne]
  constructor
  · rintro ⟨hi, hne⟩
    exact ⟨hi, fun e => hne ((hat i hi).1 e)⟩
  · rintro ⟨hi, hne⟩
    refine ⟨hi, ?_⟩
    obtain ⟨e1, e2⟩ := (hat i hi).2 hne
    rw [e1, e2]; exact hne

theorem sum_gone {k : Nat} (hf : firstM as bs = some k) : ((unl (oo as bs) (nn as bs) k).map (goneAt (oo as bs) (nn as bs) k)).sum = goneM (as.getD k 0) (bs.getD k 0) ∧
    ((unl (oo as bs) (nn as bs) k).map (goneAt (nn as bs) (oo as bs) k)).sum = goneM (bs.getD k 0) (as.getD k 0) := by
  obtain ⟨hk, hc, hat⟩ := at_row hf
  have hsame : ∀ i, i < 10 → (ch (oo as bs) k i != ch (nn as bs) k i) = (fch (as.getD k 0) i != fch (bs.getD k 0) i) := fun i hi => by
    by_cases h : fch (as.getD k 0) i = fch (bs.getD k 0) i
    · have h1 := (hat i hi).1 h
      rw [h1, h]; simp
    · obtain ⟨e1, e2⟩ := (hat i hi).2 h
      rw [e1, e2]
  rw [goneM_sum, goneM_sum]
  unfold unl
  rw [sum_filter, sum_filter]
  constructor <;> congr 1 <;> apply List.map_congr_left <;> intro i hi <;> rw [List.mem_range] at hi <;> rw [hsame i hi]
  · by_cases h : fch (as.getD k 0) i = fch (bs.getD k 0) i
    · rw [goneF_same _ _ hi h, h]; simp
    · obtain ⟨e1, e2⟩ := (hat i hi).2 h
      rw [if_pos (bne_iff_ne.mpr h)]
      unfold goneAt goneF
      rw [e1, e2]
  · by_cases h : fch (as.getD k 0) i = fch (bs.getD k 0) i
    · rw [goneF_same _ _ hi h.symm, h]; simp
    · obtain ⟨e1, e2⟩ := (hat i hi).2 h
      rw [if_pos (bne_iff_ne.mpr h)]
      unfold goneAt goneF
      rw [e1, e2]

/-- the plain law -/
theorem read_due : readP (oo as bs) (nn as bs) = dueP as bs := by
  unfold readP dueP
  rw [first_due, oo_len, nn_len]
  congr 1
  cases hf : firstM as bs with
  | none => rfl
  | some k =>
    obtain ⟨hk, hc, hat⟩ := at_row hf
    obtain ⟨g1, g2⟩ := sum_gone hf
    have hkinds : kindsOf (oo as bs) (nn as bs) k (unl (oo as bs) (nn as bs) k) = if kindN (as.getD k 0) != kindN (bs.getD k 0) then [kindN (as.getD k 0), kindN (bs.getD k 0)] else [] := by
      unfold kindsOf
      by_cases h : fch (as.getD k 0) 0 = fch (bs.getD k 0) 0
      · rw [if_neg (fun hm => ((unl_mem hf).mp hm).2 h), ← fch_kind, ← fch_kind, if_neg (by simp only [bne_iff_ne, ne_eq, Classical.not_not]; exact h)]
      · obtain ⟨e1, e2⟩ := (hat 0 (by decide)).2 h
        rw [if_pos ((unl_mem hf).mpr ⟨by decide, h⟩), ← fch_kind, ← fch_kind, if_pos (bne_iff_ne.mpr h), e1, e2]
    show [PyData.int k, PyData.str (S (kindsOf (oo as bs) (nn as bs) k (unl (oo as bs) (nn as bs) k))), PyData.int _, PyData.int _] = _
    rw [hkinds, g1, g2]
theorem read_bits : ∀ k, first (oo as bs) (nn as bs) = some k → ∀ i, i ∈ unl (oo as bs) (nn as bs) k → i ≠ 0 → ([ch (oo as bs) k i], bv i (ch (oo as bs) k i)) ∈ kvsAt i ∧ ([ch (nn as bs) k i], bv i (ch (nn as bs) k i)) ∈ kvsAt i := by
  intro k hf i hi h0
  rw [first_due] at hf
  obtain ⟨hk, hc, hat⟩ := at_row hf
  obtain ⟨hi10, hne⟩ := (unl_mem hf).mp hi
  obtain ⟨e1, e2⟩ := (hat i hi10).2 hne
  rw [e1, e2, fch_pc _ i (by omega) hi10, fch_pc _ i (by omega) hi10]
  exact ⟨(bv_pc (by omega) hi10 _ _).1, (bv_pc (by omega) hi10 _ _).1⟩
end
end Mine
end P7

section M7
open PySem PySem.W PyProof.Rows
namespace Mine
section
variable {X : Cx} {A : Around} {s₀ : Shared} {env : Env} {ρ : Str → Option D} {α : Type} {g : α → D}
theorem Ev.sliceMto {value e : Expr} {p pos : Pos} {l : List α} {j : Nat} (F : Fm X s₀ env) (hv : Ev X A s₀ env ρ value (.list (l.map g))) (hj : Ev X A s₀ env ρ e (.int j)) (hlen : l.length ≤ 1000) :
    Ev X A s₀ env ρ (.Subscript value (.Slice none (some e) none p) pos) (.list ((l.take j).map g)) := by
  have := Ev.sliceLto (p := p) (pos := pos) F hv hj (by omega) (by rw [List.length_map, sizeLine_eq]; omega)
  rwa [Int.toNat_natCast, ← List.map_take] at this
theorem Ev.sliceMfrom {value e : Expr} {p pos : Pos} {l : List α} {j : Nat} (F : Fm X s₀ env) (hv : Ev X A s₀ env ρ value (.list (l.map g))) (hj : Ev X A s₀ env ρ e (.int j)) (hlen : l.length ≤ 1000) :
    Ev X A s₀ env ρ (.Subscript value (.Slice (some e) none none p) pos) (.list ((l.drop j).map g)) := by
  have := Ev.sliceLfrom (p := p) (pos := pos) F hv hj (by omega) (by rw [List.length_map, sizeLine_eq]; omega)
  rwa [Int.toNat_natCast, ← List.map_drop] at this
theorem Ev.itemM {value idx : Expr} {pos : Pos} {l : List α} {k : Nat} {x : α} (F : Fm X s₀ env) (hv : Ev X A s₀ env ρ value (.list (l.map g))) (hi : Ev X A s₀ env ρ idx (.int k)) (hk : k < 2 ^ 60) (hx : l[k]? = some x)
    (hs : ∀ o i, subscripted idx false o i = operate [o, i] (getItem o i)) : Ev X A s₀ env ρ (.Subscript value idx pos) (g x) :=
  Ev.itemL F hv hi (by omega) (by omega) (by rw [Int.toNat_natCast, List.getElem?_map, hx]; rfl) hs
theorem op_addM {l l' : List α} (h : l.length ≤ 1000) (h' : l'.length ≤ 1000) : Op2 X A (binaryOp .Add) (.list (l.map g)) (.list (l'.map g)) (.list ((l ++ l').map g)) := by
  rw [List.map_append]; exact op_addL (by rw [List.length_map, List.length_map, sizeLine_eq]; omega)
theorem Fc.lenM {l : List α} (h : l.length ≤ 1000) : Fc X A (.builtin "len") [.list (l.map g)] (.int (l.length : Int)) := by
  have := Fc.lenL (X := X) (A := A) (ds := l.map g) (by rw [List.length_map]; omega)
  rwa [List.length_map] at this
/-- the item of a written tuple of three lists -/
noncomputable def pick3 (r : Nat) (a b : List α) : List α := if r = 0 then a else if r = 1 then b else []
theorem pick3_at {r : Nat} (h : r < 3) (a b : List α) : ([D.list (a.map g), D.list (b.map g), D.list []])[r]? = some (D.list ((pick3 r a b).map g)) := by
  match r, h with
  | 0, _ => rfl
  | 1, _ => rfl
  | 2, _ => rfl
theorem pick3_len (r : Nat) (a b : List α) (ha : a.length ≤ 100) (hb : b.length ≤ 100) : (pick3 r a b).length ≤ 100 := by
  unfold pick3
  split
  · exact ha
  · split
    · exact hb
    · simp
end
noncomputable def mapI (g : Int → D) : D → Option D := fun d => match d with
  | .int i => some (g i)
  | _ => none
theorem mapI_map (g : Int → D) (l : List Int) : (l.map D.int).filterMap (mapI g) = l.map g := by
  rw [List.filterMap_map]
  induction l with
  | nil => rfl
  | cons x r ih => rw [List.filterMap_cons, ih]; rfl
theorem keepT (g : Nat → D) (m : Nat) : (rngL 0 m).filterMap (keepV (fun _ => true) g) = (List.range m).map g := by
  rw [keepV_rng, List.filter_eq_self.mpr (fun _ _ => rfl)]

noncomputable def BL : List Int := [33188, 16877, 41471, 35309, 17407, 4516]
noncomputable def modesOf (ns : List Int) : List Int := BL.drop (ns.sum % 6).toNat ++ ns.map fun x => x * 4681
noncomputable def turnAt (ms : List Int) (t : Int) (k : Nat) : Int := Builtin.bitXor (ms.getD k 0) ((73 + t + k) % 65536)
noncomputable def turned (ms : List Int) (t : Int) : List Int := (List.range ms.length).map (turnAt ms t)

theorem strOk_low {l : List Nat} (h : ∀ c ∈ l, c < 128) (hl : l.length ≤ 100) : PyData.strOk (S l) = true := by
  unfold PyData.strOk
  rw [Array.all_eq_true]
  intro i hi
  have := h _ (List.getElem_mem (by simpa using hi) : l[i] ∈ l)
  simp at this ⊢
  omega
theorem kindN_low (x : Int) : kindN x < 128 := by
  rw [← fch_kind]
  exact (alph_low _ (row_alph x _ (by unfold row; exact List.mem_map.mpr ⟨0, by simp, rfl⟩))).1
theorem due_leaf (as bs : List Int) : ∀ p ∈ dueP as bs, leaf p = true := by
  intro p hp
  unfold dueP at hp
  rcases List.mem_append.mp hp with hp | hp
  · simp only [List.mem_cons, List.not_mem_nil, or_false] at hp
    rcases hp with rfl | rfl <;> rfl
  · split at hp
    · cases hp
    · simp only [List.mem_cons, List.not_mem_nil, or_false] at hp
      rcases hp with rfl | rfl | rfl | rfl
      · rfl
      · show PyData.strOk _ = true
        refine strOk_low ?_ ?_
        · intro c hc
          split at hc
          · simp only [List.mem_cons, List.not_mem_nil, or_false] at hc
            rcases hc with rfl | rfl <;> exact kindN_low _
          · cases hc
        · split <;> simp
      · rfl
      · rfl
section
variable {w : World}
noncomputable abbrev rowD : Int → D := fun x => Sd (row x)
noncomputable abbrev toldA (as bs : List Int) : List Nat := told1 (txt as) (txt bs) (txt as)
noncomputable abbrev toldB (as bs : List Int) : List Nat := told1 (txt as) (txt bs) (txt bs)
theorem common_rows (as bs : List Int) (ha : as ≠ []) (hb : bs ≠ []) (la : as.length ≤ 10) (lb : bs.length ≤ 10) :
    Fn (XX w false) 45 61 [.list (as.map rowD), .list (bs.map rowD)] (.tup [Sd (toldA as bs), Sd (toldB as bs)]) := by
  have h1 := txt_length as
  have h2 := txt_length bs
  have := fn_common (w := w) (as.map fun x => S (row x)) (bs.map fun x => S (row x)) (txt as) (txt bs) (shown_txt as ha) (shown_txt bs hb) (fun c hc => (txt_low as c hc).1) (fun c hc => (txt_low bs c hc).1) (by omega) (by omega)
  rw [List.map_map, List.map_map] at this
  exact this
theorem told_short (as bs : List Int) (la : as.length ≤ 10) (lb : bs.length ≤ 10) : (toldA as bs).length ≤ 80 ∧ (toldB as bs).length ≤ 80 := by
  have h1 := txt_length as
  have h2 := txt_length bs
  exact ⟨told_len (cp_len_le _ _) (by omega) (by omega), told_len (by rw [cp_comm]; exact cp_len_le _ _) (by omega) (by omega)⟩
theorem read_rows (as bs : List Int) (la : as.length ≤ 10) (lb : bs.length ≤ 10) : Fn (XX w false) 3 135 [Sd (toldA as bs), Sd (toldB as bs)] (.list ((dueP as bs).map fromP)) := by
  have h1 := txt_length as
  have h2 := txt_length bs
  obtain ⟨t1, t2⟩ := told_short as bs la lb
  have n1 : 104 ∉ txt as := fun h => (txt_low as _ h).2 rfl
  have n2 : 104 ∉ txt bs := fun h => (txt_low bs _ h).2 rfl
  have o1 := oo_len (as := as) (bs := bs)
  have o2 := nn_len (as := as) (bs := bs)
  have := fn_read (w := w) (q := false) (toldA as bs) (toldB as bs) (oo as bs) (nn as bs) ((told_spr n1 n1 (by omega) (by omega)).fn (Nat.le_trans t1 (by decide)) (Nat.le_trans (Nat.le_of_eq o1) (by omega))) ((told_spr n1 n2 (by omega) (by omega)).fn (Nat.le_trans t2 (by decide)) (Nat.le_trans (Nat.le_of_eq o2) (by omega))) (by omega) (by omega) read_bits
  rwa [read_due] at this
set_option maxHeartbeats 8000000 in
theorem fn_law (script : List Int) (hs : script.length ≤ 63) : Fn (XX w false) 46 145 [.list (script.map D.int)] (.val (.bool true)) := by
  refine Fn.enter (ps := [("script", .list (script.map D.int))]) rfl rfl rfl rfl rfl rfl rfl rfl rfl rfl (Bnd.plain (ns := ["script"]) rfl ?_) rfl ?_
  · intro vs hv
    obtain ⟨_, rfl⟩ := len1 hv; rfl
  · intro A s₀ R G env he F O
    subst he
    have hn4 : (script.take 4).length ≤ 4 := by rw [List.length_take]; exact Nat.min_le_left _ _
    refine @Ex.step _ _ _ _ _ _ _ _ _ (Es.asgL F (Ev.callB F rfl rfl rfl (by decide) rfl (.inr ⟨_, rfl⟩) rfl rfl (Evs.cons F rfl (Ev.sliceMto (j := 4) F (Ev.loc F rfl rfl rfl) Ev.cInt (lek hs rfl)) .nil) (Fc.listL (szM (lek hn4 rfl)))) rfl rfl) ?_
    generalize script.take 4 = ns at *
    refine @Ex.step _ _ _ _ _ _ _ _ _ (Es.asgC F O (Ev.callB F rfl rfl rfl (by decide) rfl (.inl ⟨_, rfl⟩) rfl rfl (Evs.cons F rfl (Ev.loc F rfl rfl rfl) .nil) (Fc.sum R.hd)) rfl rfl) ?_
    have hml : (modesOf ns).length ≤ 10 ∧ 0 < (modesOf ns).length := by
      unfold modesOf
      rw [List.length_append, List.length_drop, List.length_map]
      have : BL.length = 6 := rfl
      have := Int.emod_nonneg ns.sum (show (6 : Int) ≠ 0 by decide)
      have := Int.emod_lt_of_pos ns.sum (show (0 : Int) < 6 by decide)
      omega
    have e6 : ((ns.sum % 6).toNat : Int) = ns.sum % 6 := Int.toNat_of_nonneg (Int.emod_nonneg _ (by decide))
    refine @Ex.step _ _ _ _ _ _ _ _ _ (Es.asgC (d := .list ((modesOf ns).map D.int)) F O (Ev.bin F (Ev.sliceMfrom (l := BL) (g := D.int) (j := (ns.sum % 6).toNat) F (Ev.list (sz (Nat.le_of_ble_eq_true rfl)) (Evs.cons F rfl Ev.cInt (Evs.cons F rfl Ev.cInt (Evs.cons F rfl Ev.cInt (Evs.cons F rfl Ev.cInt (Evs.cons F rfl Ev.cInt (Evs.cons F rfl Ev.cInt .nil))))))) (Ev.cv (congrArg D.int e6.symm) (Ev.bin F (Ev.cell F rfl rfl rfl) Ev.cInt (op_modE (by decide)))) (by decide))
      (Ev.cv (congrArg D.list (mapI_map (fun x => .int (x * 4681)) ns)) (Ev.comp (cl := _) (mapI fun x => .int (x * 4681)) F (Ev.loc F rfl rfl rfl) (Itb.list R.hd (flatM fun _ => rfl)) (szM (lek hn4 rfl)) rfl (by decide) rfl (by decide) rfl rfl ?_ (fun _ => rfl))) ?_) rfl rfl) ?_
    · intro d hd s C cenv hc Gs' F'
      subst hc
      obtain ⟨x, _, rfl⟩ := List.mem_map.mp hd
      exact ⟨rfl, Tests.nil, Ev.bin F' (Ev.loc F' rfl rfl rfl) Ev.cInt (op_mulI (.of_right (by decide)))⟩
    · have h1 : (BL.drop (ns.sum % 6).toNat).length ≤ 1000 := drL (Nat.le_of_ble_eq_true rfl)
      have := op_addM (X := XX w false) (A := A) (g := D.int) (l := BL.drop (ns.sum % 6).toNat) (l' := ns.map fun x => x * 4681) h1 (by rw [List.length_map]; exact lek hn4 rfl)
      rw [List.map_map] at this
      exact this
    generalize ns.sum = tot at *
    generalize modesOf ns = ms at *
    obtain ⟨hm1, hm2⟩ := hml
    refine @Ex.on _ _ _ _ _ _ _ [("total", .int tot), ("modes", .list (ms.map D.int))] ⟨rfl, rfl, trivial⟩ ?_
    have etu : (rngL 0 (ms.length : Int)).filterMap (keepV (fun _ => true) fun k => .int (turnAt ms tot k)) = (turned ms tot).map D.int := by
      rw [keepT]; unfold turned; rw [List.map_map]; rfl
    refine @Ex.step _ _ _ _ _ _ _ _ _ (Es.asgComp (cl := _) (keepV (fun _ => true) fun k => .int (turnAt ms tot k)) rfl F (Ev.callB F rfl rfl rfl (by decide) rfl (.inr ⟨_, rfl⟩) rfl rfl (Evs.cons F rfl (Ev.callB F rfl rfl rfl (by decide) rfl (.inl ⟨_, rfl⟩) rfl rfl (Evs.cons F rfl (Ev.cell F rfl rfl rfl) .nil) (Fc.lenM (lek hm1 rfl))) .nil) Fc.range1)
      (Itb.rng R.hd (by decide) (naN (lek hm1 rfl))) (szR (lek hm1 rfl)) rfl (by decide) rfl (by decide) rfl rfl rfl ?_ (fun _ => rfl)) ?_
    · intro d hd s C cenv hc Gs' F'
      subst hc
      obtain ⟨j, hj, rfl⟩ := mem_rng0 hd
      rw [keepV_nat]
      exact ⟨rfl, Tests.nil, Ev.bin F' (Ev.itemIN F' (Ev.cell F' rfl rfl rfl) (Ev.loc F' rfl rfl rfl) hj (lek hm1 rfl) (fun _ _ => rfl)) (Ev.bin F' (Ev.bin F' (Ev.bin F' Ev.cInt (Ev.cell F' rfl rfl rfl) op_addI) (Ev.loc F' rfl rfl rfl) op_addI) Ev.cInt (op_modE (by decide))) op_xorI⟩
    rw [etu]
    have htl : (turned ms tot).length = ms.length := by unfold turned; rw [List.length_map, List.length_range]
    generalize turned ms tot = ts at *
    refine @Ex.step _ _ _ _ _ _ _ _ _ (Es.asgComp (cl := _) (mapI rowD) rfl F (Ev.cell F rfl rfl rfl) (Itb.list R.hd (flatM fun _ => rfl)) (szM (lek hm1 rfl)) rfl (by decide) rfl (by decide) rfl rfl rfl ?_ (fun _ => rfl)) ?_
    · intro d hd s C cenv hc Gs' F'
      subst hc
      obtain ⟨x, _, rfl⟩ := List.mem_map.mp hd
      exact ⟨rfl, Tests.nil, Ev.callG F' rfl rfl rfl rfl rfl rfl rfl (Evs.cons F' rfl (Ev.loc F' rfl rfl rfl) .nil) (fn_filemode x A (R.less (Nat.le_of_ble_eq_true rfl)))⟩
    rw [mapI_map]
    refine @Ex.step _ _ _ _ _ _ _ _ _ (Es.asgComp (cl := _) (mapI rowD) rfl F (Ev.loc F rfl rfl rfl) (Itb.list R.hd (flatM fun _ => rfl)) (szM (htl ▸ lek hm1 rfl)) rfl (by decide) rfl (by decide) rfl rfl rfl ?_ (fun _ => rfl)) ?_
    · intro d hd s C cenv hc Gs' F'
      subst hc
      obtain ⟨x, _, rfl⟩ := List.mem_map.mp hd
      exact ⟨rfl, Tests.nil, Ev.callG F' rfl rfl rfl rfl rfl rfl rfl (Evs.cons F' rfl (Ev.loc F' rfl rfl rfl) .nil) (fn_filemode x A (R.less (Nat.le_of_ble_eq_true rfl)))⟩
    rw [mapI_map]
    let base : List (Str × D) := [("total", .int tot), ("modes", .list (ms.map D.int)), ("turned", .list (ts.map D.int)), ("rows", .list (ms.map rowD)), ("other", .list (ts.map rowD))]
    refine @Ex.cons _ _ _ _ _ _ _ _ (fun o' => ∃ ρ', o' = .next ρ') (Es.for F (Ev.callB F rfl rfl rfl (by decide) rfl (.inr ⟨_, rfl⟩) rfl rfl (Evs.cons F rfl (Ev.callB F rfl rfl rfl (by decide) rfl (.inl ⟨_, rfl⟩) rfl rfl (Evs.cons F rfl (Ev.cell F rfl rfl rfl) .nil) (Fc.lenM (lek hm1 rfl))) .nil) Fc.range1)
      (Itb.rng R.hd (by decide) (naN (lek hm1 rfl))) rfl (fun i ρ' => le (env0 base) ρ') (Has.le ⟨rfl, rfl, rfl, rfl, rfl, trivial⟩) ?_ (fun ρ' _ => Ex.nil ⟨ρ', rfl⟩) (fun _ => rfl) (fun _ h => h)) ?_ ?_
    · intro i d ρ' hd hle
      obtain ⟨k, hk, rfl⟩ := mem_rng0 (List.mem_of_getElem? hd)
      refine @Ex.weaken _ _ _ _ _ _ _ _ ?_ (le.upd2 hle)
      have h3 := Int.emod_nonneg (tot + k) (show (3 : Int) ≠ 0 by decide)
      have h3' := Int.emod_lt_of_pos (tot + k) (show (0 : Int) < 3 by decide)
      have er : (tot + k) % 3 = (((tot + k) % 3).toNat : Int) := (Int.toNat_of_nonneg h3).symm
      have hr3 : ((tot + k) % 3).toNat < 3 := by omega
      refine @Ex.step _ _ _ _ _ _ _ _ _ (Es.asgL F (Ev.cv (congrArg D.int er) (Ev.bin F (Ev.bin F (Ev.cell F rfl rfl rfl) (Ev.loc F rfl rfl rfl) op_addI) Ev.cInt (op_modE (by decide)))) rfl rfl) ?_
      generalize ((tot + k) % 3).toNat = r at *
      have lt1 : (ms.take k).length ≤ 10 := tkL hm1
      have ld1 : (ms.drop (k + 1)).length ≤ 100 := drL (lek hm1 rfl)
      have hkt : k < ts.length := htl.symm ▸ hk
      have htl1 : ts.length ≤ 1000 := htl.symm ▸ lek hm1 rfl
      have hr1 : r ≤ 100000 := lek (Nat.le_of_lt hr3) rfl
      have hm1' : ms.length ≤ 1000 := lek hm1 rfl
      have lt2 : ∀ x : Int, (ms.take k ++ [x]).length ≤ 1000 := fun x => by rw [List.length_append]; exact lek (Nat.add_le_add_right lt1 1) rfl
      have ld2 : (ts.drop (k + 1)).length ≤ 100 := drL (htl.symm ▸ lek hm1 rfl)
      have lp := pick3_len r _ _ ld1 ld2
      have tk : ts[k]? = some (ts.getD k 0) := by rw [List.getD_eq_getElem?_getD, List.getElem?_eq_getElem hkt]; rfl
      refine @Ex.step _ _ _ _ _ _ _ _ _ (Es.asgL F (Ev.bin F (Ev.bin F (Ev.sliceMto F (Ev.cell F rfl rfl rfl) (Ev.loc F rfl rfl rfl) hm1') (Ev.list (ds := [ts.getD k 0].map D.int) (sz (Nat.le_of_ble_eq_true rfl)) (Evs.cons F rfl (Ev.itemIN F (Ev.loc F rfl rfl rfl) (Ev.loc F rfl rfl rfl) hkt htl1 (fun _ _ => rfl)) .nil)) (op_addM (lek lt1 rfl) (Nat.le_of_ble_eq_true rfl)))
        (Ev.itemT F (Ev.tup (sz (Nat.le_of_ble_eq_true rfl)) (Evs.cons F rfl (Ev.sliceMfrom F (Ev.cell F rfl rfl rfl) (Ev.bin F (Ev.loc F rfl rfl rfl) Ev.cInt (op_addK 1)) hm1') (Evs.cons F rfl (Ev.sliceMfrom F (Ev.loc F rfl rfl rfl) (Ev.bin F (Ev.loc F rfl rfl rfl) Ev.cInt (op_addK 1)) htl1) (Evs.cons F rfl (Ev.list (Nat.zero_le _) .nil) .nil)))) (Ev.loc F rfl rfl rfl) (Int.natCast_nonneg _) (i63 hr1) (by rw [Int.toNat_natCast]; exact pick3_at hr3 _ _) (fun _ _ => rfl))
        (op_addM (lt2 _) (lek lp rfl))) rfl rfl) ?_
      refine @Ex.step _ _ _ _ _ _ _ _ _ (Es.asgL F (Ev.bin F (Ev.bin F (Ev.sliceMto F (Ev.loc F rfl rfl rfl) (Ev.loc F rfl rfl rfl) hm1') (Ev.list (ds := [ts.getD k 0].map rowD) (sz (Nat.le_of_ble_eq_true rfl)) (Evs.cons F rfl (Ev.itemM F (Ev.loc F rfl rfl rfl) (Ev.loc F rfl rfl rfl) (p60 (Nat.le_trans (Nat.le_of_lt hkt) (lek htl1 rfl))) tk (fun _ _ => rfl)) .nil)) (op_addM (lek lt1 rfl) (Nat.le_of_ble_eq_true rfl)))
        (Ev.itemT F (Ev.tup (sz (Nat.le_of_ble_eq_true rfl)) (Evs.cons F rfl (Ev.sliceMfrom F (Ev.loc F rfl rfl rfl) (Ev.bin F (Ev.loc F rfl rfl rfl) Ev.cInt (op_addK 1)) hm1') (Evs.cons F rfl (Ev.sliceMfrom F (Ev.loc F rfl rfl rfl) (Ev.bin F (Ev.loc F rfl rfl rfl) Ev.cInt (op_addK 1)) htl1) (Evs.cons F rfl (Ev.list (Nat.zero_le _) .nil) .nil)))) (Ev.loc F rfl rfl rfl) (Int.natCast_nonneg _) (i63 hr1) (by rw [Int.toNat_natCast]; exact pick3_at hr3 _ _) (fun _ _ => rfl))
        (op_addM (lt2 _) (lek lp rfl))) rfl rfl) ?_
      have hB : ms.take k ++ [ts.getD k 0] ++ pick3 r (ms.drop (k + 1)) (ts.drop (k + 1)) ≠ [] := by simp
      have lB : (ms.take k ++ [ts.getD k 0] ++ pick3 r (ms.drop (k + 1)) (ts.drop (k + 1))).length ≤ 10 := by
        have : (pick3 r (ms.drop (k + 1)) (ts.drop (k + 1))).length ≤ ms.length - (k + 1) := by
          unfold pick3
          split
          · rw [List.length_drop]; omega
          · split
            · rw [List.length_drop]; omega
            · simp
        rw [List.length_append, List.length_append, List.length_take]
        simp only [List.length_cons, List.length_nil]
        omega
      generalize ms.take k ++ [ts.getD k 0] ++ pick3 r (ms.drop (k + 1)) (ts.drop (k + 1)) = bs at *
      have hA : ms ≠ [] := fun e => by rw [e] at hm2; exact absurd hm2 (by decide)
      refine @Ex.step _ _ _ _ _ _ _ _ _ (Es.asgL F (Ev.callG F rfl rfl rfl rfl rfl rfl rfl (Evs.cons F rfl (Ev.loc F rfl rfl rfl) (Evs.cons F rfl (Ev.loc F rfl rfl rfl) .nil)) (common_rows ms bs hA hB hm1 lB A R)) rfl rfl) ?_
      obtain ⟨t1, t2⟩ := told_short ms bs hm1 lB
      have fr := read_rows (w := w) ms bs hm1 lB
      generalize toldA ms bs = ta at *
      generalize toldB ms bs = tb at *
      refine @Ex.on _ _ _ _ _ _ _ [("total", .int tot), ("modes", .list (ms.map D.int)), ("turned", .list (ts.map D.int)), ("rows", .list (ms.map rowD)), ("other", .list (ts.map rowD)), ("second", .list (bs.map D.int)), ("told", .tup [Sd ta, Sd tb])] ⟨rfl, rfl, rfl, rfl, rfl, rfl, rfl, trivial⟩ ?_
      have hmax : decide (max (ta.length : Int) tb.length > 80) = false := decide_eq_false (by clear tk lt2 hd hm1' hr1 htl1 lp ld1 ld2 lt1; omega)
      refine @Ex.step _ _ _ _ _ _ _ _ _ (Es.iff (b := false) F (Ts.orF (pos' := ⟨0, 0, 0, 0⟩) F (Ts.cmp F (Ev.callB F rfl rfl rfl (by decide) rfl (.inr ⟨_, rfl⟩) rfl rfl (Evs.cons F rfl (Ev.loc F rfl rfl rfl) .nil) Fc.typeT) (Ev.bi F rfl rfl rfl (by decide) rfl) (op_isNotV rfl) rfl)
        (Ts.orF (pos' := ⟨0, 0, 0, 0⟩) F (Ts.cmp F (Ev.callB F rfl rfl rfl (by decide) rfl (.inl ⟨_, rfl⟩) rfl rfl (Evs.cons F rfl (Ev.loc F rfl rfl rfl) .nil) (Fc.lenT (ds := [Sd ta, Sd tb]) (by simp))) Ev.cInt op_neI rfl)
        (Ts.orF (pos' := ⟨0, 0, 0, 0⟩) F (Ts.cv hmax (Ts.cmp F (Ev.callB F rfl rfl rfl (by decide) rfl (.inl ⟨_, rfl⟩) rfl rfl (Evs.cons F rfl (Ev.callB F rfl rfl rfl (by decide) rfl (.inl ⟨_, rfl⟩) rfl rfl (Evs.cons F rfl (Ev.itemT F (Ev.loc F rfl rfl rfl) Ev.cInt (by decide) (by decide) rfl (fun _ _ => rfl)) .nil) (Fc.lenS (p60 (lek t1 rfl))))
          (Evs.cons F rfl (Ev.callB F rfl rfl rfl (by decide) rfl (.inl ⟨_, rfl⟩) rfl rfl (Evs.cons F rfl (Ev.itemT F (Ev.loc F rfl rfl rfl) Ev.cInt (by decide) (by decide) rfl (fun _ _ => rfl)) .nil) (Fc.lenS (p60 (lek t2 rfl)))) .nil)) (Fc.max2 R.hd)) Ev.cInt op_gtI rfl)) Ts.orNil))) ff fun _ => Ex.nil rfl) ?_
      refine @Ex.one _ _ _ _ _ _ _ (Es.iff (b := false) F (Ts.cmp F (Ev.callG F rfl rfl rfl rfl rfl rfl rfl (Evs.cons F rfl (Ev.itemT F (Ev.loc F rfl rfl rfl) Ev.cInt (by decide) (by decide) rfl (fun _ _ => rfl)) (Evs.cons F rfl (Ev.itemT F (Ev.loc F rfl rfl rfl) Ev.cInt (by decide) (by decide) rfl (fun _ _ => rfl)) .nil)) (fr A (R.less (Nat.le_of_ble_eq_true rfl))))
        (Ev.callG F rfl rfl rfl rfl rfl rfl rfl (Evs.cons F rfl (Ev.cell F rfl rfl rfl) (Evs.cons F rfl (Ev.loc F rfl rfl rfl) .nil)) (fn_due ms bs hm1' (lek lB rfl) A (R.less (Nat.le_of_ble_eq_true rfl)))) (op_neLsame (due_leaf ms bs) (by have := R.un; show A.units + 64 < 9900; omega)) rfl) ff fun _ => Ex.nil ?_)
      exact Has.le ⟨rfl, rfl, rfl, rfl, rfl, trivial⟩
    · rintro ρ' _
      exact Ex.ret F Ev.cBool rfl
    · rintro o' hno ⟨ρ', rfl⟩
      exact absurd rfl (hno _)
end
end Mine
end M7

section J2
open PySem PySem.W PyProof.Rows
namespace Mine
theorem reps_ints {h : Heap} : ∀ {vs : List Value} {ns : List Int}, IntsAre vs ns → Reps h vs (ns.map D.int)
  | _, _, .nil => .nil
  | _, _, .cons _ _ r => .cons (.int ..) (reps_ints r)
theorem law_joins {w : World} {s₁ : Shared} {E : Value → Shared → Prop} (G : Gs (XX w false) s₁) {l : Addr} {vs : List Value} {ns : List Int} (hl : s₁.heap.get? l = some (lobj vs 0)) (hi : IntsAre vs ns) (hn : ns.length ≤ 63) :
    wpAny (model PySem.Challenge.pw_mq0208_01 w) callerA (call (.ref 145) [.ref l]) (fun v s' => v = .bool true ∧ Grow (XX w false) s₁ s') E s₁ := by
  have R : Rm 46 callerA := ⟨rfl, fun _ => rfl, by decide, by decide⟩
  refine wpAny_mono (fn_law (w := w) ns hn callerA R s₁ [.ref l] E G (.cons (.list hl (reps_ints hi)) .nil)) (fun v s' q => ?_) fun _ _ x => x
  obtain ⟨g, r⟩ := q
  cases r
  exact ⟨rfl, g⟩
theorem grow_oldK {X : Cx} {s s' : Shared} (T : Tab X s.heap) (g : Grow X s s') : OldK s.heap s'.heap := by
  obtain ⟨ps, hc, ht⟩ := T
  obtain ⟨more, e'⟩ := g.tab ps ht.2
  refine ⟨fun b o e => ?_, fun b o e => ?_⟩
  · by_cases hb : b = X.P
    · subst hb
      have e0 : s.heap.get? X.P = some (PySem.W.X.tableObj ps) := ht.2
      rw [e0] at e; cases e
      exact .inr (.inl ⟨ht.isCodeTable, rfl, ps, more, rfl, e'⟩)
    · exact .inl (g.keep b o hb e)
  · by_cases hb : b = X.P
    · subst hb; exact ⟨_, e'⟩
    · exact ⟨o, g.keep b o hb e⟩
/-- the code table of the def that makes generators -/
theorem tab_of_top {loose : List Str} {mean : ExcName → Option Value} {w : World} {mg mb : Str → Option Value} {h : Heap} (KX : (hd.heap_39 w.params).In h) (T : Top hd.view_39 loose mean mg mb h) : Tab (XX w false) h := by
  have hm : ∃ d ∈ recsOf hd.view_39, d.name = "_common_shorten_repr" := ⟨_, List.mem_of_find?_eq_some (p := fun e : DefRec => e.name == "_common_shorten_repr") (by rfl), rfl⟩
  obtain ⟨d, hd', hn⟩ := hm
  obtain ⟨a, o, fd, c, P, h1, h2, h3, h4, h5, h6⟩ := T.tab d hd'
  rw [hn] at h1
  have e1 := mg_of (v := .ref 61) KX T.g (n := "_common_shorten_repr") (by rfl)
  rw [h1] at e1
  cases e1
  have k61 : ∃ o fd, (hd.heap_39 w.params).lookup 61 = some o ∧ o.data = .func fd ∧ fd.code = .ref 60 := ⟨_, _, rfl, rfl, rfl⟩
  obtain ⟨o1, fd1, l1, l2, l3⟩ := k61
  have e2 := KX _ _ l1
  rw [h2] at e2; cases e2
  rw [h3] at l2; cases l2
  rw [h4] at l3; cases l3
  have k60 : ∃ o vs, (hd.heap_39 w.params).lookup 60 = some o ∧ o.data = .fields vs ∧ vs[11]? = some (.ref 56) := ⟨_, _, rfl, rfl, rfl⟩
  obtain ⟨o2, vs2, m1, m2, m3⟩ := k60
  have e3 := KX _ _ m1
  obtain ⟨o3, vs3, n1, n2, n3, n4⟩ := h6.1
  rw [n1] at e3; cases e3
  rw [n3] at m2; cases m2
  rw [n4] at m3; cases m3
  exact ⟨#[], h5, h6⟩
theorem gs_of_top {loose : List Str} {mean : ExcName → Option Value} {w : World} {mg mb : Str → Option Value} {s : Shared} (KX : (hd.heap_39 w.params).In s.heap) (T : Top hd.view_39 loose mean mg mb s.heap) (hg : s.gens = #[]) : Gs (XX w false) s := by
  have hT := tab_of_top KX T
  obtain ⟨bm, ob, M⟩ := bmod_of_top T
  refine ⟨⟨KX, rfl, ⟨mg, T.g⟩, ⟨mb, T.b, T.builtins⟩, T.nolimit, T.nodigits, ⟨(by decide : (56 : Nat) ≠ builtinsNs), (by decide : (56 : Nat) ≠ cStatics), (by decide : (56 : Nat) ≠ mainGlobals)⟩, ⟨mg, bm, ob, M, ?_⟩⟩, hT, fun _ => AllBare.of_eq hg⟩
  rintro rfl
  obtain ⟨ps, e⟩ := hT.P
  have h1 := M.obj
  have h2 := M.cls
  rw [e] at h1
  cases h1
  cases h2
end Mine


end J2

open PySem PySem.W PyProof.Rows
open Mine
set_option maxHeartbeats 8000000 in
theorem PySem.Challenge.cw_mq0208_01_holds : PySem.Challenge.rw_mq0208_01.Holds := by
  refine Mine.hd ?_
  k_fill
  intro w s₀ s₁ mg mb G Y fa o pm cd doc dV kV ho hd1 hcd hD hmg hg args vals as hpre hlay hrd hwl hlo
  have KX := kIn_of Y
  refine Ground.open G ?_
  intro T B D TE TW
  have e1 := mg_of (v := .ref 145) KX T.g (n := "law") (by rfl)
  have hfa : fa = 145 := by
    have h2 : mg "law" = some (.ref fa) := hmg
    rw [e1] at h2; cases h2; rfl
  subst hfa
  have GS := gs_of_top KX T hg
  wrow_args hpre hlay hrd hwl hlo
  rename_i ns _ _ _ _ _ _ _ l vs _ hL _ wl _ hI _ hc _
  have hlen : ns.length ≤ 63 := by omega
  have hget : s₁.heap.get? l = some (Mine.lobj vs 0) := by
    unfold ofPy at wl
    cases wl with
    | list e _ =>
      obtain ⟨o', h1, _, n', h3⟩ := hL
      rw [e] at h1; cases h1
      have h3 := Data.seq.inj h3
      have h4 := congrArg Array.toList h3.1
      simp only at h4
      rw [e, ← h4]
  refine wpAny_mono (law_joins GS hget hI hlen) (fun v s' q => ?_) fun _ _ x => x
  obtain ⟨rfl, g⟩ := q
  exact ⟨.inl ⟨.bool true, .bool true, [], rfl, fun _ => rfl, .bool true, (by wrow_post), fun _ => ⟨List.nodup_nil, fun _ h => by cases h⟩⟩, grow_oldK GS.tab g, g.os, g.bare (GS.bare rfl)⟩
