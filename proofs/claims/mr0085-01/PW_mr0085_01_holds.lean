import PyProof.Rows.All
import Wide.All
import OpenK.AllK
import Wide.FinOn
import PySem.Challenge.RW_mr0085_01
open PySem PySem.W PyProof.Rows
set_option Elab.async false

section
namespace Mine

/-! ## the world's letters -/
structure Wd where
  prog : Program
  w : World
  p : Program
  loose : List Str
  mean : ExcName → Option Value
  mg : Str → Option Value
  mb : Str → Option Value
  ct : Addr → Addr → Prop

noncomputable abbrev Wd.M (X : Wd) : Model := model X.prog X.w

/-! ## the tables of codes: the one kind of object that may change behind the data's back -/
noncomputable def Tab (o : Obj) : Prop := ∃ ps, o = { cls := .none, data := .fields ps } ∧ TriplesOk ps.toList
theorem nt_cls {o : Obj} {n : String} (h : o.cls = .type n) : ¬ Tab o := by rintro ⟨ps, e, _⟩; subst e; cases h
theorem nt_dict {o : Obj} {es : Array DictEntry} {ep : Nat} (h : o.data = .dict es ep) : ¬ Tab o := by rintro ⟨ps, e, _⟩; subst e; cases h
theorem nt_cell {o : Obj} {v : Option Value} (h : o.data = .cell v) : ¬ Tab o := by rintro ⟨ps, e, _⟩; subst e; cases h
theorem nt_func {o : Obj} {fd : FuncData} (h : o.data = .func fd) : ¬ Tab o := by rintro ⟨ps, e, _⟩; subst e; cases h
theorem nt_plain {o : Obj} (h : o.data = .plain) : ¬ Tab o := by rintro ⟨ps, e, _⟩; subst e; cases h
noncomputable def TabAt (h : Heap) (P : Addr) : Prop := ∃ o, h.get? P = some o ∧ Tab o

variable {X : Wd}
/-- a table as it was, or a code's table that has grown -/
noncomputable def Grn (X : Wd) (P : Addr) (o o' : Obj) : Prop := o' = o ∨ ((∃ c, X.ct c P) ∧ ∃ ps more, o = { cls := .none, data := .fields ps } ∧ o' = { cls := .none, data := .fields (ps ++ more) })
theorem Grn.trans {P : Addr} {o o' o'' : Obj} (x : Grn X P o o') (y : Grn X P o' o'') : Grn X P o o'' := by
  rcases x with rfl | ⟨hc, ps, more, rfl, rfl⟩
  · exact y
  · rcases y with rfl | ⟨_, ps', more', e, rfl⟩
    · exact .inr ⟨hc, ps, more, rfl, rfl⟩
    · have e' : ps' = ps ++ more := by injection e with _ _ e; injection e with e; exact e.symm
      subst e'
      exact .inr ⟨hc, ps, more ++ more', rfl, by rw [Array.append_assoc]⟩
/-- the tables stay tables, and they grow alone -/
noncomputable def TG (X : Wd) (h h' : Heap) : Prop := ∀ P o, h.get? P = some o → Tab o → ∃ o', h'.get? P = some o' ∧ Tab o' ∧ Grn X P o o'
theorem TG.at {h h' : Heap} (x : TG X h h') {P : Addr} (t : TabAt h P) : TabAt h' P := let ⟨o, e, to⟩ := t; let ⟨o', e', t', _⟩ := x P o e to; ⟨o', e', t'⟩
theorem TG.refl {h : Heap} : TG X h h := fun P o e t => ⟨o, e, t, .inl rfl⟩
theorem TG.trans {h h' h'' : Heap} (x : TG X h h') (y : TG X h' h'') : TG X h h'' := fun P o e t => let ⟨o', e', t', g⟩ := x P o e t; let ⟨o'', e'', t'', g'⟩ := y P o' e' t'; ⟨o'', e'', t'', g.trans g'⟩

/-- all is kept but the tables, and they stay tables -/
structure Kp (X : Wd) (h h' : Heap) : Prop where
  get : ∀ b o, h.get? b = some o → ¬ Tab o → h'.get? b = some o
  tab : TG X h h'
theorem Kp.of {h h' : Heap} (hk : ∀ b o, h.get? b = some o → h'.get? b = some o) : Kp X h h' := ⟨fun b o e _ => hk b o e, fun P o e t => ⟨o, hk P o e, t, .inl rfl⟩⟩
theorem Kp.refl {h : Heap} : Kp X h h := .of fun _ _ e => e
theorem Kp.trans {h h' h'' : Heap} (x : Kp X h h') (y : Kp X h' h'') : Kp X h h'' := ⟨fun b o e n => y.get b o (x.get b o e n) n, x.tab.trans y.tab⟩
theorem Kp.push {h : Heap} {o : Obj} : Kp X h (h.push o) := .of fun _ _ e => Heap.get?_push_of_some _ e
theorem Kp.some {h h' : Heap} (x : Kp X h h') {b : Addr} {o : Obj} (e : h.get? b = some o) : ∃ o', h'.get? b = some o' := by
  by_cases t : Tab o
  · obtain ⟨o', e', _⟩ := x.tab b o e t; exact ⟨o', e'⟩
  · exact ⟨o, x.get b o e t⟩
theorem Kp.fresh {h h' : Heap} (x : Kp X h h') {b : Addr} (e : h'.get? b = none) : h.get? b = none := by
  cases q : h.get? b with
  | none => rfl
  | some o => obtain ⟨o', e'⟩ := x.some q; rw [e] at e'; cases e'
theorem tabs_but {h h' : Heap} {a : Addr} (hk : ∀ b o, b ≠ a → h.get? b = some o → h'.get? b = some o) (hn : ∀ o, h.get? a = some o → ¬ Tab o) : TG X h h' := fun P o e t => ⟨o, hk P o (fun q => by subst q; exact hn o e t) e, t, .inl rfl⟩
theorem Ns_kp {h h' : Heap} {a : Addr} {m : Str → Option Value} (hn : h.Ns a m) (hk : Kp X h h') : h'.Ns a m := by obtain ⟨o, es, ep, e, d, r⟩ := hn; exact ⟨o, es, ep, hk.get _ _ e (nt_dict d), d, r⟩
theorem IsCell_kp {h h' : Heap} {a : Addr} {v : Option Value} (hn : h.IsCell a v) (hk : Kp X h h') : h'.IsCell a v := by obtain ⟨o, e, d⟩ := hn; exact ⟨o, hk.get _ _ e (nt_cell d), d⟩

/-- what stands at the top -/
structure Wd.Tp (X : Wd) (h : Heap) : Prop where
  g : h.Ns mainGlobals X.mg
  b : h.Ns builtinsNs X.mb
  nolimit : h.NoLimit
  fn : ∀ d ∈ recsOf X.p, ∃ a o pm code doc, X.mg d.name = some (.ref a) ∧ h.get? a = some o ∧ o.data = .func (Calls.docDef d.name d.params d.body d.scope pm code doc) ∧ h.CodeRec code d.name ∧ ∃ c P, code = .ref c ∧ X.ct c P
  tab : ∀ c P, X.ct c P → ∃ ps, h.IsCode c P ps ∧ h.TableAt c P ps
  bmain : ∃ bm ob, X.mg "__builtins__" = some (.ref bm) ∧ bm ≠ builtinsNs ∧ h.get? bm = some ob ∧ ob.cls = .type "module" ∧ ob.dict = some builtinsNs ∧ ob.data = .plain

/-- the tables alone -/
noncomputable def Wd.Tb (X : Wd) (h : Heap) : Prop := ∀ c P, X.ct c P → TabAt h P
theorem Wd.Tp.tb {X : Wd} {h : Heap} (T : X.Tp h) : X.Tb h := fun c P hc => by
  obtain ⟨ps, h1, h2⟩ := T.tab c P hc
  obtain ⟨o, vs, file, tf, flags, tg, inF, text, tt, op, ho, hd, h11, r1, r2, r3, r4, hop, hpd, htr, hne⟩ := h1
  exact ⟨_, h2.2, ps, rfl, htr⟩
theorem Wd.Tp.build {X : Wd} {h h' : Heap} (T : X.Tp h) (hk : ∀ b o, h.get? b = some o → ¬ Tab o → h'.get? b = some o) (tb : X.Tb h') : X.Tp h' where
  g := by obtain ⟨o, es, ep, e, d, r⟩ := T.g; exact ⟨o, es, ep, hk _ _ e (nt_dict d), d, r⟩
  b := by obtain ⟨o, es, ep, e, d, r⟩ := T.b; exact ⟨o, es, ep, hk _ _ e (nt_dict d), d, r⟩
  nolimit := by obtain ⟨mc, ⟨o, es, ep, e, d, r⟩, q⟩ := T.nolimit; exact ⟨mc, ⟨o, es, ep, hk _ _ e (nt_dict d), d, r⟩, q⟩
  fn := fun d hd => by
    obtain ⟨a, o, pm, code, doc, h1, h2, h3, h4, c, P, rfl, hc⟩ := T.fn d hd
    refine ⟨a, o, pm, _, doc, h1, hk _ _ h2 (nt_func h3), h3, ?_, c, P, rfl, hc⟩
    obtain ⟨c', o', vs, t, e, g, r⟩ := h4
    cases e
    obtain ⟨ps, _, ⟨⟨oc, vc, hoc, hcc, _⟩, _⟩⟩ := T.tab c P hc
    rw [g] at hoc; cases hoc
    exact ⟨c, o', vs, t, rfl, hk _ _ g (nt_cls hcc), r⟩
  tab := fun c P hc => by
    obtain ⟨ps, h1, h2⟩ := T.tab c P hc
    obtain ⟨o, vs, file, tf, flags, tg, inF, text, tt, op, ho, hd, h11, r1, r2, r3, r4, hop, hpd, htr, hne⟩ := h1
    obtain ⟨⟨oc, vc, hoc, hcc, hdc, h11c⟩, htP⟩ := h2
    rw [ho] at hoc; cases hoc
    have ho' := hk _ _ ho (nt_cls hcc)
    obtain ⟨o', e', ps', rfl, htr'⟩ := tb c P hc
    exact ⟨ps', ⟨o, vs, file, tf, flags, tg, inF, text, tt, _, ho', hd, h11, r1, r2, r3, r4, e', rfl, htr', hne⟩, ⟨o, vc, ho', hcc, hdc, h11c⟩, e'⟩
  bmain := by obtain ⟨bm, ob, h1, h2, h3, h4, h5, h6⟩ := T.bmain; exact ⟨bm, ob, h1, h2, hk _ _ h3 (nt_plain h6), h4, h5, h6⟩
theorem Wd.Tb.keeps {X : Wd} {h h' : Heap} (T : X.Tb h) (hk : Kp X h h') : X.Tb h' := fun c P hc => hk.tab.at (T c P hc)
theorem Wd.Tp.keeps {X : Wd} {h h' : Heap} (T : X.Tp h) (hk : Kp X h h') : X.Tp h' := T.build hk.get (T.tb.keeps hk)
noncomputable abbrev Wd.K (X : Wd) : KeyKind X.prog X.w Str := strKind X.prog X.w

/-- no exception -/
noncomputable abbrev NoE : Value → Shared → Prop := fun _ _ => False

/-! ## data -/
inductive D where
  | none
  | bool (b : Bool)
  | int (i : Int)
  | str (x : Str)
  | tuple (ds : List D)
  | list (ds : List D)
  | dict (kvs : List (Str × D))

noncomputable abbrev Fz := Addr → Option Obj
structure Fz.In (G : Fz) (h : Heap) : Prop where
  get : ∀ a o, G a = some o → h.get? a = some o
  nt : ∀ a o, G a = some o → ¬ Tab o
theorem Fz.In.kp {G : Fz} {h h' : Heap} (x : G.In h) (hk : Kp X h h') : G.In h' := ⟨fun a o e => hk.get _ _ (x.get a o e) (x.nt a o e), x.nt⟩
noncomputable def Fz.Le (G G' : Fz) : Prop := ∀ a o, G a = some o → G' a = some o
theorem Fz.Le.refl {G : Fz} : G.Le G := fun _ _ e => e
theorem Fz.Le.trans {G G' G'' : Fz} (x : G.Le G') (y : G'.Le G'') : G.Le G'' := fun a o e => y a o (x a o e)

noncomputable def TupO (o : Obj) (vs : List Value) : Prop := o.cls = .type "tuple" ∧ ∃ n, o.data = .seq vs.toArray n
noncomputable def LstO (o : Obj) (vs : List Value) : Prop := ∃ n, o = { cls := .type "list", data := .seq vs.toArray n }
noncomputable def DicO (X : Wd) (o : Obj) (kvs : List (Str × Value)) : Prop :=
  o.ExactDict ∧ ∃ es ep, o.data = .dict es ep ∧ KeysOf X.K es ∧ Pairs X.K es.toList kvs ∧ (kvs.map (·.1)).Nodup

mutual
inductive Rel (X : Wd) (G : Fz) : Value → D → Prop
  | none : Rel X G .none .none
  | bool (b : Bool) : Rel X G (.bool b) (.bool b)
  | int (i : Int) (t : Tok) : Rel X G (.int i t) (.int i)
  | str (x : Str) (t : Tok) : Rel X G (.str x t) (.str x)
  | tuple {a : Addr} {o : Obj} {vs : List Value} {ds : List D} : G a = some o → TupO o vs → RelAll X G vs ds → Rel X G (.ref a) (.tuple ds)
  | list {a : Addr} {o : Obj} {vs : List Value} {ds : List D} : G a = some o → LstO o vs → RelAll X G vs ds → Rel X G (.ref a) (.list ds)
  | dict {a : Addr} {o : Obj} {kvs : List (Str × Value)} {kds : List (Str × D)} : G a = some o → DicO X o kvs → RelKv X G kvs kds → (a == sysModules) = false → Rel X G (.ref a) (.dict kds)
inductive RelAll (X : Wd) (G : Fz) : List Value → List D → Prop
  | nil : RelAll X G [] []
  | cons {v : Value} {vs : List Value} {d : D} {ds : List D} : Rel X G v d → RelAll X G vs ds → RelAll X G (v :: vs) (d :: ds)
inductive RelKv (X : Wd) (G : Fz) : List (Str × Value) → List (Str × D) → Prop
  | nil : RelKv X G [] []
  | cons {k : Str} {v : Value} {vs : List (Str × Value)} {d : D} {ds : List (Str × D)} : Rel X G v d → RelKv X G vs ds → RelKv X G ((k, v) :: vs) ((k, d) :: ds)
end

theorem Rel.mono {X : Wd} {G G' : Fz} (hs : G.Le G') {v : Value} {d : D} (h : Rel X G v d) : Rel X G' v d :=
  Rel.rec (motive_1 := fun v d _ => Rel X G' v d) (motive_2 := fun vs ds _ => RelAll X G' vs ds) (motive_3 := fun a b _ => RelKv X G' a b) .none .bool .int .str
    (fun g o _ r => .tuple (hs _ _ g) o r) (fun g o _ r => .list (hs _ _ g) o r) (fun g o _ n r => .dict (hs _ _ g) o r n) .nil (fun _ _ a b => .cons a b) .nil (fun _ _ a b => .cons a b) h
theorem RelAll.mono {X : Wd} {G G' : Fz} (hs : G.Le G') {vs : List Value} {ds : List D} (h : RelAll X G vs ds) : RelAll X G' vs ds := by
  induction vs generalizing ds with
  | nil => cases h; exact .nil
  | cons v vs ih => cases h with | cons a b => exact .cons (Rel.mono hs a) (ih b)
theorem RelKv.mono {X : Wd} {G G' : Fz} (hs : G.Le G') {vs : List (Str × Value)} {ds : List (Str × D)} (h : RelKv X G vs ds) : RelKv X G' vs ds := by
  induction vs generalizing ds with
  | nil => cases h; exact .nil
  | cons v vs ih => cases h with | cons a b => exact .cons (Rel.mono hs a) (ih b)

section
variable {X : Wd} {G : Fz} {v : Value} {d : D} {vs ws : List Value} {ds es : List D}
theorem RelAll.length (h : RelAll X G vs ds) : vs.length = ds.length := by
  induction vs generalizing ds with
  | nil => cases h; rfl
  | cons v vs ih => cases h with | cons _ r => rw [List.length_cons, List.length_cons, ih r]
theorem RelAll.append (h : RelAll X G vs ds) (k : RelAll X G ws es) : RelAll X G (vs ++ ws) (ds ++ es) := by
  induction vs generalizing ds with
  | nil => cases h; exact k
  | cons v vs ih => cases h with | cons h r => exact .cons h (ih r)
theorem RelAll.one (h : Rel X G v d) : RelAll X G [v] [d] := .cons h .nil
theorem RelAll.get (h : RelAll X G vs ds) {k : Nat} {d : D} (hk : ds[k]? = some d) : ∃ v, vs[k]? = some v ∧ Rel X G v d := by
  induction vs generalizing ds k with
  | nil => cases h; simp at hk
  | cons v vs ih =>
    cases h with
    | cons h r =>
      cases k with
      | zero => simp at hk; subst hk; exact ⟨v, rfl, h⟩
      | succ k => simp at hk; exact ih r hk
theorem RelAll.get' (h : RelAll X G vs ds) {k : Nat} {v : Value} (hk : vs[k]? = some v) : ∃ d, ds[k]? = some d ∧ Rel X G v d := by
  induction vs generalizing ds k with
  | nil => simp at hk
  | cons u vs ih =>
    cases h with
    | cons h r =>
      cases k with
      | zero => simp at hk; subst hk; exact ⟨_, rfl, h⟩
      | succ k => simp at hk; exact ih r hk
theorem RelAll.take (h : RelAll X G vs ds) (n : Nat) : RelAll X G (vs.take n) (ds.take n) := by
  induction vs generalizing ds n with
  | nil => cases h; simp; exact .nil
  | cons v vs ih => cases h with | cons h r => cases n with
    | zero => exact .nil
    | succ n => exact .cons h (ih r n)
end
section
variable {X : Wd} {G : Fz} {v : Value} {d : D} {vs ws : List (Str × Value)} {ds es : List (Str × D)}
theorem RelKv.length (h : RelKv X G vs ds) : vs.length = ds.length := by
  induction vs generalizing ds with
  | nil => cases h; rfl
  | cons v vs ih => cases h with | cons _ r => rw [List.length_cons, List.length_cons, ih r]
theorem RelKv.append (h : RelKv X G vs ds) (k : RelKv X G ws es) : RelKv X G (vs ++ ws) (ds ++ es) := by
  induction vs generalizing ds with
  | nil => cases h; exact k
  | cons v vs ih => cases h with | cons h r => exact .cons h (ih r)
theorem RelKv.get (h : RelKv X G vs ds) {k : Nat} {x : Str} {d : D} (hk : ds[k]? = some (x, d)) : ∃ v, vs[k]? = some (x, v) ∧ Rel X G v d := by
  induction vs generalizing ds k with
  | nil => cases h; simp at hk
  | cons v vs ih =>
    cases h with
    | cons h r =>
      cases k with
      | zero => simp at hk; obtain ⟨rfl, rfl⟩ := hk; exact ⟨_, rfl, h⟩
      | succ k => simp at hk; exact ih r hk
theorem RelKv.vals (h : RelKv X G vs ds) : RelAll X G (vs.map (·.2)) (ds.map (·.2)) := by
  induction vs generalizing ds with
  | nil => cases h; exact .nil
  | cons v vs ih => cases h with | cons h r => exact .cons h (ih r)
end

/-! ## slots and frames -/
inductive Slot where
  | val (d : D)
  | odict (kvs : List (Str × D))
  | olist (ds : List D)
noncomputable def Slot.own : Slot → Bool
  | .val _ => false
  | _ => true
noncomputable abbrev AEnv := List (Str × Slot)

noncomputable def NameIs (env : Env) (m : Str → Option Value) (h : Heap) (x : Str) (v : Value) : Prop :=
  (env.kindOf x = some .local ∧ m x = some v) ∨
  ((env.kindOf x = some .cell ∨ env.kindOf x = some .free) ∧ ∃ c, env.cells.lookup x = some c ∧ h.IsCell c (some v))

noncomputable def SlotIs (X : Wd) (G : Fz) (h : Heap) (B : Fz) (L : Addr) (v : Value) : Slot → Prop
  | .val d => Rel X G v d
  | .odict kds => ∃ a o kvs, v = .ref a ∧ h.get? a = some o ∧ DicO X o kvs ∧ RelKv X G kvs kds ∧ G a = none ∧ B a = none ∧ a ≠ L ∧ (a == sysModules) = false
  | .olist ds => ∃ a o vs, v = .ref a ∧ h.get? a = some o ∧ LstO o vs ∧ RelAll X G vs ds ∧ G a = none ∧ B a = none ∧ a ≠ L

structure FI (X : Wd) (oc : List Str) (env : Env) (ρ : AEnv) (B : Fz) (G : Fz) (h : Heap) : Prop where
  tp : ∃ h₁, X.Tp h₁ ∧ ∀ b o, h₁.get? b = some o → ¬ Tab o → B b = some o
  tb : X.Tb h
  cd : ∃ c P, env.code = .ref c ∧ X.ct c P
  keep : B.In h
  hold : G.In h
  gL : G env.locals = none
  bL : B env.locals = none
  ocs : ∀ x ∈ oc, env.kindOf x = some .cell ∧ ∃ c, env.cells.lookup x = some c ∧ G c = none ∧ B c = none ∧ ∃ v, h.IsCell c v
  ocinj : ∀ x ∈ oc, ∀ y ∈ oc, ∀ c, env.cells.lookup x = some c → env.cells.lookup y = some c → x = y
  fc : ∀ x c, x ∉ oc → env.cells.lookup x = some c → ∃ o, B c = some o
  vals : ∃ m, h.Ns env.locals m ∧ ∃ V : Str → Value,
    (∀ x sl, ρ.lookup x = some sl → NameIs env m h x (V x) ∧ SlotIs X G h B env.locals (V x) sl) ∧
    (∀ x y sx sy a, ρ.lookup x = some sx → ρ.lookup y = some sy → sx.own = true → sy.own = true → V x = .ref a → V y = .ref a → x = y)

/-- a step of an expression: the heap is kept -/
structure Stp (X : Wd) (s s' : Shared) : Prop where
  heap : Kp X s.heap s'.heap
  gens : AllBare s.gens → AllBare s'.gens
  drawn : s'.drawn = s.drawn
  os : s'.os = s.os
theorem Stp.refl {s : Shared} : Stp X s s := ⟨.refl, id, rfl, rfl⟩
theorem Stp.trans {s s' s'' : Shared} (x : Stp X s s') (y : Stp X s' s'') : Stp X s s'' := ⟨x.heap.trans y.heap, fun g => y.gens (x.gens g), y.drawn.trans x.drawn, y.os.trans x.os⟩
theorem Stp.toks {s : Shared} {t : Nat} : Stp X s { s with toks := t } := ⟨.refl, id, rfl, rfl⟩
theorem Stp.of_heap {s : Shared} {h : Heap} {t : Nat} (hk : ∀ b o, s.heap.get? b = some o → h.get? b = some o) : Stp X s { s with heap := h, toks := t } := ⟨.of hk, id, rfl, rfl⟩
theorem Stp.push {s : Shared} {o : Obj} {t : Nat} : Stp X s { s with heap := s.heap.push o, toks := t } := .of_heap fun _ _ e => Heap.get?_push_of_some _ e

/-- the frozen part grows by new objects alone -/
structure Fz.Grow (G : Fz) (h : Heap) (G' : Fz) (h' : Heap) : Prop where
  le : G.Le G'
  hold : G'.In h'
  old : ∀ a o, h.get? a = some o → G' a = G a
theorem Fz.Grow.refl {G : Fz} {h : Heap} (x : G.In h) : G.Grow h G h := ⟨.refl, x, fun _ _ _ => rfl⟩
theorem Fz.Grow.same {G : Fz} {h h' : Heap} (x : G.In h) (hk : Kp X h h') : G.Grow h G h' := ⟨.refl, x.kp hk, fun _ _ _ => rfl⟩
theorem Fz.Grow.trans {G G' G'' : Fz} {h h' h'' : Heap} (x : G.Grow h G' h') (hk : Kp X h h') (y : G'.Grow h' G'' h'') : G.Grow h G'' h'' :=
  ⟨x.le.trans y.le, y.hold, fun a o e => let ⟨o', e'⟩ := hk.some e; (y.old a o' e').trans (x.old a o e)⟩

/-- one object more is frozen -/
noncomputable def Fz.put (G : Fz) (a : Addr) (o : Obj) : Fz := fun b => if b = a then some o else G b
theorem Fz.put_self {G : Fz} {a : Addr} {o : Obj} : G.put a o a = some o := by simp [Fz.put]
theorem Fz.put_ne {G : Fz} {a b : Addr} {o : Obj} (h : b ≠ a) : G.put a o b = G b := by simp [Fz.put, h]
theorem Fz.put_le {G : Fz} {a : Addr} {o : Obj} (h : G a = Option.none) : G.Le (G.put a o) := fun b o' e => by
  by_cases hb : b = a
  · subst hb; rw [h] at e; cases e
  · rw [Fz.put_ne hb]; exact e
theorem Fz.put_in {G : Fz} {h : Heap} {a : Addr} {o : Obj} (x : G.In h) (e : h.get? a = some o) (hn : ¬ Tab o) : (G.put a o).In h := by
  refine ⟨fun b o' e' => ?_, fun b o' e' => ?_⟩
  · by_cases hb : b = a
    · subst hb; rw [Fz.put_self] at e'; cases e'; exact e
    · rw [Fz.put_ne hb] at e'; exact x.get b o' e'
  · by_cases hb : b = a
    · subst hb; rw [Fz.put_self] at e'; cases e'; exact hn
    · rw [Fz.put_ne hb] at e'; exact x.nt b o' e'
theorem Fz.none_of {G : Fz} {h : Heap} {a : Addr} (x : G.In h) (e : h.get? a = Option.none) : G a = Option.none := by
  cases q : G a with
  | none => rfl
  | some o => rw [x.get a o q] at e; cases e
theorem get?_size (h : Heap) : h.get? h.objs.size = none := by
  cases q : h.get? h.objs.size with
  | none => rfl
  | some o => exact absurd (Heap.lt_size q) (Nat.lt_irrefl _)
theorem Fz.Grow.put {G : Fz} {h h' : Heap} {a : Addr} {o : Obj} (x : G.In h) (hk : Kp X h h') (hn : h.get? a = Option.none) (e : h'.get? a = some o) (nt : ¬ Tab o := by exact nt_cls rfl) : G.Grow h (G.put a o) h' :=
  ⟨Fz.put_le (Fz.none_of x hn), Fz.put_in (x.kp hk) e nt, fun b o' e' => Fz.put_ne fun q => by subst q; rw [hn] at e'; cases e'⟩

theorem NameIs.keeps {env : Env} {m : Str → Option Value} {h h' : Heap} {x : Str} {v : Value} (hk : Kp X h h') : NameIs env m h x v → NameIs env m h' x v
  | .inl a => .inl a
  | .inr ⟨a, c, b, e⟩ => .inr ⟨a, c, b, IsCell_kp e hk⟩

theorem DicO.nt {X : Wd} {o : Obj} {kvs : List (Str × Value)} (x : DicO X o kvs) : ¬ Tab o := by obtain ⟨_, _, _, d, _⟩ := x; exact nt_dict d
theorem LstO.nt {o : Obj} {vs : List Value} (x : LstO o vs) : ¬ Tab o := by obtain ⟨_, e⟩ := x; exact nt_cls (n := "list") (by rw [e])
theorem TupO.nt {o : Obj} {vs : List Value} (x : TupO o vs) : ¬ Tab o := nt_cls x.1
theorem SlotIs.grow {X : Wd} {G G' : Fz} {B : Fz} {h h' : Heap} {L : Addr} {v : Value} {sl : Slot} (hk : Kp X h h') (g : G.Grow h G' h') (x : SlotIs X G h B L v sl) : SlotIs X G' h' B L v sl := by
  cases sl with
  | val d => exact Rel.mono g.le x
  | odict kvs => obtain ⟨a, o, kv, e, ho, hd, hr, hg, hb, hl⟩ := x; exact ⟨a, o, kv, e, hk.get _ _ ho hd.nt, hd, RelKv.mono g.le hr, (g.old a o ho).trans hg, hb, hl⟩
  | olist ds => obtain ⟨a, o, kv, e, ho, hd, hr, hg, hb, hl⟩ := x; exact ⟨a, o, kv, e, hk.get _ _ ho hd.nt, hd, RelAll.mono g.le hr, (g.old a o ho).trans hg, hb, hl⟩

theorem FI.grow {X : Wd} {oc : List Str} {env : Env} {ρ : AEnv} {h h' : Heap} {B G G' : Fz} (F : FI X oc env ρ B G h) (hk : Kp X h h') (g : G.Grow h G' h') : FI X oc env ρ B G' h' where
  tp := F.tp
  tb := F.tb.keeps hk
  cd := F.cd
  keep := F.keep.kp hk
  hold := g.hold
  gL := by obtain ⟨m, ⟨o, _, _, hL, _⟩, _⟩ := F.vals; exact (g.old _ o hL).trans F.gL
  bL := F.bL
  ocs := fun x hx => by
    obtain ⟨k, c, e, hg, hb, v, o, ho, hd⟩ := F.ocs x hx
    exact ⟨k, c, e, (g.old c o ho).trans hg, hb, v, o, hk.get _ _ ho (nt_cell hd), hd⟩
  ocinj := F.ocinj
  fc := F.fc
  vals := by
    obtain ⟨m, hm, V, h1, h2⟩ := F.vals
    exact ⟨m, Ns_kp hm hk, V, fun x sl e => ⟨(h1 x sl e).1.keeps hk, (h1 x sl e).2.grow hk g⟩, h2⟩

/-- fewer names -/
noncomputable def AEnv.Sub (ρ' ρ : AEnv) : Prop := ∀ x sl, ρ'.lookup x = some sl → ρ.lookup x = some sl
theorem FI.sub {X : Wd} {oc : List Str} {env : Env} {ρ ρ' : AEnv} {h : Heap} {B G : Fz} (F : FI X oc env ρ B G h) (hs : AEnv.Sub ρ' ρ) : FI X oc env ρ' B G h :=
  ⟨F.tp, F.tb, F.cd, F.keep, F.hold, F.gL, F.bL, F.ocs, F.ocinj, F.fc, by obtain ⟨m, hm, V, h1, h2⟩ := F.vals; exact ⟨m, hm, V, fun x sl e => h1 x sl (hs x sl e), fun x y sx sy a ex ey => h2 x y sx sy a (hs _ _ ex) (hs _ _ ey)⟩⟩

theorem FI.tph {X : Wd} {oc : List Str} {env : Env} {ρ : AEnv} {h : Heap} {B G : Fz} (F : FI X oc env ρ B G h) : X.Tp h := let ⟨_, T, k⟩ := F.tp; T.build (fun b o e n => F.keep.get b o (k b o e n)) F.tb

/-! ## the judgements -/
structure Rm (k : Nat) (A : Around) : Prop where
  hd : A.handled = none
  dp : A.depth + k < recursionLimit
  un : A.units + 40 * k + 40 < cLine
theorem Rm.le {k k' : Nat} {A : Around} (x : Rm k A) (h : k' ≤ k) : Rm k' A := ⟨x.hd, by have := x.dp; omega, by have := x.un; omega⟩

structure EnvOk (sc : Scope) (env : Env) : Prop where
  is : env.scope = sc
  fn : sc.kind = .function
  gl : env.globals = mainGlobals
  bi : env.builtins = builtinsNs

structure Cx where
  X : Wd
  k : Nat
  sc : Scope
  oc : List Str

/-- the tree gives a value that stands for d; the heap is kept -/
noncomputable def Gv (X : Wd) (A : Around) (G : Fz) (s : Shared) (t : Sem Value) (d : D) : Prop :=
  ∀ (Q : Value → Shared → Prop), (∀ v s' G', Stp X s s' → G.Grow s.heap G' s'.heap → Rel X G' v d → Q v s') → wpAny X.M A t Q NoE s
noncomputable def Gvs (X : Wd) (A : Around) (G : Fz) (s : Shared) (t : Sem (List Value)) (ds : List D) : Prop :=
  ∀ (Q : List Value → Shared → Prop), (∀ vs s' G', Stp X s s' → G.Grow s.heap G' s'.heap → RelAll X G' vs ds → Q vs s') → wpAny X.M A t Q NoE s
noncomputable def GvB (X : Wd) (A : Around) (G : Fz) (s : Shared) (t : Sem Bool) (b : Bool) : Prop :=
  ∀ (Q : Bool → Shared → Prop), (∀ s' G', Stp X s s' → G.Grow s.heap G' s'.heap → Q b s') → wpAny X.M A t Q NoE s

noncomputable def Ev (c : Cx) (ρ : AEnv) (e : PySem.Expr) (d : D) : Prop :=
  ∀ (env : Env) (A : Around) (B : Fz) (G : Fz) (s : Shared), EnvOk c.sc env → Rm c.k A → FI c.X c.oc env ρ B G s.heap → Gv c.X A G s (eval e env) d

noncomputable def Evs (c : Cx) (ρ : AEnv) (es : List PySem.Expr) (ds : List D) : Prop :=
  ∀ (env : Env) (A : Around) (B : Fz) (G : Fz) (s : Shared) (pos : Pos), EnvOk c.sc env → Rm c.k A → FI c.X c.oc env ρ B G s.heap → Gvs c.X A G s (spliced (backTo pos (starEach es env))) ds

noncomputable def Tst (c : Cx) (ρ : AEnv) (e : PySem.Expr) (b : Bool) : Prop :=
  ∀ (env : Env) (A : Around) (B : Fz) (G : Fz) (s : Shared), EnvOk c.sc env → Rm c.k A → FI c.X c.oc env ρ B G s.heap → GvB c.X A G s (isTrue e env (eval e env)) b

/-- an operation upon values -/
noncomputable def Op1 (X : Wd) (k : Nat) (t : Value → Sem Value) (d₁ d : D) : Prop :=
  ∀ (A : Around) (G : Fz) (s : Shared) (v₁ : Value), Rm k A → X.Tp s.heap → G.In s.heap → Rel X G v₁ d₁ → Gv X A G s (t v₁) d
noncomputable def Op2 (X : Wd) (k : Nat) (t : Value → Value → Sem Value) (d₁ d₂ d : D) : Prop :=
  ∀ (A : Around) (G : Fz) (s : Shared) (v₁ v₂ : Value), Rm k A → X.Tp s.heap → G.In s.heap → Rel X G v₁ d₁ → Rel X G v₂ d₂ → Gv X A G s (t v₁ v₂) d
noncomputable def OpN (X : Wd) (k : Nat) (t : List Value → Sem Value) (ds : List D) (d : D) : Prop :=
  ∀ (A : Around) (G : Fz) (s : Shared) (vs : List Value), Rm k A → X.Tp s.heap → G.In s.heap → RelAll X G vs ds → Gv X A G s (t vs) d

/-- a call of a global def of the text -/
noncomputable def Cal (X : Wd) (k : Nat) (f : Str) (ds : List D) (d : D) : Prop :=
  (∃ r ∈ recsOf X.p, r.name = f) ∧ ∀ fa, X.mg f = some (.ref fa) → OpN X k (fun vs => call (.ref fa) vs) ds d

inductive Out where
  | next (ρ : AEnv)
  | ret (d : D)

/-- a step of statements: the base is kept -/
structure SStp (X : Wd) (s s' : Shared) : Prop where
  tabs : TG X s.heap s'.heap
  gens : AllBare s.gens → AllBare s'.gens
  drawn : s'.drawn = s.drawn
  os : s'.os = s.os
theorem SStp.refl {s : Shared} : SStp X s s := ⟨.refl, id, rfl, rfl⟩
theorem SStp.trans {s s' s'' : Shared} (x : SStp X s s') (y : SStp X s' s'') : SStp X s s'' := ⟨x.tabs.trans y.tabs, fun g => y.gens (x.gens g), y.drawn.trans x.drawn, y.os.trans x.os⟩
theorem Stp.s {s s' : Shared} (x : Stp X s s') : SStp X s s' := ⟨x.heap.tab, x.gens, x.drawn, x.os⟩
theorem SStp.of {s : Shared} {h : Heap} {t : Nat} (ht : TG X s.heap h) : SStp X s { s with heap := h, toks := t } := ⟨ht, id, rfl, rfl⟩

structure Fz.GrowB (G : Fz) (B : Fz) (G' : Fz) : Prop where
  le : G.Le G'
  old : ∀ a o, B a = some o → G' a = G a
theorem Fz.GrowB.refl {G B : Fz} : G.GrowB B G := ⟨.refl, fun _ _ _ => rfl⟩
theorem Fz.GrowB.trans {G G' G'' B : Fz} (x : G.GrowB B G') (y : G'.GrowB B G'') : G.GrowB B G'' := ⟨x.le.trans y.le, fun a o e => (y.old a o e).trans (x.old a o e)⟩
theorem Fz.Grow.b {G G' B : Fz} {h h' : Heap} (x : G.Grow h G' h') (hk : B.In h) : G.GrowB B G' := ⟨x.le, fun a o e => x.old a o (hk.get a o e)⟩

/-- where statements end -/
noncomputable def Ends (c : Cx) (env : Env) (B : Fz) (G : Fz) (s : Shared) (o : Out) (Q : Flow → Shared → Prop) : Prop :=
  match o with
  | .next ρ' => ∀ s' G', SStp c.X s s' → G.GrowB B G' → FI c.X c.oc env ρ' B G' s'.heap → Q .next s'
  | .ret d => ∀ v s' G', SStp c.X s s' → G.GrowB B G' → G'.In s'.heap → B.In s'.heap → Rel c.X G' v d → Q (.ret v) s'

noncomputable def Does (c : Cx) (ρ : AEnv) (ss : List Stmt) (o : Out) : Prop :=
  ∀ (env : Env) (A : Around) (B : Fz) (G : Fz) (s : Shared) (Q : Flow → Shared → Prop), EnvOk c.sc env → Rm c.k A → FI c.X c.oc env ρ B G s.heap →
    Ends c env B G s o Q → wpAny c.X.M A (execs ss env) Q NoE s

noncomputable def Do1 (c : Cx) (ρ : AEnv) (st : Stmt) (o : Out) : Prop :=
  ∀ (env : Env) (A : Around) (B : Fz) (G : Fz) (s : Shared) (Q : Flow → Shared → Prop), EnvOk c.sc env → Rm c.k A → FI c.X c.oc env ρ B G s.heap →
    Ends c env B G s o Q → wpAny c.X.M A (exec st env) Q NoE s

/-- storing into a target (a name, a tuple of names) -/
noncomputable def Asg (c : Cx) (ρ : AEnv) (t : PySem.Expr) (d : D) (ρ' : AEnv) : Prop :=
  ∀ (env : Env) (A : Around) (B : Fz) (G : Fz) (s : Shared) (v : Value) (Q : Unit → Shared → Prop), EnvOk c.sc env → Rm c.k A → FI c.X c.oc env ρ B G s.heap → Rel c.X G v d →
    (∀ s' G', SStp c.X s s' → G.GrowB B G' → FI c.X c.oc env ρ' B G' s'.heap → Q () s') → wpAny c.X.M A (assign t env v) Q NoE s
end Mine
end

section
set_option linter.unusedVariables false
namespace Mine

section
variable {c : Cx} {ρ : AEnv}

theorem Gv.pure' {X : Wd} {A : Around} {G : Fz} {s : Shared} {t : Sem Value} {v : Value} {d : D} (hG : G.In s.heap) (hr : Rel X G v d) (h : ∀ Q : Value → Shared → Prop, Q v s → wpAny X.M A t Q NoE s) : Gv X A G s t d :=
  fun Q hq => h Q (hq v s G .refl (.refl hG) hr)
theorem Gv.toks {X : Wd} {A : Around} {G : Fz} {s : Shared} {t : Sem Value} {d : D} (hG : G.In s.heap) (h : ∀ Q : Value → Shared → Prop, (∀ v n, Rel X G v d → Q v { s with toks := n }) → wpAny X.M A t Q NoE s) : Gv X A G s t d :=
  fun Q hq => h Q fun v n hr => hq v _ G .toks (.refl hG) hr

/-- first one tree, then another -/
theorem Gv.bind {X : Wd} {A : Around} {G : Fz} {s : Shared} {t : Sem Value} {u : Value → Sem Value} {d₁ d : D} {Q : Value → Shared → Prop} (hq : ∀ v s' G', Stp X s s' → G.Grow s.heap G' s'.heap → Rel X G' v d → Q v s') (h₁ : Gv X A G s t d₁)
    (h₂ : ∀ v s' G', Stp X s s' → G.Grow s.heap G' s'.heap → Rel X G' v d₁ → Gv X A G' s' (u v) d) :
    wpAny X.M A t (fun v s' => wpAny X.M A (u v) Q NoE s') NoE s :=
  h₁ _ fun v s' G' st g r => h₂ v s' G' st g r Q fun v' s'' G'' st' g' r' => hq v' s'' G'' (st.trans st') (g.trans st.heap g') r'

theorem EnvOk.k {sc : Scope} {env : Env} (he : EnvOk sc env) : env.scope.kind = .function := by rw [he.is]; exact he.fn
theorem EnvOk.kindOf {sc : Scope} {env : Env} (he : EnvOk sc env) (x : Str) : env.kindOf x = sc.names.lookup x := by rw [Env.kindOf, he.is]

theorem Ev.name {x : Str} {pos : Pos} {d : D} (h : ρ.lookup x = some (.val d)) (hd : (x == ("__debug__" : Str)) = false := by decide) (hcd : (x == ("__classdict__" : Str)) = false := by decide) : Ev c ρ (.Name x pos) d := by
  intro env A B G s he hr F
  obtain ⟨m, hm, V, h1, _⟩ := F.vals
  obtain ⟨hn, hs⟩ := h1 x _ h
  refine Gv.pure' F.hold hs fun Q q => ?_
  rcases hn with ⟨k, e⟩ | ⟨k | k, cc, hc, hv⟩
  · exact wpAny_Name (wpAny_loadName_local he.k k hm e q) hd
  · exact wpAny_Name (wpAny_loadName_cell he.k k hc hv q) hd
  · exact wpAny_Name (wpAny_loadName_free he.k k hc hv q hcd) hd

theorem Ev.int {i : Int} {k : Nat} {pos : Pos} : Ev c ρ (.Constant (.int i) k pos) (.int i) := fun env A B G s he hr F =>
  Gv.toks F.hold fun Q q => wpAny_Constant_int (q _ _ (.int _ _))
theorem Ev.str {x : Str} {k : Nat} {pos : Pos} : Ev c ρ (.Constant (.str x) k pos) (.str x) := fun env A B G s he hr F =>
  Gv.toks F.hold fun Q q => wpAny_Constant_str (q _ _ (.str _ _))
theorem Ev.bool {b : Bool} {k : Nat} {pos : Pos} : Ev c ρ (.Constant (.bool b) k pos) (.bool b) := fun env A B G s he hr F =>
  Gv.pure' F.hold (.bool b) fun Q q => wpAny_Constant_bool q

/-- no starred argument -/
noncomputable def notStar : PySem.Expr → Bool
  | .Starred .. => false
  | _ => true
theorem star_of {e : PySem.Expr} {es : List PySem.Expr} {env : Env} (h : notStar e = true) : starEach (e :: es) env = (false, eval e env) :: starEach es env := by
  cases e <;> first | rfl | cases h
theorem star_all {env : Env} : ∀ {es : List PySem.Expr}, es.all notStar = true → starEach es env = es.map fun e => (false, eval e env)
  | [], _ => rfl
  | e :: es, h => by
    rw [List.all_cons, Bool.and_eq_true] at h
    rw [star_of h.1, star_all h.2]; rfl

theorem Evs.nil : Evs c ρ [] [] := fun env A B G s pos he hr F Q hq => wpAny_items_nil (hq [] s G .refl (.refl F.hold) .nil)
theorem Evs.cons {e : PySem.Expr} {es : List PySem.Expr} {d : D} {ds : List D} (h : Ev c ρ e d) (hs : Evs c ρ es ds) (hst : ∀ env, starEach (e :: es) env = (false, eval e env) :: starEach es env := by intro _; exact star_of rfl) : Evs c ρ (e :: es) (d :: ds) :=
  fun env A B G s pos he hr F Q hq => wpAny_items_cons (h env A B G s he hr F _ fun v s₁ G₁ st₁ g₁ r₁ =>
    hs env A B G₁ s₁ pos he hr (F.grow st₁.heap g₁) _ fun vs s₂ G₂ st₂ g₂ r₂ => hq _ s₂ G₂ (st₁.trans st₂) (g₁.trans st₁.heap g₂) (.cons (Rel.mono g₂.le r₁) r₂)) (hst env)

theorem Ev.tuple {es : List PySem.Expr} {ds : List D} {k : Nat} {pos : Pos} (h : Evs c ρ es ds) (hl : ds.length ≤ 1000 := by decide) : Ev c ρ (.Tuple es k pos) (.tuple ds) :=
  fun env A B G s he hr F Q hq => wpAny_Tuple (h env A B G s pos he hr F _ fun vs s₁ G₁ st₁ g₁ r₁ => ⟨by rw [r₁.length, sizeLine_eq]; omega,
    hq _ _ (G₁.put s₁.heap.objs.size { cls := .type "tuple", data := .seq vs.toArray }) (st₁.trans .push)
      (g₁.trans st₁.heap (.put g₁.hold (.push (X := c.X)) (get?_size _) (Heap.get?_push_size _ rfl)))
      (.tuple Fz.put_self ⟨rfl, 0, rfl⟩ (RelAll.mono (Fz.put_le (Fz.none_of g₁.hold (get?_size _))) r₁))⟩)

theorem Ev.list {es : List PySem.Expr} {ds : List D} {pos : Pos} (h : Evs c ρ es ds) (hl : ds.length ≤ 1000 := by decide) : Ev c ρ (.List es pos) (.list ds) :=
  fun env A B G s he hr F Q hq => wpAny_List (h env A B G s pos he hr F _ fun vs s₁ G₁ st₁ g₁ r₁ => ⟨by rw [r₁.length, sizeLine_eq]; omega,
    hq _ _ (G₁.put s₁.heap.objs.size { cls := .type "list", data := .seq vs.toArray }) (st₁.trans .push)
      (g₁.trans st₁.heap (.put g₁.hold (.push (X := c.X)) (get?_size _) (Heap.get?_push_size _ rfl)))
      (.list Fz.put_self ⟨0, rfl⟩ (RelAll.mono (Fz.put_le (Fz.none_of g₁.hold (get?_size _))) r₁))⟩)

theorem Ev.binop {l r : PySem.Expr} {op : Operator} {pos : Pos} {d₁ d₂ d : D} (h₁ : Ev c ρ l d₁) (h₂ : Ev c ρ r d₂) (ho : Op2 c.X c.k (binaryOp op) d₁ d₂ d) : Ev c ρ (.BinOp l op r pos) d :=
  fun env A B G s he hr F Q hq => wpAny_BinOp (h₁ env A B G s he hr F _ fun v s₁ G₁ st₁ g₁ r₁ =>
    Gv.bind (fun v' s' G' st g r' => hq v' s' G' (st₁.trans st) (g₁.trans st₁.heap g) r') (h₂ env A B G₁ s₁ he hr (F.grow st₁.heap g₁)) fun v₂ s₂ G₂ st₂ g₂ r₂ =>
      ho A G₂ s₂ v v₂ hr (F.tph.keeps (st₁.trans st₂).heap) g₂.hold (Rel.mono g₂.le r₁) r₂)

theorem Ev.cmp {l r : PySem.Expr} {op : CmpOp} {pos : Pos} {d₁ d₂ d : D} (h₁ : Ev c ρ l d₁) (h₂ : Ev c ρ r d₂) (ho : Op2 c.X c.k (compareOp op) d₁ d₂ d) (hm : behindInMarks op r = false := by with_unfolding_all rfl) : Ev c ρ (.Compare l [op] [r] pos) d :=
  fun env A B G s he hr F Q hq => wpAny_Compare1 (h₁ env A B G s he hr F _ fun v s₁ G₁ st₁ g₁ r₁ =>
    Gv.bind (fun v' s' G' st g r' => hq v' s' G' (st₁.trans st) (g₁.trans st₁.heap g) r') (h₂ env A B G₁ s₁ he hr (F.grow st₁.heap g₁)) fun v₂ s₂ G₂ st₂ g₂ r₂ =>
      ho A G₂ s₂ v v₂ hr (F.tph.keeps (st₁.trans st₂).heap) g₂.hold (Rel.mono g₂.le r₁) r₂) hm

theorem Tst.cmp {l r : PySem.Expr} {op : CmpOp} {pos : Pos} {d₁ d₂ : D} {b : Bool} (h₁ : Ev c ρ l d₁) (h₂ : Ev c ρ r d₂) (ho : Op2 c.X c.k (compareOp op) d₁ d₂ (.bool b)) (hm : behindInMarks op r = false := by with_unfolding_all rfl) : Tst c ρ (.Compare l [op] [r] pos) b :=
  fun env A B G s he hr F Q hq => wpAny_isTrue_Compare1 (h₁ env A B G s he hr F _ fun v s₁ G₁ st₁ g₁ r₁ =>
    h₂ env A B G₁ s₁ he hr (F.grow st₁.heap g₁) _ fun v₂ s₂ G₂ st₂ g₂ r₂ =>
      ho A G₂ s₂ v v₂ hr (F.tph.keeps (st₁.trans st₂).heap) g₂.hold (Rel.mono g₂.le r₁) r₂ _ fun v₃ s₃ G₃ st₃ g₃ r₃ => by
        cases r₃
        exact wpAny_truthy_bool (hq s₃ G₃ ((st₁.trans st₂).trans st₃) ((g₁.trans st₁.heap g₂).trans (st₁.trans st₂).heap g₃))) hm

/-- a test that is a plain value, a bool -/
theorem Tst.bool {e : PySem.Expr} {b : Bool} (h : Ev c ρ e (.bool b)) (he' : ∀ env whole, isTrue e env whole = (do let v ← whole; standAt e.pos; holding [v] (truthy v)) := by intro _ _; rfl) : Tst c ρ e b :=
  fun env A B G s he hr F Q hq => wpAny_isTrue_value (h env A B G s he hr F _ fun v s₁ G₁ st₁ g₁ r₁ => by cases r₁; exact wpAny_truthy_bool (hq s₁ G₁ st₁ g₁)) (he' env _)

theorem Tst.and2 {x y : PySem.Expr} {pos : Pos} {a b : Bool} (h₁ : Tst c ρ x a) (h₂ : a = true → Tst c ρ y b) : Tst c ρ (.BoolOp .And [x, y] pos) (a && b) :=
  fun env A B G s he hr F Q hq => wpAny_isTrue_BoolOp (wpAny_allTrue_And_cons (h₁ env A B G s he hr F _ fun s₁ G₁ st₁ g₁ => by
    cases a with
    | false => exact hq s₁ G₁ st₁ g₁
    | true => exact wpAny_allTrue_And_cons (h₂ rfl env A B G₁ s₁ he hr (F.grow st₁.heap g₁) _ fun s₂ G₂ st₂ g₂ => by
        have q := hq s₂ G₂ (st₁.trans st₂) (g₁.trans st₁.heap g₂)
        cases b with
        | false => exact q
        | true => exact wpAny_allTrue_And_nil q)))
theorem Tst.or2 {x y : PySem.Expr} {pos : Pos} {a b : Bool} (h₁ : Tst c ρ x a) (h₂ : a = false → Tst c ρ y b) : Tst c ρ (.BoolOp .Or [x, y] pos) (a || b) :=
  fun env A B G s he hr F Q hq => wpAny_isTrue_BoolOp (wpAny_allTrue_Or_cons (h₁ env A B G s he hr F _ fun s₁ G₁ st₁ g₁ => by
    cases a with
    | true => exact hq s₁ G₁ st₁ g₁
    | false => exact wpAny_allTrue_Or_cons (h₂ rfl env A B G₁ s₁ he hr (F.grow st₁.heap g₁) _ fun s₂ G₂ st₂ g₂ => by
        have q := hq s₂ G₂ (st₁.trans st₂) (g₁.trans st₁.heap g₂)
        cases b with
        | true => exact q
        | false => exact wpAny_allTrue_Or_nil q)))

theorem Ev.ifexp {t x y : PySem.Expr} {pos : Pos} {b : Bool} {d : D} (ht : Tst c ρ t b) (h₁ : b = true → Ev c ρ x d) (h₂ : b = false → Ev c ρ y d) : Ev c ρ (.IfExp t x y pos) d :=
  fun env A B G s he hr F Q hq => wpAny_IfExp (ht env A B G s he hr F _ fun s₁ G₁ st₁ g₁ => by
    cases b with
    | true => exact h₁ rfl env A B G₁ s₁ he hr (F.grow st₁.heap g₁) _ fun v s₂ G₂ st₂ g₂ r => hq v s₂ G₂ (st₁.trans st₂) (g₁.trans st₁.heap g₂) r
    | false => exact h₂ rfl env A B G₁ s₁ he hr (F.grow st₁.heap g₁) _ fun v s₂ G₂ st₂ g₂ r => hq v s₂ G₂ (st₁.trans st₂) (g₁.trans st₁.heap g₂) r)

theorem Ev.unary {x : PySem.Expr} {op : UnaryOp} {pos : Pos} {d₁ d : D} (h₁ : Ev c ρ x d₁) (ho : Op1 c.X c.k (unaryOp op) d₁ d) : Ev c ρ (.UnaryOp op x pos) d :=
  fun env A B G s he hr F Q hq => wpAny_UnaryOp (Gv.bind hq (h₁ env A B G s he hr F) fun v s₁ G₁ st₁ g₁ r₁ => ho A G₁ s₁ v hr (F.tph.keeps st₁.heap) g₁.hold r₁)

/-! ### names of the top -/
theorem loadGlobalK {env : Env} {A : Around} {s : Shared} {x : Str} {v : Value} {Q : Value → Shared → Prop} {X : Wd} {sc : Scope} (he : EnvOk sc env) (T : X.Tp s.heap) (hx : X.mg x = some v) (q : Q v s) : wpAny X.M A (loadGlobal env x) Q NoE s :=
  Calls.loadGlobal_global (by rw [he.gl]; exact T.g) hx q
theorem loadGlobalB {env : Env} {A : Around} {s : Shared} {x : Str} {v : Value} {Q : Value → Shared → Prop} {X : Wd} {sc : Scope} (he : EnvOk sc env) (T : X.Tp s.heap) (hx : X.mg x = none) (hb : X.mb x = some v) (q : Q v s) : wpAny X.M A (loadGlobal env x) Q NoE s :=
  Calls.loadGlobal_builtin (by rw [he.gl]; exact T.g) hx (by rw [he.bi]; exact T.b) hb q

theorem evalArgs_of {A : Around} {X : Wd} {s : Shared} {f : Value} {es : List PySem.Expr} {env : Env} {pos : Pos} {Q : Args → Shared → Prop} (hst : starEach es env = es.map fun e => (false, eval e env)) (h : wpAny X.M A (spliced (backTo pos (starEach es env))) (fun vs s' => Q ⟨vs, []⟩ s') NoE s) :
    wpAny X.M A (evalArgs f true (backTo pos (starEach es env)) []) Q NoE s := by
  cases es with
  | nil =>
    rw [hst] at h ⊢
    unfold evalArgs
    show wpAny X.M A (spliced [] >>= _) Q NoE s
    refine wpAny_bind (wpAny_mono h (fun vs s' h' => ?_) fun _ _ x => x)
    exact wpAny_holding (wpAny_bind (wpAny_pure (wpAny_bind (wpAny_pure (wpAny_pure h')))))
  | cons e r =>
    rw [hst] at h ⊢
    exact Calls.evalArgs_plain h

theorem plain_any {es : List PySem.Expr} {env : Env} {pos : Pos} (hst : starEach es env = es.map fun e => (false, eval e env)) : (backTo pos (starEach es env)).any (·.1) = false := by
  rw [hst]; simp [backTo]

/-- f(..) of a def of the text -/
theorem Ev.call {f : Str} {es : List PySem.Expr} {fpos pos : Pos} {ds : List D} {d : D} (hs : Evs c ρ es ds) (ho : Cal c.X c.k f ds d) (hf : c.sc.names.lookup f = some .globalImplicit := by rfl)
    (hst : ∀ env, starEach es env = es.map fun e => (false, eval e env) := by intro _; exact star_all rfl) (hd : (f == ("__debug__" : Str)) = false := by decide) : Ev c ρ (.Call (.Name f fpos) es [] pos) d := by
  intro env A B G s he hr F Q hq
  obtain ⟨⟨rc, hrc, hrn⟩, ho⟩ := ho
  obtain ⟨fa, o, pm, code, doc, hfa, hfo, hfd, _, _⟩ := F.tph.fn rc hrc
  rw [hrn] at hfa
  replace ho := ho fa hfa
  show wpAny c.X.M A (eval (.Name f fpos) env >>= fun fv => callWith pos fv [] (backTo pos (starEach es env)) []) Q NoE s
  refine wpAny_bind (Calls.Name_function_global he.k (by rw [he.kindOf]; exact hf) (loadGlobalK he F.tph hfa ?_) hd)
  refine Calls.callWith_function (o := o) (evalArgs_of (hst env) (hs env A B G s pos he hr F _ fun vs s₁ G₁ st₁ g₁ r₁ => ⟨⟨st₁.heap.get _ _ hfo (nt_func hfd), hfd⟩, ?_⟩))
  exact ho A G₁ s₁ vs hr (F.tph.keeps st₁.heap) g₁.hold r₁ _ fun v s₂ G₂ st₂ g₂ r₂ => hq v s₂ G₂ (st₁.trans st₂) (g₁.trans st₁.heap g₂) r₂

/-- f(..) of a built-in function -/
theorem Ev.bcall {f : Str} {id : String} {es : List PySem.Expr} {fpos pos : Pos} {ds : List D} {d : D} (hf : c.sc.names.lookup f = some .globalImplicit) (hmg : c.X.mg f = none) (hmb : c.X.mb f = some (.builtin id)) (hs : Evs c ρ es ds)
    (ho : OpN c.X c.k (fun vs => PySem.call (.builtin id) vs) ds d)
    (hst : ∀ env, starEach es env = es.map fun e => (false, eval e env) := by intro _; exact star_all rfl) (hd : (f == ("__debug__" : Str)) = false := by decide) : Ev c ρ (.Call (.Name f fpos) es [] pos) d := by
  intro env A B G s he hr F Q hq
  show wpAny c.X.M A (eval (.Name f fpos) env >>= fun fv => callWith pos fv [] (backTo pos (starEach es env)) []) Q NoE s
  refine wpAny_bind (Calls.Name_function_global he.k (by rw [he.kindOf]; exact hf) (loadGlobalB he F.tph hmg hmb ?_) hd)
  refine Calls.callWith_builtin (plain_any (hst env)) (evalArgs_of (hst env) (hs env A B G s pos he hr F _ fun vs s₁ G₁ st₁ g₁ r₁ => ?_))
  exact ho A G₁ s₁ vs hr (F.tph.keeps st₁.heap) g₁.hold r₁ _ fun v s₂ G₂ st₂ g₂ r₂ => hq v s₂ G₂ (st₁.trans st₂) (g₁.trans st₁.heap g₂) r₂
end
end Mine
end

section
set_option linter.unusedVariables false
namespace Mine

/-! ## storing names -/
theorem lookup_cons_self {ρ : AEnv} {x : Str} {sl : Slot} : List.lookup x ((x, sl) :: ρ) = some sl := by simp
theorem lookup_cons_ne {ρ : AEnv} {x y : Str} {sl : Slot} (h : y ≠ x) : List.lookup y ((x, sl) :: ρ) = ρ.lookup y := by
  rw [List.lookup_cons]; have : (y == x) = false := by simpa using h
  rw [this]

theorem cell_ne_ns {h : Heap} {L c : Addr} {m : Str → Option Value} {v : Option Value} (hL : h.Ns L m) (hc : h.IsCell c v) : c ≠ L := by
  rintro rfl
  obtain ⟨o, es, ep, ho, hd, _⟩ := hL
  obtain ⟨o', ho', hd'⟩ := hc
  rw [ho] at ho'; cases ho'; rw [hd] at hd'; cases hd'
theorem cell_ne_dict {X : Wd} {h : Heap} {a c : Addr} {o : Obj} {v : Option Value} {kvs : List (Str × Value)} (ho : h.get? a = some o) (hd : DicO X o kvs) (hc : h.IsCell c v) : a ≠ c := by
  rintro rfl
  obtain ⟨o', ho', hd'⟩ := hc
  obtain ⟨_, es, ep, e, _⟩ := hd
  rw [ho] at ho'; cases ho'; rw [e] at hd'; cases hd'
theorem cell_ne_list {h : Heap} {a c : Addr} {o : Obj} {v : Option Value} {vs : List Value} (ho : h.get? a = some o) (hd : LstO o vs) (hc : h.IsCell c v) : a ≠ c := by
  rintro rfl
  obtain ⟨o', ho', hd'⟩ := hc
  obtain ⟨n, e⟩ := hd
  rw [ho] at ho'; cases ho'; rw [e] at hd'; cases hd'

/-- the slots stand where the heap is kept but at one place that is none of theirs -/
theorem SlotIs.but {X : Wd} {G B : Fz} {h h' : Heap} {L a : Addr} {v : Value} {sl : Slot} (x : SlotIs X G h B L v sl) (hs : ∀ b o, b ≠ a → h.get? b = some o → h'.get? b = some o)
    (hd : ∀ b o kvs, h.get? b = some o → DicO X o kvs → G b = none → B b = none → b ≠ L → sl.own = true → v = .ref b → b ≠ a) (hl : ∀ b o vs, h.get? b = some o → LstO o vs → G b = none → B b = none → b ≠ L → sl.own = true → v = .ref b → b ≠ a) : SlotIs X G h' B L v sl := by
  cases sl with
  | val d => exact x
  | odict kvs => obtain ⟨b, o, kv, e, ho, hd', hr, hg, hb, hL, hm⟩ := x; exact ⟨b, o, kv, e, hs b o (hd b o kv ho hd' hg hb hL rfl e) ho, hd', hr, hg, hb, hL, hm⟩
  | olist ds => obtain ⟨b, o, kv, e, ho, hd', hr, hg, hb, hL⟩ := x; exact ⟨b, o, kv, e, hs b o (hl b o kv ho hd' hg hb hL rfl e) ho, hd', hr, hg, hb, hL⟩

/-- a value is stored under a name; an owned one is apart from the others -/
theorem FI.store {X : Wd} {oc : List Str} {sc : Scope} {env : Env} {ρ : AEnv} {B G : Fz} {A : Around} {s : Shared} {x : Str} {v : Value} {sl : Slot} {Q : Unit → Shared → Prop} (he : EnvOk sc env)
    (F : FI X oc env ρ B G s.heap) (hx : sc.names.lookup x = some .local ∨ x ∈ oc) (hsl : SlotIs X G s.heap B env.locals v sl)
    (hsep : sl.own = true → ∃ h₁, FI X oc env ρ B G h₁ ∧ Kp X h₁ s.heap ∧ ∀ a, v = .ref a → h₁.get? a = none)
    (hq : ∀ s', SStp X s s' → FI X oc env ((x, sl) :: ρ) B G s'.heap → Q () s') : wpAny X.M A (storeName env x v) Q NoE s := by
  -- the values as they stand
  have hV : ∃ m, s.heap.Ns env.locals m ∧ ∃ V : Str → Value, (∀ y sy, ρ.lookup y = some sy → NameIs env m s.heap y (V y) ∧ SlotIs X G s.heap B env.locals (V y) sy) ∧
      (∀ y z sy sz a, ρ.lookup y = some sy → ρ.lookup z = some sz → sy.own = true → sz.own = true → V y = .ref a → V z = .ref a → y = z) ∧
      (sl.own = true → ∀ y sy a, ρ.lookup y = some sy → sy.own = true → V y = .ref a → v ≠ .ref a) := by
    cases ho : sl.own with
    | false =>
      obtain ⟨m, hm, V, h1, h2⟩ := F.vals
      exact ⟨m, hm, V, h1, h2, fun e => by cases e⟩
    | true =>
      obtain ⟨h₁, F₁, hk, hn⟩ := hsep ho
      obtain ⟨m, hm, V, h1, h2⟩ := F₁.vals
      refine ⟨m, Ns_kp hm hk, V, fun y sy e => ⟨(h1 y sy e).1.keeps hk, ?_⟩, h2, fun _ y sy a e eo ea q => ?_⟩
      · exact (h1 y sy e).2.grow hk (.same F₁.hold hk)
      · have := hn a q
        have h3 := (h1 y sy e).2
        rw [ea] at h3
        cases sy with
        | val d => cases eo
        | odict kvs => obtain ⟨b, o, kv, eb, hb, _⟩ := h3; cases eb; rw [this] at hb; cases hb
        | olist ds => obtain ⟨b, o, kv, eb, hb, _⟩ := h3; cases eb; rw [this] at hb; cases hb
  obtain ⟨m, hm, V, h1, h2, h3⟩ := hV
  have hsep' : ∀ y z sy sz a, List.lookup y ((x, sl) :: ρ) = some sy → List.lookup z ((x, sl) :: ρ) = some sz → sy.own = true → sz.own = true →
      (if y = x then v else V y) = .ref a → (if z = x then v else V z) = .ref a → y = z := by
    intro y z sy sz a ey ez oy oz vy vz
    by_cases hy : y = x
    · by_cases hz : z = x
      · rw [hy, hz]
      · subst hy
        rw [lookup_cons_self] at ey; cases ey
        rw [lookup_cons_ne hz] at ez
        rw [if_pos rfl] at vy
        rw [if_neg hz] at vz
        exact absurd vy (h3 oy z sz a ez oz vz)
    · by_cases hz : z = x
      · subst hz
        rw [lookup_cons_self] at ez; cases ez
        rw [lookup_cons_ne hy] at ey
        rw [if_pos rfl] at vz
        rw [if_neg hy] at vy
        exact absurd vz (h3 oz y sy a ey oy vy)
      · rw [lookup_cons_ne hy] at ey
        rw [lookup_cons_ne hz] at ez
        rw [if_neg hy] at vy
        rw [if_neg hz] at vz
        exact h2 y z sy sz a ey ez oy oz vy vz
  by_cases hxo : x ∈ oc
  · -- an own cell
    obtain ⟨hk, c, hc, hg, hb, v₀, hv₀⟩ := F.ocs x hxo
    refine wpAny_storeName_cell he.k hk hc hv₀ fun h' hc' hs' => ?_
    have htb : TG X s.heap h' := tabs_but (fun b o hb e => (hs'.2 b hb).trans e) fun o e => by obtain ⟨o', e', d'⟩ := hv₀; rw [e] at e'; cases e'; exact nt_cell d'
    refine hq _ ⟨htb, id, rfl, rfl⟩ ?_
    have hcL : c ≠ env.locals := cell_ne_ns hm hv₀
    have hs : ∀ b o, b ≠ c → s.heap.get? b = some o → h'.get? b = some o := fun b o hb e => (hs'.2 b hb).trans e
    exact {
      tp := F.tp
      tb := fun c P hc => htb.at (F.tb c P hc)
      cd := F.cd
      keep := ⟨fun b o e => hs b o (fun q => by subst q; rw [hb] at e; cases e) (F.keep.get b o e), F.keep.nt⟩
      hold := ⟨fun b o e => hs b o (fun q => by subst q; rw [hg] at e; cases e) (F.hold.get b o e), F.hold.nt⟩
      gL := F.gL
      bL := F.bL
      ocs := fun y hy => by
        obtain ⟨hk', c', e', g', b', v', hv'⟩ := F.ocs y hy
        by_cases hcc : c' = c
        · subst hcc; exact ⟨hk', c', e', g', b', _, hc'⟩
        · exact ⟨hk', c', e', g', b', v', hv'.sameBut hs' hcc⟩
      ocinj := F.ocinj
      fc := F.fc
      vals := by
        refine ⟨m, hm.sameBut hs' (Ne.symm hcL), fun y => if y = x then v else V y, fun y sy e => ?_, hsep'⟩
        by_cases hy : y = x
        · subst hy
          rw [lookup_cons_self] at e; cases e
          show NameIs env m h' y (if y = y then v else V y) ∧ SlotIs X G h' B env.locals (if y = y then v else V y) sl
          rw [if_pos rfl]
          exact ⟨.inr ⟨.inl hk, c, hc, hc'⟩, hsl.but hs (fun b o kvs ho hd _ _ _ _ _ => cell_ne_dict ho hd hv₀) (fun b o vs ho hd _ _ _ _ _ => cell_ne_list ho hd hv₀)⟩
        · rw [lookup_cons_ne hy] at e
          show NameIs env m h' y (if y = x then v else V y) ∧ SlotIs X G h' B env.locals (if y = x then v else V y) sy
          rw [if_neg hy]
          obtain ⟨hn, hsl'⟩ := h1 y sy e
          refine ⟨?_, hsl'.but hs (fun b o kvs ho hd _ _ _ _ _ => cell_ne_dict ho hd hv₀) (fun b o vs ho hd _ _ _ _ _ => cell_ne_list ho hd hv₀)⟩
          rcases hn with hl | ⟨hk', c', hc'', hv'⟩
          · exact .inl hl
          · refine .inr ⟨hk', c', hc'', hv'.sameBut hs' fun q => ?_⟩
            subst q
            by_cases hyo : y ∈ oc
            · exact hy (F.ocinj y hyo x hxo c' hc'' hc)
            · obtain ⟨o, ho⟩ := F.fc y c' hyo hc''
              rw [hb] at ho; cases ho }
  · -- a plain local
    have hl : sc.names.lookup x = some .local := hx.resolve_right hxo
    have hkx : env.kindOf x = some .local := by rw [he.kindOf]; exact hl
    refine wpAny_storeName_local hkx hm (fun h' hn' hs' => ?_) (by rw [he.k]; rfl)
    have htb : TG X s.heap h' := tabs_but (fun b o hb e => (hs'.2 b hb).trans e) fun o e => by obtain ⟨o', es', ep', e', d', _⟩ := hm; rw [e] at e'; cases e'; exact nt_dict d'
    refine hq _ (.of htb) ?_
    have hs : ∀ b o, b ≠ env.locals → s.heap.get? b = some o → h'.get? b = some o := fun b o hb e => (hs'.2 b hb).trans e
    exact {
      tp := F.tp
      tb := fun c P hc => htb.at (F.tb c P hc)
      cd := F.cd
      keep := ⟨fun b o e => hs b o (fun q => by subst q; rw [F.bL] at e; cases e) (F.keep.get b o e), F.keep.nt⟩
      hold := ⟨fun b o e => hs b o (fun q => by subst q; rw [F.gL] at e; cases e) (F.hold.get b o e), F.hold.nt⟩
      gL := F.gL
      bL := F.bL
      ocs := fun y hy => by
        obtain ⟨hk', c', e', g', b', v', hv'⟩ := F.ocs y hy
        exact ⟨hk', c', e', g', b', v', hv'.sameBut hs' (cell_ne_ns hm hv')⟩
      ocinj := F.ocinj
      fc := F.fc
      vals := by
        refine ⟨_, hn', fun y => if y = x then v else V y, fun y sy e => ?_, hsep'⟩
        by_cases hy : y = x
        · subst hy
          rw [lookup_cons_self] at e; cases e
          show NameIs env _ h' y (if y = y then v else V y) ∧ SlotIs X G h' B env.locals (if y = y then v else V y) sl
          rw [if_pos rfl]
          exact ⟨.inl ⟨hkx, if_pos rfl⟩, hsl.but hs (fun b o kvs ho hd _ _ hL _ _ => hL) (fun b o vs ho hd _ _ hL _ _ => hL)⟩
        · rw [lookup_cons_ne hy] at e
          show NameIs env _ h' y (if y = x then v else V y) ∧ SlotIs X G h' B env.locals (if y = x then v else V y) sy
          rw [if_neg hy]
          obtain ⟨hn, hsl'⟩ := h1 y sy e
          refine ⟨?_, hsl'.but hs (fun b o kvs ho hd _ _ hL _ _ => hL) (fun b o vs ho hd _ _ hL _ _ => hL)⟩
          rcases hn with ⟨hl', hm'⟩ | ⟨hk', c', hc'', hv'⟩
          · exact .inl ⟨hl', (if_neg hy).trans hm'⟩
          · exact .inr ⟨hk', c', hc'', hv'.sameBut hs' (cell_ne_ns hm hv')⟩ }

section
variable {c : Cx} {ρ ρ' : AEnv}

/-- a name may be stored here -/
noncomputable def Cx.sto (c : Cx) (x : Str) : Prop := c.sc.names.lookup x = some .local ∨ x ∈ c.oc

theorem Asg.name {x : Str} {pos : Pos} {d : D} (hx : c.sto x) : Asg c ρ (.Name x pos) d ((x, .val d) :: ρ) :=
  fun env A B G s v Q he hr F hv hq => wpAny_assign_Name (F.store he hx (sl := .val d) hv (fun e => by cases e) fun s' st F' => hq s' G st .refl F')

/-! ## statements -/
theorem Ends.mono {env : Env} {B G : Fz} {s : Shared} {o : Out} {Q Q' : Flow → Shared → Prop} (h : Ends c env B G s o Q) (hq : ∀ f s, Q f s → Q' f s) : Ends c env B G s o Q' := by
  cases o with
  | next ρ => exact fun s' G' a b d => hq _ _ (h s' G' a b d)
  | ret d => exact fun v s' G' a b d e f => hq _ _ (h v s' G' a b d e f)
/-- the same end seen from a state before -/
theorem Ends.back {env : Env} {B G G₁ : Fz} {s s₁ : Shared} {o : Out} {Q : Flow → Shared → Prop} (h : Ends c env B G s o Q) (st : SStp c.X s s₁) (g : G.GrowB B G₁) : Ends c env B G₁ s₁ o Q := by
  cases o with
  | next ρ => exact fun s' G' a b d => h s' G' (st.trans a) (g.trans b) d
  | ret d => exact fun v s' G' a b d e f => h v s' G' (st.trans a) (g.trans b) d e f

theorem Does.nil : Does c ρ [] (.next ρ) := fun env A B G s Q he hr F h => wpAny_execs_nil (h s G .refl .refl F)
theorem Does.cons {st : Stmt} {ss : List Stmt} {o : Out} (h₁ : Do1 c ρ st (.next ρ')) (h₂ : Does c ρ' ss o) : Does c ρ (st :: ss) o :=
  fun env A B G s Q he hr F h => wpAny_execs_cons (h₁ env A B G s _ he hr F fun s₁ G₁ st₁ g₁ F₁ => h₂ env A B G₁ s₁ Q he hr F₁ (h.back st₁ g₁))
theorem Does.ret {st : Stmt} {ss : List Stmt} {d : D} (h₁ : Do1 c ρ st (.ret d)) : Does c ρ (st :: ss) (.ret d) :=
  fun env A B G s Q he hr F h => wpAny_execs_cons (h₁ env A B G s _ he hr F fun v s₁ G₁ st₁ g₁ i₁ k₁ r₁ => h v s₁ G₁ st₁ g₁ i₁ k₁ r₁)
theorem Does.one {st : Stmt} {o : Out} (h₁ : Do1 c ρ st o) : Does c ρ [st] o := by
  cases o with
  | next ρ' => exact .cons h₁ .nil
  | ret d => exact .ret h₁
/-- fewer names ahead -/
theorem Does.sub {ss : List Stmt} {o : Out} (hs : AEnv.Sub ρ' ρ) (h : Does c ρ' ss o) : Does c ρ ss o := fun env A B G s Q he hr F k => h env A B G s Q he hr (F.sub hs) k
theorem Do1.sub {st : Stmt} {o : Out} (hs : AEnv.Sub ρ' ρ) (h : Do1 c ρ' st o) : Do1 c ρ st o := fun env A B G s Q he hr F k => h env A B G s Q he hr (F.sub hs) k
/-- fewer names behind -/
theorem Does.out {ss : List Stmt} {ρ₁ : AEnv} (h : Does c ρ ss (.next ρ')) (hs : AEnv.Sub ρ₁ ρ') : Does c ρ ss (.next ρ₁) := fun env A B G s Q he hr F k => h env A B G s Q he hr F fun s' G' a b F' => k s' G' a b (F'.sub hs)
theorem Do1.out {st : Stmt} {ρ₁ : AEnv} (h : Do1 c ρ st (.next ρ')) (hs : AEnv.Sub ρ₁ ρ') : Do1 c ρ st (.next ρ₁) := fun env A B G s Q he hr F k => h env A B G s Q he hr F fun s' G' a b F' => k s' G' a b (F'.sub hs)

theorem Do1.ret {e : PySem.Expr} {pos : Pos} {d : D} (h : Ev c ρ e d) : Do1 c ρ (.Return (some e) pos) (.ret d) :=
  fun env A B G s Q he hr F k => wpAny_Return_some (h env A B G s he hr F _ fun v s₁ G₁ st₁ g₁ r₁ => k v s₁ G₁ st₁.s (g₁.b F.keep) g₁.hold (F.keep.kp st₁.heap) r₁)

theorem Do1.if_ {t : PySem.Expr} {x y : List Stmt} {pos : Pos} {b : Bool} {o : Out} (ht : Tst c ρ t b) (h₁ : b = true → Does c ρ x o) (h₂ : b = false → Does c ρ y o) : Do1 c ρ (.If t x y pos) o :=
  fun env A B G s Q he hr F k => wpAny_If (ht env A B G s he hr F _ fun s₁ G₁ st₁ g₁ => by
    have F₁ := F.grow st₁.heap g₁
    have k₁ := k.back st₁.s (g₁.b F.keep)
    cases b with
    | true => exact h₁ rfl env A B G₁ s₁ Q he hr F₁ k₁
    | false => exact h₂ rfl env A B G₁ s₁ Q he hr F₁ k₁)

/-- x = e -/
theorem Do1.assign {x : Str} {e : PySem.Expr} {xpos pos : Pos} {d : D} (hx : c.sto x) (h : Ev c ρ e d) (hs : ∀ env, EnvOk c.sc env → swapsWith e (some (.Name x xpos)) pos.line env = pure false := by intro _ _; rfl) :
    Do1 c ρ (.Assign [.Name x xpos] e pos) (.next ((x, .val d) :: ρ)) :=
  fun env A B G s Q he hr F k => wpAny_Assign_Name (h env A B G s he hr F _ fun v s₁ G₁ st₁ g₁ r₁ =>
    (F.grow st₁.heap g₁).store he hx (sl := .val d) r₁ (fun e => by cases e) fun s₂ st₂ F₂ => k s₂ G₁ (st₁.s.trans st₂) (g₁.b F.keep) F₂) (hs env he)

/-- x op= e -/
theorem Do1.aug {x : Str} {op : Operator} {e : PySem.Expr} {xpos pos : Pos} {d₀ d₁ d : D} (hx : c.sto x) (h₀ : ρ.lookup x = some (.val d₀)) (h : Ev c ρ e d₁) (ho : Op2 c.X c.k (inplaceOp op) d₀ d₁ d) (hcd : (x == ("__classdict__" : Str)) = false := by decide) :
    Do1 c ρ (.AugAssign (.Name x xpos) op e pos) (.next ((x, .val d) :: ρ)) := fun env A B G s Q he hr F k => by
  obtain ⟨m, hm, V, h1, _⟩ := F.vals
  obtain ⟨hn, hsl⟩ := h1 x _ h₀
  refine wpAny_AugAssign_Name ?_
  have main : wpAny c.X.M A (eval e env) (fun v s₂ => wpAny c.X.M A (inplaceOp op (V x) v) (fun r s₃ => wpAny c.X.M A (storeName env x r) (fun _ => Q .next) NoE s₃) NoE s₂) NoE s :=
    h env A B G s he hr F _ fun v s₁ G₁ st₁ g₁ r₁ => ho A G₁ s₁ (V x) v hr (F.tph.keeps st₁.heap) g₁.hold (Rel.mono g₁.le hsl) r₁ _ fun r s₂ G₂ st₂ g₂ r₂ =>
      (F.grow (st₁.trans st₂).heap (g₁.trans st₁.heap g₂)).store he hx (sl := .val d) r₂ (fun e => by cases e) fun s₃ st₃ F₃ => k s₃ G₂ ((st₁.trans st₂).s.trans st₃) ((g₁.trans st₁.heap g₂).b F.keep) F₃
  rcases hn with ⟨hk, e⟩ | ⟨hk | hk, cc, hc, hv⟩
  · exact wpAny_loadName_local he.k hk hm e main
  · exact wpAny_loadName_cell he.k hk hc hv main
  · exact wpAny_loadName_free he.k hk hc hv main hcd
end
end Mine
end

section
set_option linter.unusedVariables false
namespace Mine

/-! ## dicts by data -/
noncomputable def dget (kds : List (Str × D)) (k : Str) : Option D := (kds.find? fun kv => kv.1 = k).map (·.2)
noncomputable def dset (kds : List (Str × D)) (k : Str) (d : D) : List (Str × D) :=
  if kds.any (fun kv => kv.1 = k) then kds.map (fun kv => if kv.1 = k then (kv.1, d) else kv) else kds ++ [(k, d)]

theorem RelKv.valueAt {X : Wd} {G : Fz} {kvs : List (Str × Value)} {kds : List (Str × D)} (h : RelKv X G kvs kds) (k : Str) :
    (PySem.valueAt kvs k = none ∧ dget kds k = none) ∨ ∃ v d, PySem.valueAt kvs k = some v ∧ dget kds k = some d ∧ Rel X G v d := by
  induction kvs generalizing kds with
  | nil => cases h; exact .inl ⟨rfl, rfl⟩
  | cons p kvs ih =>
    cases h with
    | @cons y v _ d ds h r =>
      simp only [PySem.valueAt, dget, List.find?_cons] at ih ⊢
      by_cases e : y = k
      · simp only [e, decide_true]
        exact .inr ⟨v, d, rfl, rfl, h⟩
      · simp only [e, decide_false]
        exact ih r
theorem RelKv.any {X : Wd} {G : Fz} {kvs : List (Str × Value)} {kds : List (Str × D)} (h : RelKv X G kvs kds) (k : Str) : kvs.any (fun kv => decide (kv.1 = k)) = kds.any (fun kv => decide (kv.1 = k)) := by
  induction kvs generalizing kds with
  | nil => cases h; rfl
  | cons p kvs ih => cases h with | cons h r => simp only [List.any_cons, ih r]
theorem RelKv.stored {X : Wd} {G : Fz} {kvs : List (Str × Value)} {kds : List (Str × D)} {k : Str} {v : Value} {d : D} (h : RelKv X G kvs kds) (hv : Rel X G v d) : RelKv X G (PySem.stored kvs k v) (dset kds k d) := by
  unfold PySem.stored dset
  rw [h.any k]
  split
  · rename_i hany; clear hany
    induction kvs generalizing kds with
    | nil => cases h; exact .nil
    | cons p kvs ih =>
      cases h with
      | @cons y u _ e ds h r =>
        simp only [List.map_cons]
        by_cases q : y = k
        · simp only [q, if_true]; exact .cons hv (ih r)
        · simp only [q, if_false]; exact .cons h (ih r)
  · exact h.append (.cons hv .nil)

theorem DicO.dictOf {X : Wd} {o : Obj} {kvs : List (Str × Value)} {h : Heap} {a : Addr} (x : DicO X o kvs) (ho : h.get? a = some o) : h.DictOf X.K a kvs := by
  obtain ⟨h1, es, ep, h2, h3, h4, h5⟩ := x
  exact ⟨o, es, ep, ho, h1, h2, h3, h4, h5⟩
theorem DicO.of {X : Wd} {kvs : List (Str × Value)} {h : Heap} {a : Addr} (x : h.DictOf X.K a kvs) : ∃ o, h.get? a = some o ∧ DicO X o kvs := by
  obtain ⟨o, es, ep, ho, h1, h2, h3, h4, h5⟩ := x
  exact ⟨o, ho, h1, es, ep, h2, h3, h4, h5⟩
theorem LstO.isList {o : Obj} {vs : List Value} {h : Heap} {a : Addr} (x : LstO o vs) (ho : h.get? a = some o) : h.IsList a vs.toArray := by
  obtain ⟨n, rfl⟩ := x; exact ⟨_, ho, rfl, n, rfl⟩
theorem LstO.plain {o : Obj} {vs : List Value} {h : Heap} {a : Addr} (x : LstO o vs) (ho : h.get? a = some o) : h.PlainList a vs.toArray := by
  obtain ⟨n, rfl⟩ := x; exact ⟨n, ho⟩
theorem TupO.isTuple {o : Obj} {vs : List Value} {h : Heap} {a : Addr} (x : TupO o vs) (ho : h.get? a = some o) : h.IsTuple a vs.toArray := ⟨o, ho, x.1, x.2⟩

/-- no object that a Tp heap lacks at the start is sys.modules -/
theorem tp_sysModules {X : Wd} {h : Heap} (T : X.Tp h) : True := trivial

section
variable {c : Cx} {ρ ρ' : AEnv}

/-- an expression that gives a dict, frozen or owned -/
noncomputable def EvD (c : Cx) (ρ : AEnv) (e : PySem.Expr) (kds : List (Str × D)) : Prop :=
  ∀ (env : Env) (A : Around) (B : Fz) (G : Fz) (s : Shared) (Q : Value → Shared → Prop), EnvOk c.sc env → Rm c.k A → FI c.X c.oc env ρ B G s.heap →
    (∀ a s' G' o kvs, Stp c.X s s' → G.Grow s.heap G' s'.heap → s'.heap.get? a = some o → DicO c.X o kvs → RelKv c.X G' kvs kds → (a == sysModules) = false → Q (.ref a) s') → wpAny c.X.M A (eval e env) Q NoE s
noncomputable def EvL (c : Cx) (ρ : AEnv) (e : PySem.Expr) (ds : List D) : Prop :=
  ∀ (env : Env) (A : Around) (B : Fz) (G : Fz) (s : Shared) (Q : Value → Shared → Prop), EnvOk c.sc env → Rm c.k A → FI c.X c.oc env ρ B G s.heap →
    (∀ a s' G' o vs, Stp c.X s s' → G.Grow s.heap G' s'.heap → s'.heap.get? a = some o → LstO o vs → RelAll c.X G' vs ds → Q (.ref a) s') → wpAny c.X.M A (eval e env) Q NoE s

theorem EvD.of {e : PySem.Expr} {kds : List (Str × D)} (h : Ev c ρ e (.dict kds)) : EvD c ρ e kds := fun env A B G s Q he hr F hq =>
  h env A B G s he hr F _ fun v s' G' st g r => by cases r with | dict h1 h2 h3 h4 => exact hq _ s' G' _ _ st g (g.hold.get _ _ h1) h2 h3 h4
theorem EvL.of {e : PySem.Expr} {ds : List D} (h : Ev c ρ e (.list ds)) : EvL c ρ e ds := fun env A B G s Q he hr F hq =>
  h env A B G s he hr F _ fun v s' G' st g r => by cases r with | list h1 h2 h3 => exact hq _ s' G' _ _ st g (g.hold.get _ _ h1) h2 h3

/-- reading a name, whatever it holds -/
theorem wp_name {env : Env} {A : Around} {s : Shared} {m : Str → Option Value} {x : Str} {pos : Pos} {v : Value} {Q : Value → Shared → Prop} {X : Wd} {sc : Scope} (he : EnvOk sc env) (hm : s.heap.Ns env.locals m) (hn : NameIs env m s.heap x v) (q : Q v s)
    (hd : (x == ("__debug__" : Str)) = false) (hcd : (x == ("__classdict__" : Str)) = false) : wpAny X.M A (eval (.Name x pos) env) Q NoE s := by
  rcases hn with ⟨hk, e⟩ | ⟨hk | hk, cc, hc, hv⟩
  · exact wpAny_Name (wpAny_loadName_local he.k hk hm e q) hd
  · exact wpAny_Name (wpAny_loadName_cell he.k hk hc hv q) hd
  · exact wpAny_Name (wpAny_loadName_free he.k hk hc hv q hcd) hd

theorem EvD.own {x : Str} {pos : Pos} {kds : List (Str × D)} (h : ρ.lookup x = some (.odict kds)) (hd : (x == ("__debug__" : Str)) = false := by decide) (hcd : (x == ("__classdict__" : Str)) = false := by decide) : EvD c ρ (.Name x pos) kds := fun env A B G s Q he hr F hq => by
  obtain ⟨m, hm, V, h1, _⟩ := F.vals
  obtain ⟨hn, a, o, kvs, e, ho, hdo, hr', _, _, _, hsm⟩ := h1 x _ h
  refine wp_name he hm hn ?_ hd hcd
  rw [e]
  exact hq a s G o kvs .refl (.refl F.hold) ho hdo hr' hsm
theorem EvL.own {x : Str} {pos : Pos} {ds : List D} (h : ρ.lookup x = some (.olist ds)) (hd : (x == ("__debug__" : Str)) = false := by decide) (hcd : (x == ("__classdict__" : Str)) = false := by decide) : EvL c ρ (.Name x pos) ds := fun env A B G s Q he hr F hq => by
  obtain ⟨m, hm, V, h1, _⟩ := F.vals
  obtain ⟨hn, a, o, kvs, e, ho, hdo, hr', _⟩ := h1 x _ h
  refine wp_name he hm hn ?_ hd hcd
  rw [e]
  exact hq a s G o kvs .refl (.refl F.hold) ho hdo hr'

/-- value[slice] in general -/
theorem wp_subscript {env : Env} {A : Around} {s : Shared} {value slice : PySem.Expr} {pos : Pos} {Q : Value → Shared → Prop} {X : Wd} (hsl : ∀ o i, ∃ l, subscripted slice false o i = operate l (getItem o i))
    (h : wpAny X.M A (eval value env) (fun o s₁ => wpAny X.M A (eval slice env) (fun i s₂ => SubscriptOn X.M A o i Q NoE s₂) NoE s₁) NoE s) : wpAny X.M A (eval (.Subscript value slice pos) env) Q NoE s := by
  rw [eval_Subscript]
  refine wpAny_bind (wpAny_mono h (fun o s₁ h₁ => wpAny_bind (wpAny_holding (wpAny_mono h₁ (fun i s₂ h₂ => wpAny_bind (wpAny_standAt ?_)) fun _ _ x => x))) fun _ _ x => x)
  obtain ⟨T, id, hl, hT, hg⟩ := h₂
  refine wpAny_bind ?_
  rw [getitemInPython_of_ne hT.not_modules]
  refine wpAny_bind (wpAny_specialOf hT hl ?_)
  obtain ⟨l, e⟩ := hsl o i
  have fin : wpAny X.M A (subscripted slice false o i) (fun r s₃ => wpAny X.M A (letTemporaryGo value o r >>= fun _ => pure r) Q NoE s₃) NoE s₂ := by
    rw [e]
    exact wpAny_operating (wpAny_mono hg (fun r s₃ h₃ => wpAny_bind (wpAny_letTemporaryGo (wpAny_pure h₃))) fun _ _ x => x)
  first
    | exact wpAny_pure (wpAny_bind fin)
    | exact wpAny_bind (wpAny_pure (wpAny_bind fin))
    | exact wpAny_bind fin

/-- e[k] of a dict -/
theorem Ev.dictItem {e i : PySem.Expr} {pos : Pos} {kds : List (Str × D)} {k : Str} {d : D} (h : EvD c ρ e kds) (hi : Ev c ρ i (.str k)) (hd : dget kds k = some d)
    (hsl : ∀ o v, ∃ l, subscripted i false o v = operate l (getItem o v) := by intro _ _; exact ⟨_, rfl⟩) : Ev c ρ (.Subscript e i pos) d :=
  fun env A B G s he hr F Q hq => wp_subscript hsl (h env A B G s _ he hr F fun a s₁ G₁ o kvs st₁ g₁ ho hdo hrk hsm =>
    hi env A B G₁ s₁ he hr (F.grow st₁.heap g₁) _ fun v s₂ G₂ st₂ g₂ r₂ => by
      cases r₂ with
      | str _ t =>
        have hm := (hdo.dictOf (st₂.heap.get _ _ ho hdo.nt)).mapOf
        rcases hrk.valueAt k with ⟨_, e2⟩ | ⟨u, d', e1, e2, e3⟩
        · rw [e2] at hd; cases hd
        · rw [e2] at hd; cases hd
          exact ⟨"dict", _, slot_dict_getitem.lookup, hm.typeIs, wpAny_getItem_of (strKind_is _ _ k t) hm e1 (hq u _ G₂ ((st₁.trans st₂).trans .toks) (g₁.trans st₁.heap g₂) (Rel.mono g₂.le e3))⟩)

/-- e[i] of a list -/
theorem Ev.listItem {e i : PySem.Expr} {pos : Pos} {ds : List D} {n : Int} {d : D} (h : EvL c ρ e ds) (hi : Ev c ρ i (.int n)) (h0 : 0 ≤ n) (hd : ds[n.toNat]? = some d) (hf : n < 2 ^ 63 := by decide)
    (hsl : ∀ o v, ∃ l, subscripted i false o v = operate l (getItem o v) := by intro _ _; exact ⟨_, rfl⟩) : Ev c ρ (.Subscript e i pos) d :=
  fun env A B G s he hr F Q hq => wp_subscript hsl (h env A B G s _ he hr F fun a s₁ G₁ o vs st₁ g₁ ho hdo hrk =>
    hi env A B G₁ s₁ he hr (F.grow st₁.heap g₁) _ fun v s₂ G₂ st₂ g₂ r₂ => by
      cases r₂ with
      | int _ t =>
        have hl := hdo.isList (st₂.heap.get _ _ ho hdo.nt)
        obtain ⟨u, e1, e2⟩ := hrk.get hd
        exact ⟨"list", _, slot_list_getitem.lookup, hl.typeIs, wpAny_getItem_list hl h0 hf (by simpa using e1) (hq u _ G₂ (st₁.trans st₂) (g₁.trans st₁.heap g₂) (Rel.mono g₂.le e2))⟩)

/-- k in e, e a dict -/
theorem Tst.inDict {e i : PySem.Expr} {pos : Pos} {kds : List (Str × D)} {k : Str} (hi : Ev c ρ i (.str k)) (h : EvD c ρ e kds) (hm : behindInMarks .In e = false := by with_unfolding_all rfl) : Tst c ρ (.Compare i [.In] [e] pos) (dget kds k).isSome := by
  intro env A B G s he hr F Q hq
  refine wpAny_isTrue_Compare1 (hi env A B G s he hr F _ fun v s₁ G₁ st₁ g₁ r₁ => h env A B G₁ s₁ _ he hr (F.grow st₁.heap g₁) fun a s₂ G₂ o kvs st₂ g₂ ho hdo hrk hsm => ?_) hm
  cases r₁ with
  | str _ t =>
    refine wpAny_in_of (strKind_is _ _ k t) hsm (hdo.dictOf ho).mapOf (wpAny_truthy_bool ?_)
    have e1 : (PySem.valueAt kvs k).isSome = (dget kds k).isSome := by
      rcases hrk.valueAt k with ⟨e1, e2⟩ | ⟨u, d', e1, e2, e3⟩
      · rw [e1, e2]; rfl
      · rw [e1, e2]; rfl
    rw [e1]
    exact hq _ G₂ ((st₁.trans st₂).trans .toks) (g₁.trans st₁.heap g₂)

/-! ## method calls -/
theorem attributeBase_name {x name : Str} {pos : Pos} {env : Env} {whole : Sem Value} : attributeBase (.Name x pos) name env whole = whole := rfl

/-- e.get(k, d) -/
theorem Ev.dictGet2 {e i j : PySem.Expr} {apos pos : Pos} {kds : List (Str × D)} {k : Str} {d : D} (h : EvD c ρ e kds) (hi : Ev c ρ i (.str k)) (hj : Ev c ρ j d)
    (hb : ∀ env, attributeBase e "get" env (eval e env) = eval e env := by intro _; rfl) (hline : (apos.endLine == pos.line) = true := by rfl) (htr : ∀ env, backTo pos (starEach [i, j] env) = [(false, eval i env), (false, eval j env)] := by intro _; rfl) :
    Ev c ρ (.Call (.Attribute e "get" apos) [i, j] [] pos) ((dget kds k).getD d) :=
  fun env A B G s he hr F Q hq => wpAny_Call_method2_late (hb env) hline (htr env) (h env A B G s _ he hr F fun a s₁ G₁ o kvs st₁ g₁ ho hdo hrk hsm => by
    have hm := (hdo.dictOf ho).mapOf
    refine ⟨"dict", "dict.get", PySem.F.plainAttrs_dict, PySem.F.slot_dict_get, PySem.F.type_dict_get, hm.typeIs, hm.noDict, ?_⟩
    refine wpAny_dict_get2 (knd := c.X.K) hsm (hi env A B G₁ s₁ he hr (F.grow st₁.heap g₁) _ fun v s₂ G₂ st₂ g₂ r₂ => hj env A B G₂ s₂ he hr ((F.grow st₁.heap g₁).grow st₂.heap g₂) _ fun v₃ s₃ G₃ st₃ g₃ r₃ => ?_)
    cases r₂ with
    | str _ t =>
      refine ⟨k, _, strKind_is _ _ k t, (hdo.dictOf ((st₂.trans st₃).heap.get _ _ ho hdo.nt)).mapOf, hq _ _ G₃ (((st₁.trans st₂).trans st₃).trans .toks) ((g₁.trans st₁.heap g₂).trans (st₁.trans st₂).heap g₃) ?_⟩
      rcases hrk.valueAt k with ⟨e1, e2⟩ | ⟨u, d', e1, e2, e3⟩
      · rw [e1, e2]; exact r₃
      · rw [e1, e2]; exact Rel.mono (g₂.le.trans g₃.le) e3)

/-! ## owned objects changed -/
theorem Ns.det {h : Heap} {L : Addr} {m m' : Str → Option Value} (x : h.Ns L m) (y : h.Ns L m') (n : Str) : m n = m' n := by
  obtain ⟨o, es, ep, ho, hd, _, e⟩ := x
  obtain ⟨o', es', ep', ho', hd', _, e'⟩ := y
  rw [ho] at ho'; cases ho'
  rw [hd] at hd'; cases hd'
  rw [← e n, ← e' n]
theorem NameIs.det {env : Env} {h : Heap} {m m' : Str → Option Value} {x : Str} {v v' : Value} (hm : h.Ns env.locals m) (hm' : h.Ns env.locals m') (a : NameIs env m h x v) (b : NameIs env m' h x v') : v = v' := by
  rcases a with ⟨k, e⟩ | ⟨k, c, hc, o, ho, hd⟩ <;> rcases b with ⟨k', e'⟩ | ⟨k', c', hc', o', ho', hd'⟩
  · rw [Ns.det hm hm' x] at e; rw [e] at e'; cases e'; rfl
  · rcases k' with k' | k' <;> (rw [k] at k'; cases k')
  · rcases k with k | k <;> (rw [k'] at k; cases k)
  · rw [hc] at hc'; cases hc'; rw [ho] at ho'; cases ho'; rw [hd] at hd'; cases hd'; rfl

/-- x holds the object at a -/
noncomputable def HeldAt (env : Env) (h : Heap) (x : Str) (a : Addr) : Prop := ∃ m, h.Ns env.locals m ∧ NameIs env m h x (.ref a)
theorem HeldAt.keeps {X : Wd} {env : Env} {h h' : Heap} {x : Str} {a : Addr} (y : HeldAt env h x a) (hk : Kp X h h') : HeldAt env h' x a := let ⟨m, hm, hn⟩ := y; ⟨m, Ns_kp hm hk, hn.keeps hk⟩

theorem FI.upd {X : Wd} {oc : List Str} {env : Env} {ρ : AEnv} {B G : Fz} {h h' : Heap} {x : Str} {a : Addr} {sl sl' : Slot} (F : FI X oc env ρ B G h) (hx : ρ.lookup x = some sl) (ho : sl.own = true) (hn : HeldAt env h x a)
    (hs : ∀ b o, b ≠ a → h.get? b = some o → h'.get? b = some o) (hsl : SlotIs X G h B env.locals (.ref a) sl → SlotIs X G h' B env.locals (.ref a) sl') : FI X oc env ((x, sl') :: ρ) B G h' := by
  obtain ⟨m, hm, V, h1, h2⟩ := F.vals
  obtain ⟨m', hm', hn'⟩ := hn
  obtain ⟨hnx, hslx⟩ := h1 x sl hx
  have hV : V x = .ref a := NameIs.det hm hm' hnx hn'
  rw [hV] at hslx
  have hao : G a = none ∧ B a = none ∧ a ≠ env.locals ∧ (∀ c v, h.IsCell c v → a ≠ c) ∧ ∀ o, h.get? a = some o → ¬ Tab o := by
    cases sl with
    | val d => cases ho
    | odict kvs => obtain ⟨b, o, kv, e, ho, hd', hr, hg, hb, hL, hm⟩ := hslx; cases e; exact ⟨hg, hb, hL, fun c v hc => cell_ne_dict ho hd' hc, fun o' e' => by rw [ho] at e'; cases e'; exact hd'.nt⟩
    | olist ds => obtain ⟨b, o, kv, e, ho, hd', hr, hg, hb, hL⟩ := hslx; cases e; exact ⟨hg, hb, hL, fun c v hc => cell_ne_list ho hd' hc, fun o' e' => by rw [ho] at e'; cases e'; exact hd'.nt⟩
  obtain ⟨hg, hb, hL, hcell, hnt⟩ := hao
  have htb : TG X h h' := tabs_but hs hnt
  have kc : ∀ {c v}, h.IsCell c v → h'.IsCell c v := fun {c v} hc => let ⟨o, e, d⟩ := hc; ⟨o, hs c o (Ne.symm (hcell c v hc)) e, d⟩
  exact {
    tp := F.tp
    tb := fun c P hc => htb.at (F.tb c P hc)
    cd := F.cd
    keep := ⟨fun b o e => hs b o (fun q => by subst q; rw [hb] at e; cases e) (F.keep.get b o e), F.keep.nt⟩
    hold := ⟨fun b o e => hs b o (fun q => by subst q; rw [hg] at e; cases e) (F.hold.get b o e), F.hold.nt⟩
    gL := F.gL
    bL := F.bL
    ocs := fun y hy => by
      obtain ⟨hk', c', e', g', b', v', hv'⟩ := F.ocs y hy
      exact ⟨hk', c', e', g', b', v', kc hv'⟩
    ocinj := F.ocinj
    fc := F.fc
    vals := by
      refine ⟨m, ?_, V, fun y sy e => ?_, ?_⟩
      · obtain ⟨o, es, ep, e, r⟩ := hm; exact ⟨o, es, ep, hs _ o (Ne.symm hL) e, r⟩
      · have kn : ∀ {y v}, NameIs env m h y v → NameIs env m h' y v := fun {y v} hn => by
          rcases hn with hl | ⟨hk', c', hc'', hv'⟩
          · exact .inl hl
          · exact .inr ⟨hk', c', hc'', kc hv'⟩
        by_cases hy : y = x
        · subst hy
          rw [lookup_cons_self] at e; cases e
          rw [hV]
          exact ⟨kn (hV ▸ hnx), hsl hslx⟩
        · rw [lookup_cons_ne hy] at e
          obtain ⟨hny, hsy⟩ := h1 y sy e
          exact ⟨kn hny, hsy.but hs (fun b o kvs _ _ _ _ _ oy ey q => hy (h2 y x sy sl a e hx oy ho (q ▸ ey) hV)) (fun b o kvs _ _ _ _ _ oy ey q => hy (h2 y x sy sl a e hx oy ho (q ▸ ey) hV))⟩
      · intro y z sy sz b ey ez oy oz vy vz
        have red : ∀ y sy, List.lookup y ((x, sl') :: ρ) = some sy → sy.own = true → ∃ sy', ρ.lookup y = some sy' ∧ sy'.own = true := fun y sy e o => by
          by_cases hy : y = x
          · subst hy; exact ⟨sl, hx, ho⟩
          · rw [lookup_cons_ne hy] at e; exact ⟨sy, e, o⟩
        obtain ⟨sy', ey', oy'⟩ := red y sy ey oy
        obtain ⟨sz', ez', oz'⟩ := red z sz ez oz
        exact h2 y z sy' sz' b ey' ez' oy' oz' vy vz }

/-- reading an owned name: where it lies -/
theorem FI.own_at {X : Wd} {oc : List Str} {env : Env} {ρ : AEnv} {B G : Fz} {h : Heap} {x : Str} {sl : Slot} (F : FI X oc env ρ B G h) (hx : ρ.lookup x = some sl) : ∃ v m, h.Ns env.locals m ∧ NameIs env m h x v ∧ SlotIs X G h B env.locals v sl := by
  obtain ⟨m, hm, V, h1, h2⟩ := F.vals
  exact ⟨V x, m, hm, (h1 x sl hx).1, (h1 x sl hx).2⟩

/-- x[i] = e, x an owned dict -/
theorem Do1.setItem {x : Str} {i e : PySem.Expr} {xpos ipos pos : Pos} {kds : List (Str × D)} {k : Str} {d : D} (hx : ρ.lookup x = some (.odict kds)) (he' : Ev c ρ e d) (hi : Ev c ρ i (.str k)) (hlen : kds.length ≤ 1000)
    (hs : ∀ env, EnvOk c.sc env → swapsWith e (some (.Subscript (.Name x xpos) i ipos)) pos.line env = pure false := by intro _ _; rfl) (hd : (x == ("__debug__" : Str)) = false := by decide) (hcd : (x == ("__classdict__" : Str)) = false := by decide) :
    Do1 c ρ (.Assign [.Subscript (.Name x xpos) i ipos] e pos) (.next ((x, .odict (dset kds k d)) :: ρ)) := fun env A B G s Q he hr F hq =>
  wpAny_Assign_Subscript (he' env A B G s he hr F _ fun v s₁ G₁ st₁ g₁ r₁ => by
    have F₁ := F.grow st₁.heap g₁
    obtain ⟨u, m, hm, hn, hsl⟩ := F₁.own_at hx
    obtain ⟨a, o, kvs, rfl, ho, hdo, hrk, hg, hb, hL, hsm⟩ := hsl
    refine wp_name he hm hn ?_ hd hcd
    refine hi env A B G₁ s₁ he hr F₁ _ fun iv s₂ G₂ st₂ g₂ r₂ => ?_
    have F₂ := F₁.grow st₂.heap g₂
    cases r₂ with
    | str _ t =>
      refine wpAny_setItem_pairs (strKind_is _ _ k t) (hdo.dictOf (st₂.heap.get _ _ ho hdo.nt)) (fun h' hd' hs' => ?_) (by rw [hrk.length, sizeLine_eq]; omega)
      obtain ⟨o', ho', hdo'⟩ := DicO.of hd'
      refine hq _ G₂ ((st₁.trans st₂).s.trans (.of (tabs_but (fun b o hb e => (hs'.2 b hb).trans e) fun o₀ e₀ => by rw [st₂.heap.get _ _ ho hdo.nt] at e₀; cases e₀; exact hdo.nt))) ((g₁.trans st₁.heap g₂).b F.keep) ?_
      refine F₂.upd hx rfl (HeldAt.keeps ⟨m, hm, hn⟩ st₂.heap) (fun b o hb e => (hs'.2 b hb).trans e) fun hold => ?_
      obtain ⟨a₂, o₂, kvs₂, e₂, ho₂, _, _, hg₂, hb₂, hL₂, _⟩ := hold
      cases e₂
      exact ⟨a, o', _, rfl, ho', hdo', RelKv.stored (RelKv.mono g₂.le hrk) (Rel.mono g₂.le r₁), hg₂, hb₂, hL₂, hsm⟩) (hs env he)

/-- x[i] op= e, x an owned dict -/
theorem Do1.augItem {x y : Str} {e : PySem.Expr} {op : Operator} {xpos ypos ipos pos : Pos} {kds : List (Str × D)} {k : Str} {d₀ d₁ d : D} (hx : ρ.lookup x = some (.odict kds)) (hi : Ev c ρ (.Name y ypos) (.str k)) (h0 : dget kds k = some d₀) (he' : Ev c ρ e d₁)
    (hop : Op2 c.X c.k (inplaceOp op) d₀ d₁ d) (hlen : kds.length ≤ 1000) (hd : (x == ("__debug__" : Str)) = false := by decide) (hcd : (x == ("__classdict__" : Str)) = false := by decide) :
    Do1 c ρ (.AugAssign (.Subscript (.Name x xpos) (.Name y ypos) ipos) op e pos) (.next ((x, .odict (dset kds k d)) :: ρ)) := fun env A B G s Q he hr F hq => by
  refine wpAny_AugAssign_Subscript ?_
  obtain ⟨u, m, hm, hn, hsl⟩ := F.own_at hx
  obtain ⟨a, o, kvs, rfl, ho, hdo, hrk, hg, hb, hL, hsm⟩ := hsl
  refine wp_name he hm hn ?_ hd hcd
  refine hi env A B G s he hr F _ fun iv s₁ G₁ st₁ g₁ r₁ => ?_
  cases r₁ with
  | str _ t =>
    rcases hrk.valueAt k with ⟨_, e2⟩ | ⟨u, d', e1, e2, e3⟩
    · rw [e2] at h0; cases h0
    · rw [e2] at h0; cases h0
      refine wpAny_getItem_of (strKind_is _ _ k t) (hdo.dictOf (st₁.heap.get _ _ ho hdo.nt)).mapOf e1 ?_
      have st₁' : Stp c.X s { s₁ with toks := s₁.toks + 1 } := st₁.trans .toks
      refine he' env A B G₁ _ he hr (F.grow st₁'.heap g₁) _ fun v s₂ G₂ st₂ g₂ r₂ => ?_
      have g₂' := g₁.trans st₁.heap g₂
      have st₂' := st₁'.trans st₂
      refine hop A G₂ s₂ u v hr (F.tph.keeps st₂'.heap) g₂.hold (Rel.mono g₂'.le e3) r₂ _ fun w s₃ G₃ st₃ g₃ r₃ => ?_
      have st₄ := st₂'.trans st₃
      have g₄ := g₂'.trans st₂'.heap g₃
      refine wpAny_setItem_pairs (strKind_is _ _ k t) (hdo.dictOf (st₄.heap.get _ _ ho hdo.nt)) (fun h' hd' hs' => ?_) (by rw [hrk.length, sizeLine_eq]; omega)
      obtain ⟨o', ho', hdo'⟩ := DicO.of hd'
      refine hq _ G₃ (st₄.s.trans (.of (tabs_but (fun b o hb e => (hs'.2 b hb).trans e) fun o₀ e₀ => by rw [st₄.heap.get _ _ ho hdo.nt] at e₀; cases e₀; exact hdo.nt))) (g₄.b F.keep) ?_
      refine (F.grow st₄.heap g₄).upd hx rfl (HeldAt.keeps ⟨m, hm, hn⟩ st₄.heap) (fun b o hb e => (hs'.2 b hb).trans e) fun hold => ?_
      obtain ⟨a₂, o₂, kvs₂, e₂, ho₂, _, _, hg₂, hb₂, hL₂, _⟩ := hold
      cases e₂
      exact ⟨a, o', _, rfl, ho', hdo', RelKv.stored (RelKv.mono g₄.le hrk) r₃, hg₂, hb₂, hL₂, hsm⟩

/-- x.append(e), x an owned list -/
theorem Do1.append {x : Str} {e : PySem.Expr} {xpos apos cpos pos : Pos} {ds : List D} {d : D} (hx : ρ.lookup x = some (.olist ds)) (he' : Ev c ρ e d) (hlen : ds.length ≤ 1000) (hline : (apos.endLine == cpos.line) = true := by rfl)
    (htr : ∀ env, backTo cpos (starEach [e] env) = [(false, eval e env)] := by intro _; rfl) (hint : ∀ env, EnvOk c.sc env → interactive env = false := by intro env he; simp only [interactive, he.is]; rfl)
    (hd : (x == ("__debug__" : Str)) = false := by decide) (hcd : (x == ("__classdict__" : Str)) = false := by decide) :
    Do1 c ρ (.Expr (.Call (.Attribute (.Name x xpos) "append" apos) [e] [] cpos) pos) (.next ((x, .olist (ds ++ [d])) :: ρ)) := fun env A B G s Q he hr F hq => by
  refine wpAny_Expr ?_ (hint env he) rfl
  refine wpAny_Call_method1_late rfl hline (htr env) ?_
  obtain ⟨u, m, hm, hn, hsl⟩ := F.own_at hx
  obtain ⟨a, o, vs, rfl, ho, hdo, hrk, hg, hb, hL⟩ := hsl
  refine wp_name he hm hn ?_ hd hcd
  have hli := hdo.isList ho
  refine ⟨"list", "list.append", PySem.F.plainAttrs_list, PySem.F.slot_list_append, PySem.F.type_list_append, hli.typeIs, fun b e => by cases e; obtain ⟨n, rfl⟩ := hdo; exact ⟨_, ho, rfl⟩, ?_⟩
  refine Calls.callWith_builtin rfl (Calls.evalArgs_plain (Calls.spliced_cons (he' env A B G s he hr F _ fun v s₁ G₁ st₁ g₁ r₁ => Calls.spliced_nil ?_)))
  refine wpAny_list_append_plain (hdo.plain (st₁.heap.get _ _ ho hdo.nt)) (fun h' hl' hs' => ?_) (by rw [List.size_toArray, hrk.length, sizeLine_eq]; omega)
  obtain ⟨n', hn'⟩ := hl'
  refine hq _ G₁ (st₁.s.trans ⟨tabs_but (fun b o hb e => (hs'.2 b hb).trans e) fun o₀ e₀ => by rw [st₁.heap.get _ _ ho hdo.nt] at e₀; cases e₀; exact hdo.nt, id, rfl, rfl⟩) (g₁.b F.keep) ?_
  refine (F.grow st₁.heap g₁).upd hx rfl (HeldAt.keeps ⟨m, hm, hn⟩ st₁.heap) (fun b o hb e => (hs'.2 b hb).trans e) fun hold => ?_
  obtain ⟨a₂, o₂, kvs₂, e₂, ho₂, _, _, hg₂, hb₂, hL₂⟩ := hold
  cases e₂
  exact ⟨a, _, vs ++ [v], rfl, hn', ⟨n', by simp⟩, (RelAll.mono g₁.le hrk).append (.one r₁), hg₂, hb₂, hL₂⟩

/-- x = [..], to be changed -/
theorem Do1.newList {x : Str} {es : List PySem.Expr} {xpos lpos pos : Pos} {ds : List D} (hx : c.sto x) (h : Evs c ρ es ds) (hl : ds.length ≤ 1000 := by decide) :
    Do1 c ρ (.Assign [.Name x xpos] (.List es lpos) pos) (.next ((x, .olist ds) :: ρ)) :=
  fun env A B G s Q he hr F k => wpAny_Assign_Name (wpAny_List (h env A B G s lpos he hr F _ fun vs s₁ G₁ st₁ g₁ r₁ => ⟨by rw [r₁.length, sizeLine_eq]; omega, by
    have F₁ := F.grow st₁.heap g₁
    have kp : Kp c.X s₁.heap (s₁.heap.push { cls := .type "list", data := .seq vs.toArray }) := .push
    have F₂ := F₁.grow kp (.same F₁.hold kp)
    refine F₂.store he hx (sl := .olist ds) ⟨_, _, vs, rfl, Heap.get?_push_size _ rfl, ⟨0, rfl⟩, r₁, Fz.none_of F₁.hold (get?_size _), Fz.none_of F₁.keep (get?_size _), ?_⟩ (fun _ => ⟨s₁.heap, F₁, kp, fun a e => by cases e; exact get?_size _⟩) fun s₂ st₂ F₃ => k s₂ G₁ (st₁.s.trans (SStp.trans (s' := { s₁ with heap := s₁.heap.push { cls := .type "list", data := .seq vs.toArray } }) ⟨kp.tab, id, rfl, rfl⟩ st₂)) (g₁.b F.keep) F₃
    obtain ⟨m, hm, _⟩ := F₁.vals
    exact Nat.ne_of_gt hm.lt⟩)) rfl

theorem size_not_modules {X : Wd} {h : Heap} (T : X.Tp h) : (h.objs.size == sysModules) = false := by
  have := T.g.lt
  have e : mainGlobals = 3 := rfl
  have e' : sysModules = 1 := rfl
  rw [e] at this; rw [e']
  have h2 : h.objs.size ≠ (1 : Nat) := Nat.ne_of_gt (Nat.lt_trans (by decide : (1 : Nat) < 3) this)
  simpa using h2

theorem DicO.new {X : Wd} : DicO X { cls := .type "dict", data := .dict #[] } [] := ⟨⟨rfl, rfl, rfl⟩, #[], 0, rfl, fun _ he => by simp at he, .nil, .nil⟩

/-- x = {}, to be changed -/
theorem Do1.newDict {x : Str} {xpos lpos pos : Pos} (hx : c.sto x) :
    Do1 c ρ (.Assign [.Name x xpos] (.Dict [] [] lpos) pos) (.next ((x, .odict []) :: ρ)) :=
  fun env A B G s Q he hr F k => wpAny_Assign_Name (by
    have kp : Kp c.X s.heap (s.heap.push { cls := .type "dict", data := .dict #[] }) := .push
    have F₂ := F.grow kp (.same F.hold kp)
    show wpAny c.X.M A (standAt lpos >>= fun _ => dictDisplay []) _ NoE s
    refine wpAny_bind (wpAny_standAt ?_)
    show wpAny c.X.M A PySem.newDict _ NoE s
    refine wpAny_newObj_type ?_
    refine F₂.store (s := { s with heap := s.heap.push { cls := .type "dict", data := .dict #[] } }) he hx (sl := .odict []) ⟨_, _, [], rfl, Heap.get?_push_size _ rfl, .new, .nil, Fz.none_of F.hold (get?_size _), Fz.none_of F.keep (get?_size _), ?_, size_not_modules F.tph⟩ (fun _ => ⟨s.heap, F, kp, fun a e => by cases e; exact get?_size _⟩) fun s₂ st₂ F₃ => k s₂ G (SStp.trans (s' := { s with heap := s.heap.push { cls := .type "dict", data := .dict #[] } }) ⟨kp.tab, id, rfl, rfl⟩ st₂) .refl F₃
    obtain ⟨m, hm, _⟩ := F.vals
    exact Nat.ne_of_gt hm.lt) rfl

/-- {} as a value -/
theorem Ev.emptyDict {pos : Pos} : Ev c ρ (.Dict [] [] pos) (.dict []) := fun env A B G s he hr F Q hq => by
  show wpAny c.X.M A (standAt pos >>= fun _ => dictDisplay []) _ NoE s
  refine wpAny_bind (wpAny_standAt ?_)
  show wpAny c.X.M A PySem.newDict _ NoE s
  refine wpAny_newObj_type ?_
  exact hq _ _ (G.put s.heap.objs.size { cls := .type "dict", data := .dict #[] }) (Stp.push (t := s.toks)) (.put F.hold (.push (X := c.X)) (get?_size _) (Heap.get?_push_size _ rfl)) (.dict Fz.put_self .new .nil (size_not_modules F.tph))

/-- an owned object is changed no more -/
theorem FI.freeze {X : Wd} {oc : List Str} {env : Env} {ρ : AEnv} {B G : Fz} {h : Heap} {x : Str} {sl : Slot} {d : D} (F : FI X oc env ρ B G h) (hx : ρ.lookup x = some sl) (hd : (∃ kds, sl = .odict kds ∧ d = .dict kds) ∨ ∃ ds, sl = .olist ds ∧ d = .list ds) :
    ∃ G', G.GrowB B G' ∧ FI X oc env ((x, .val d) :: ρ) B G' h := by
  obtain ⟨m, hm, V, h1, h2⟩ := F.vals
  obtain ⟨hnx, hslx⟩ := h1 x sl hx
  have hao : ∃ a o, V x = .ref a ∧ h.get? a = some o ∧ G a = none ∧ B a = none ∧ a ≠ env.locals ∧ (∀ c v, h.IsCell c v → a ≠ c) ∧ sl.own = true ∧ ¬ Tab o ∧ (∀ G', G.Le G' → G' a = some o → Rel X G' (.ref a) d) := by
    rcases hd with ⟨kds, rfl, rfl⟩ | ⟨ds, rfl, rfl⟩
    · obtain ⟨b, o, kv, e, ho, hd', hr, hg, hb, hL, hm⟩ := hslx
      exact ⟨b, o, e, ho, hg, hb, hL, fun c v hc => cell_ne_dict ho hd' hc, rfl, hd'.nt, fun G' le e' => .dict e' hd' (RelKv.mono le hr) hm⟩
    · obtain ⟨b, o, kv, e, ho, hd', hr, hg, hb, hL⟩ := hslx
      exact ⟨b, o, e, ho, hg, hb, hL, fun c v hc => cell_ne_list ho hd' hc, rfl, hd'.nt, fun G' le e' => .list e' hd' (RelAll.mono le hr)⟩
  obtain ⟨a, o, hV, ho, hg, hb, hL, hcell, hown, hnt, hrel⟩ := hao
  refine ⟨G.put a o, ⟨Fz.put_le hg, fun b o' e => Fz.put_ne fun q => by subst q; rw [hb] at e; cases e⟩, ?_⟩
  exact {
    tp := F.tp
    tb := F.tb
    cd := F.cd
    keep := F.keep
    hold := Fz.put_in F.hold ho hnt
    gL := (Fz.put_ne (Ne.symm hL)).trans F.gL
    bL := F.bL
    ocs := fun y hy => by
      obtain ⟨hk', c', e', g', b', v', hv'⟩ := F.ocs y hy
      exact ⟨hk', c', e', (Fz.put_ne (Ne.symm (hcell c' v' hv'))).trans g', b', v', hv'⟩
    ocinj := F.ocinj
    fc := F.fc
    vals := by
      refine ⟨m, hm, V, fun y sy e => ?_, ?_⟩
      · by_cases hy : y = x
        · subst hy
          rw [lookup_cons_self] at e; cases e
          exact ⟨hnx, by rw [hV]; exact hrel _ (Fz.put_le hg) Fz.put_self⟩
        · rw [lookup_cons_ne hy] at e
          obtain ⟨hny, hsy⟩ := h1 y sy e
          refine ⟨hny, ?_⟩
          cases sy with
          | val d => exact Rel.mono (Fz.put_le hg) hsy
          | odict kvs =>
            obtain ⟨b, o', kv, eb, ho', hd', hr, hg', hb', hL', hm'⟩ := hsy
            exact ⟨b, o', kv, eb, ho', hd', RelKv.mono (Fz.put_le hg) hr, (Fz.put_ne (a := a) (b := b) fun q => hy (h2 y x _ sl a e hx rfl hown (by rw [eb, q]) hV)).trans hg', hb', hL', hm'⟩
          | olist ds =>
            obtain ⟨b, o', kv, eb, ho', hd', hr, hg', hb', hL'⟩ := hsy
            exact ⟨b, o', kv, eb, ho', hd', RelAll.mono (Fz.put_le hg) hr, (Fz.put_ne (a := a) (b := b) fun q => hy (h2 y x _ sl a e hx rfl hown (by rw [eb, q]) hV)).trans hg', hb', hL'⟩
      · intro y z sy sz b ey ez oy oz vy vz
        have red : ∀ y sy, List.lookup y ((x, .val d) :: ρ) = some sy → sy.own = true → ρ.lookup y = some sy := fun y sy e o => by
          by_cases hy : y = x
          · subst hy; rw [lookup_cons_self] at e; cases e; cases o
          · rw [lookup_cons_ne hy] at e; exact e
        exact h2 y z sy sz b (red y sy ey oy) (red z sz ez oz) oy oz vy vz }

theorem Does.freezeD {x : Str} {kds : List (Str × D)} {ss : List Stmt} {o : Out} (hx : ρ.lookup x = some (.odict kds)) (h : Does c ((x, .val (.dict kds)) :: ρ) ss o) : Does c ρ ss o := fun env A B G s Q he hr F k => by
  obtain ⟨G', g, F'⟩ := F.freeze hx (.inl ⟨kds, rfl, rfl⟩)
  exact h env A B G' s Q he hr F' (k.back .refl g)
theorem Does.freezeL {x : Str} {ds : List D} {ss : List Stmt} {o : Out} (hx : ρ.lookup x = some (.olist ds)) (h : Does c ((x, .val (.list ds)) :: ρ) ss o) : Does c ρ ss o := fun env A B G s Q he hr F k => by
  obtain ⟨G', g, F'⟩ := F.freeze hx (.inr ⟨ds, rfl, rfl⟩)
  exact h env A B G' s Q he hr F' (k.back .refl g)
end
end Mine
end

section
set_option linter.unusedVariables false
namespace Mine

/-! ## a def of the text is entered -/
theorem bindL_keep {kindOf : Str → Option NameKind} {x : Str} : ∀ (binds : List (Str × Value)) (m : Str → Option Value), x ∉ binds.map (·.1) → bindL kindOf binds m x = m x
  | [], _, _ => rfl
  | (n, v) :: r, m, h => by
    simp only [List.map_cons, List.mem_cons, not_or] at h
    unfold bindL
    rw [bindL_keep r _ h.2]
    split
    · exact if_neg h.1
    · rfl
theorem bindC_keep {kindOf : Str → Option NameKind} {x : Str} : ∀ (binds : List (Str × Value)) (m : Str → Option Value), x ∉ binds.map (·.1) → bindC kindOf binds m x = m x
  | [], _, _ => rfl
  | (n, v) :: r, m, h => by
    simp only [List.map_cons, List.mem_cons, not_or] at h
    unfold bindC
    rw [bindC_keep r _ h.2]
    split
    · rfl
    · exact if_neg h.1
theorem bindL_get {kindOf : Str → Option NameKind} {x : Str} {v : Value} (hk : kindOf x = some .local) : ∀ (binds : List (Str × Value)) (m : Str → Option Value), (binds.map (·.1)).Nodup → binds.lookup x = some v → bindL kindOf binds m x = some v
  | [], _, _, h => by cases h
  | (n, u) :: r, m, hn, h => by
    simp only [List.map_cons, List.nodup_cons] at hn
    unfold bindL
    rw [List.lookup_cons] at h
    by_cases e : x = n
    · subst e
      rw [beq_self_eq_true] at h
      cases h
      rw [bindL_keep r _ hn.1, if_pos hk]
      exact if_pos rfl
    · have : (x == n) = false := by simpa using e
      rw [this] at h
      exact bindL_get hk r _ hn.2 h
theorem bindC_get {kindOf : Str → Option NameKind} {x : Str} {v : Value} (hk : kindOf x = some .cell) : ∀ (binds : List (Str × Value)) (m : Str → Option Value), (binds.map (·.1)).Nodup → binds.lookup x = some v → bindC kindOf binds m x = some v
  | [], _, _, h => by cases h
  | (n, u) :: r, m, hn, h => by
    simp only [List.map_cons, List.nodup_cons] at hn
    unfold bindC
    rw [List.lookup_cons] at h
    by_cases e : x = n
    · subst e
      rw [beq_self_eq_true] at h
      cases h
      rw [bindC_keep r _ hn.1, if_neg (by rw [hk]; decide)]
      exact if_pos rfl
    · have : (x == n) = false := by simpa using e
      rw [this] at h
      exact bindC_get hk r _ hn.2 h

theorem cellsFrom_mem {x : Str} {c : Addr} : ∀ (names : List (Str × NameKind)) (n : Nat) (acc : List (Str × Addr)), (x, c) ∈ cellsFrom n names acc → (x, c) ∈ acc ∨ ((x, NameKind.cell) ∈ names ∧ n ≤ c)
  | [], _, _, h => .inl h
  | (y, k) :: r, n, acc, h => by
    unfold cellsFrom at h
    split at h
    · rename_i hk
      rcases cellsFrom_mem r (n + 1) _ h with h | ⟨h, hl⟩
      · rcases List.mem_cons.mp h with e | h
        · cases e; exact .inr ⟨by rw [beq_iff_eq.mp hk]; exact List.mem_cons_self, Nat.le_refl _⟩
        · exact .inl h
      · exact .inr ⟨List.mem_cons_of_mem _ h, by omega⟩
    · rcases cellsFrom_mem r n _ h with h | ⟨h, hl⟩
      · exact .inl h
      · exact .inr ⟨List.mem_cons_of_mem _ h, hl⟩

/-- the names that are cells of the block's own -/
noncomputable def ownCells (sc : Scope) : List Str := (sc.names.filter fun x => x.2 == .cell).map (·.1)
theorem mem_ownCells {sc : Scope} {x : Str} : x ∈ ownCells sc ↔ (x, NameKind.cell) ∈ sc.names := by
  unfold ownCells
  simp only [List.mem_map, List.mem_filter]
  constructor
  · rintro ⟨⟨y, k⟩, ⟨h, e⟩, rfl⟩
    have : k = .cell := by simpa using e
    subst this; exact h
  · intro h; exact ⟨(x, .cell), ⟨h, rfl⟩, rfl⟩

/-- the arguments as the frame's first names -/
noncomputable def argEnv (names : List Str) (ds : List D) : AEnv := names.zip (ds.map Slot.val)

theorem argEnv_lookup {X : Wd} {G : Fz} {x : Str} {sl : Slot} : ∀ {names : List Str} {vs : List Value} {ds : List D}, RelAll X G vs ds → (argEnv names ds).lookup x = some sl → ∃ v d, sl = .val d ∧ (names.zip vs).lookup x = some v ∧ Rel X G v d
  | [], _, _, _, h => by simp [argEnv] at h
  | n :: names, _, _, .nil, h => by simp [argEnv] at h
  | n :: names, _, _, .cons (v := v) (d := d) r rs, h => by
    simp only [argEnv, List.map_cons, List.zip_cons_cons, List.lookup_cons] at h ⊢
    cases e : x == n with
    | true => rw [e] at h; cases h; exact ⟨v, d, rfl, rfl, r⟩
    | false => rw [e] at h; exact argEnv_lookup (names := names) rs h

theorem get?_ge {h : Heap} {a : Addr} (ha : h.objs.size ≤ a) : h.get? a = none := by
  cases q : h.get? a with
  | none => rfl
  | some o => exact absurd (Heap.lt_size q) (Nat.not_lt.mpr ha)

/-- a heap but for its tables -/
noncomputable def hf (h : Heap) : Fz := fun a => match h.get? a with
  | some o => @ite _ (Tab o) (Classical.propDecidable _) none (some o)
  | none => none
theorem hf_iff {h : Heap} {a : Addr} {o : Obj} : hf h a = some o ↔ h.get? a = some o ∧ ¬ Tab o := by
  unfold hf
  cases h.get? a with
  | none => simp
  | some o' =>
    by_cases t : Tab o'
    · simp only [if_pos t]
      constructor
      · intro e; cases e
      · rintro ⟨e, n⟩; cases e; exact absurd t n
    · simp only [if_neg t]
      constructor
      · intro e; cases e; exact ⟨rfl, t⟩
      · rintro ⟨e, n⟩; exact e
theorem hf_none {h : Heap} {a : Addr} (e : h.get? a = none) : hf h a = none := by unfold hf; rw [e]
theorem hf_in {X : Wd} {h h' : Heap} (hk : Kp X h h') : (hf h).In h' := ⟨fun a o e => hk.get _ _ (hf_iff.mp e).1 (hf_iff.mp e).2, fun a o e => (hf_iff.mp e).2⟩

/-- the def's frame -/
theorem FI.enter {X : Wd} {G : Fz} {s : Shared} {name : Str} {scope : Scope} {a : Addr} {cd : Value} {h₁ : Heap} {names : List Str} {vs : List Value} {ds : List D} (T : X.Tp s.heap) (hG : G.In s.heap) (hr : RelAll X G vs ds) (hcd : ∃ c P, cd = .ref c ∧ X.ct c P)
    (hnd : names.Nodup) (hlen : names.length = ds.length) (hkind : ∀ x ∈ names, scope.names.lookup x = some .local ∨ scope.names.lookup x = some .cell) (hoc : ∀ x ∈ ownCells scope, scope.names.lookup x = some .cell)
    (F : Fr s.heap s.heap.objs.size h₁ (bindL (envOfC name scope s.heap.objs.size a cd).kindOf (names.zip vs) fun _ => none))
    (C : Cl s.heap.objs.size (cellsFrom (s.heap.objs.size + 1) scope.names []) h₁ (bindC (envOfC name scope s.heap.objs.size a cd).kindOf (names.zip vs) fun _ => none)) :
    FI X (ownCells scope) (envOfC name scope s.heap.objs.size a cd) (argEnv names ds) (hf s.heap) G h₁ where
  tp := ⟨s.heap, T, fun _ _ e n => hf_iff.mpr ⟨e, n⟩⟩
  tb := T.tb.keeps (.of F.keep)
  cd := hcd
  keep := hf_in (.of (X := X) F.keep)
  hold := hG.kp (.of (X := X) F.keep)
  gL := Fz.none_of hG (get?_size _)
  bL := hf_none (get?_size _)
  ocs := fun x hx => by
    obtain ⟨c, hc⟩ := Option.isSome_iff_exists.mp (cellsFrom_some (x := x) scope.names (s.heap.objs.size + 1) [] (.inl (hoc x hx)))
    have hlt := C.above x c (mem_of_lookup hc)
    have hn : s.heap.get? c = none := get?_ge (Nat.le_of_lt hlt)
    exact ⟨hoc x hx, c, hc, Fz.none_of hG hn, hf_none hn, _, C.cell x c hc⟩
  ocinj := fun x hx y hy c hc hc' => name_of_addr C.apart (mem_of_lookup hc) (mem_of_lookup hc')
  fc := fun x c hx hc => by
    rcases cellsFrom_mem scope.names (s.heap.objs.size + 1) [] (mem_of_lookup hc) with h | ⟨h, _⟩
    · cases h
    · exact absurd (mem_ownCells.mpr h) hx
  vals := by
    refine ⟨_, F.ns, fun x => ((names.zip vs).lookup x).getD .none, fun x sl e => ?_, fun x y sx sy b ex ey ox => ?_⟩
    · obtain ⟨v, d, rfl, hv, hrel⟩ := argEnv_lookup hr e
      have hvs : vs.length = ds.length := hr.length
      have hnd' : ((names.zip vs).map (·.1)).Nodup := by
        have : (names.zip vs).map (·.1) = names := List.map_fst_zip (by omega)
        rw [this]; exact hnd
      have hxn : x ∈ names := by
        have := mem_of_lookup hv
        exact (List.of_mem_zip this).1
      have hgv : ((fun x => ((names.zip vs).lookup x).getD .none) : Str → Value) x = v := by show ((names.zip vs).lookup x).getD .none = v; rw [hv]; rfl
      rw [hgv]
      refine ⟨?_, hrel⟩
      rcases hkind x hxn with hk | hk
      · exact .inl ⟨hk, bindL_get hk _ _ hnd' hv⟩
      · obtain ⟨c, hc⟩ := Option.isSome_iff_exists.mp (cellsFrom_some (x := x) scope.names (s.heap.objs.size + 1) [] (.inl hk))
        refine .inr ⟨.inl hk, c, hc, ?_⟩
        have := C.cell x c hc
        rwa [bindC_get hk _ _ hnd' hv] at this
    · obtain ⟨v, d, rfl, hv, hrel⟩ := argEnv_lookup hr ex
      cases ox

/-- a def of the text by its body -/
theorem Cal.of {X : Wd} {k : Nat} {r : DefRec} {names : List Str} {ds : List D} {d : D} (hrec : r ∈ recsOf X.p)
    (hbind : ∀ pm cd doc vs, vs.length = ds.length → bindArgs (Calls.docDef r.name r.params r.body r.scope pm cd doc) ⟨vs, []⟩ = pure (names.zip vs))
    (hnd : names.Nodup) (hlen : names.length = ds.length) (hkind : ∀ x ∈ names, r.scope.names.lookup x = some .local ∨ r.scope.names.lookup x = some .cell) (hoc : ∀ x ∈ ownCells r.scope, r.scope.names.lookup x = some .cell)
    (hco : r.scope.isCoroutine = false) (hgen : r.scope.isGenerator = false) (hk : r.scope.kind = .function)
    (h : Does ⟨X, k, r.scope, ownCells r.scope⟩ (argEnv names ds) r.body (.ret d)) : Cal X (k + 1) r.name ds d := by
  refine ⟨⟨r, hrec, rfl⟩, fun fa hfa A G s vs hr T hG hrel Q hq => ?_⟩
  obtain ⟨fa', o, pm, code, doc, hfa', ho, hdat, hcd, hct⟩ := T.fn r hrec
  rw [hfa] at hfa'; cases hfa'
  refine wpAny_call (call_cells_ret (by have := hr.dp; omega) ho hdat T.nolimit hcd (hbind pm code doc vs hrel.length) (fun x hx => ?_) (fun h₁ tk F C => ?_) hco hgen hk)
  · have hxn : x.1 ∈ names := (List.of_mem_zip (l₁ := names) (l₂ := vs) (by exact hx)).1
    rcases hkind x.1 hxn with e | e
    · exact .inl e
    · exact .inr ⟨e, cellsFrom_some _ _ _ (.inl e)⟩
  · have FF := FI.enter (name := r.name) (scope := r.scope) (a := fa) (cd := code) T hG hrel hct hnd hlen hkind hoc F C
    refine wpAny_mono (h (envOfC r.name r.scope s.heap.objs.size fa code) (A.deeper (envOfC r.name r.scope s.heap.objs.size fa code)) (hf s.heap) G { s with heap := h₁, toks := tk } (fun f s' => ∃ v, f = .ret v ∧ Q v s') ⟨rfl, hk, rfl, rfl⟩ ⟨hr.hd, ?_, ?_⟩ FF ?_) (fun f s' hf => ?_) fun _ _ e => e
    · show A.depth + 1 + k < recursionLimit
      have := hr.dp; omega
    · show A.units + 3 + 40 * k + 40 < cLine
      have := hr.un; omega
    · intro v s' G' st g hi hk' hrel'
      refine ⟨v, rfl, hq v s' G' ⟨⟨fun b o e n => hk'.get b o (hf_iff.mpr ⟨e, n⟩), (Kp.of F.keep).tab.trans st.tabs⟩, st.gens, st.drawn, st.os⟩ ⟨g.le, hi, fun a o e => ?_⟩ hrel'⟩
      by_cases n : Tab o
      · have h1 : G a = none := by
          cases q : G a with
          | none => rfl
          | some o' => have := hG.get a o' q; rw [e] at this; cases this; exact absurd n (hG.nt a o q)
        have h2 : G' a = none := by
          cases q : G' a with
          | none => rfl
          | some o' =>
            obtain ⟨o2, e2, t2⟩ := st.tabs.at ((Kp.of (X := X) F.keep).tab.at ⟨o, e, n⟩)
            have := hi.get a o' q; rw [e2] at this; cases this
            exact absurd t2 (hi.nt a _ q)
        rw [h1, h2]
      · exact g.old a o (hf_iff.mpr ⟨e, n⟩)
    · obtain ⟨v, rfl, hv⟩ := hf
      exact hv
end Mine
end

section
set_option linter.unusedVariables false
namespace Mine

/-! ## iterators -/
/-- a step that may turn the object at I alone -/
structure StpI (I : Addr) (s s' : Shared) : Prop where
  heap : ∀ b o, b ≠ I → s.heap.get? b = some o → s'.heap.get? b = some o
  gens : AllBare s.gens → AllBare s'.gens
  drawn : s'.drawn = s.drawn
  os : s'.os = s.os
theorem StpI.of {I : Addr} {s : Shared} {h : Heap} {t : Nat} (hk : ∀ b o, b ≠ I → s.heap.get? b = some o → h.get? b = some o) : StpI I s { s with heap := h, toks := t } := ⟨hk, id, rfl, rfl⟩
theorem StpI.tabs {X : Wd} {I : Addr} {s s' : Shared} (x : StpI I s s') {o : Obj} (ho : s.heap.get? I = some o) (n : ¬ Tab o) : TG X s.heap s'.heap := tabs_but x.heap fun o' e => by rw [ho] at e; cases e; exact n
theorem StpI.s {X : Wd} {I : Addr} {s s' : Shared} (x : StpI I s s') {o : Obj} (ho : s.heap.get? I = some o) (n : ¬ Tab o) : SStp X s s' := ⟨x.tabs ho n, x.gens, x.drawn, x.os⟩
theorem StpI.trans {I : Addr} {s s' s'' : Shared} (x : StpI I s s') (y : StpI I s' s'') : StpI I s s'' := ⟨fun b o hb e => y.heap b o hb (x.heap b o hb e), fun g => y.gens (x.gens g), y.drawn.trans x.drawn, y.os.trans x.os⟩

/-- the iterator at I, over the data that are left -/
structure Iter (X : Wd) (A : Around) (tgt : PySem.Expr) (I : Addr) (St : Fz → Obj → List D → Prop) : Prop where
  mono : ∀ {G G' : Fz} {o : Obj} {ds : List D}, G.Le G' → St G o ds → St G' o ds
  nt : ∀ {G : Fz} {o : Obj} {ds : List D}, St G o ds → ¬ Tab o
  next : ∀ (G : Fz) (s : Shared) (o : Obj) (d : D) (ds : List D) (Q : Value → Shared → Prop), G.In s.heap → G I = none → s.heap.get? I = some o → St G o (d :: ds) →
    (∀ v s' G' o', StpI I s s' → G.Grow s.heap G' s'.heap → s'.heap.get? I = some o' → St G' o' ds → Rel X G' v d → Q v s') →
    wpAny X.M A (pyNext (.ref I)) (fun r s₁ => match r with | none => False | some v => wpAny X.M A (letOwnedTupleGo tgt (.ref I) v) (fun _ s₂ => Q v s₂) NoE s₁) NoE s
  done : ∀ (G : Fz) (s : Shared) (o : Obj) (Q : Shared → Prop), G.In s.heap → G I = none → s.heap.get? I = some o → St G o [] →
    (∀ s', StpI I s s' → Q s') → wpAny X.M A (pyNext (.ref I)) (fun r s₁ => r = none ∧ Q s₁) NoE s
  self : ∀ (G : Fz) (s : Shared) (o : Obj) (ds : List D) (Q : Value → Shared → Prop), G.In s.heap → s.heap.get? I = some o → St G o ds → Q (.ref I) s → wpAny X.M A (pyIter (.ref I)) Q NoE s

/-- the head of a loop: the source is reckoned and made an iterator -/
noncomputable def EvIt (c : Cx) (ρ : AEnv) (tgt : PySem.Expr) (e : PySem.Expr) (ds : List D) : Prop :=
  ∀ (env : Env) (A : Around) (B : Fz) (G : Fz) (s : Shared) (Q : Value → Shared → Prop), EnvOk c.sc env → Rm c.k A → FI c.X c.oc env ρ B G s.heap →
    (∀ I s' G' o St, Stp c.X s s' → G.Grow s.heap G' s'.heap → s.heap.get? I = none → G' I = none → s'.heap.get? I = some o → Iter c.X A tgt I St → St G' o ds → Q (.ref I) s') →
    wpAny c.X.M A (eval e env) (fun x s₁ => wpAny c.X.M A (pyIter x) Q NoE s₁) NoE s

/-! ### the frame with an iterator in its base -/
theorem Fz.put_put {B : Fz} {I : Addr} {o o' : Obj} : (B.put I o).put I o' = B.put I o' := by
  funext a; simp only [Fz.put]; split <;> rfl

/-- the base changes at I, the heap too -/
theorem FI.rebase {X : Wd} {oc : List Str} {env : Env} {ρ : AEnv} {B₁ B₂ G G' : Fz} {h h' : Heap} {I : Addr} (F : FI X oc env ρ B₁ G h) (hI : ∀ b o, b ≠ I → h.get? b = some o → ¬ Tab o → h'.get? b = some o) (htb : TG X h h') (g : G.Grow h G' h')
    (hL : env.locals ≠ I) (hc : ∀ x c, env.cells.lookup x = some c → c ≠ I) (hown : ∀ x sl a, ρ.lookup x = some sl → sl.own = true → HeldAt env h x a → a ≠ I)
    (h1 : ∀ b o, b ≠ I → B₂ b = some o → B₁ b = some o) (h2 : ∀ o, B₂ I = some o → h'.get? I = some o) (h3 : ∀ b o, b ≠ I → B₁ b = some o → B₂ b = some o) (hnI : ∀ o, B₂ I = some o → ¬ Tab o) (htp : ∃ h₁, X.Tp h₁ ∧ ∀ b o, h₁.get? b = some o → ¬ Tab o → B₂ b = some o) : FI X oc env ρ B₂ G' h' where
  tp := htp
  tb := fun c P hc => htb.at (F.tb c P hc)
  cd := F.cd
  keep := by
    refine ⟨fun b o e => ?_, fun b o e => ?_⟩
    · by_cases hb : b = I
      · subst hb; exact h2 o e
      · exact hI b o hb (F.keep.get b o (h1 b o hb e)) (F.keep.nt b o (h1 b o hb e))
    · by_cases hb : b = I
      · subst hb; exact hnI o e
      · exact F.keep.nt b o (h1 b o hb e)
  hold := g.hold
  gL := by obtain ⟨m, ⟨o, _, _, hL, _⟩, _⟩ := F.vals; exact (g.old _ o hL).trans F.gL
  bL := by
    cases q : B₂ env.locals with
    | none => rfl
    | some o => have := h1 _ o hL q; rw [F.bL] at this; cases this
  ocs := fun x hx => by
    obtain ⟨k, c, e, hg, hb, v, o, ho, hd⟩ := F.ocs x hx
    refine ⟨k, c, e, (g.old c o ho).trans hg, ?_, v, o, hI c o (hc x c e) ho (nt_cell hd), hd⟩
    cases q : B₂ c with
    | none => rfl
    | some o => have := h1 _ o (hc x c e) q; rw [hb] at this; cases this
  ocinj := F.ocinj
  fc := fun x c hx e => by obtain ⟨o, ho⟩ := F.fc x c hx e; exact ⟨o, h3 c o (hc x c e) ho⟩
  vals := by
    obtain ⟨m, hm, V, k1, k2⟩ := F.vals
    refine ⟨m, ?_, V, fun x sl e => ?_, k2⟩
    · obtain ⟨o, es, ep, e, d, r⟩ := hm; exact ⟨o, es, ep, hI _ o hL e (nt_dict d), d, r⟩
    · obtain ⟨hn, hs⟩ := k1 x sl e
      refine ⟨?_, ?_⟩
      · rcases hn with hl | ⟨hk, c, hcc, o, ho, hd⟩
        · exact .inl hl
        · exact .inr ⟨hk, c, hcc, o, hI c o (hc x c hcc) ho (nt_cell hd), hd⟩
      · have hB : ∀ a, a ≠ I → B₁ a = none → B₂ a = none := fun a ha hb => by
          cases q : B₂ a with
          | none => rfl
          | some o => have := h1 _ o ha q; rw [hb] at this; cases this
        cases sl with
        | val d => exact Rel.mono g.le hs
        | odict kvs =>
          obtain ⟨a, o, kv, ev, ho, hd, hr, hg, hb, hl, hm'⟩ := hs
          have ha : a ≠ I := hown x _ a e rfl ⟨m, hm, ev ▸ hn⟩
          exact ⟨a, o, kv, ev, hI a o ha ho hd.nt, hd, RelKv.mono g.le hr, (g.old a o ho).trans hg, hB a ha hb, hl, hm'⟩
        | olist ds =>
          obtain ⟨a, o, kv, ev, ho, hd, hr, hg, hb, hl⟩ := hs
          have ha : a ≠ I := hown x _ a e rfl ⟨m, hm, ev ▸ hn⟩
          exact ⟨a, o, kv, ev, hI a o ha ho hd.nt, hd, RelAll.mono g.le hr, (g.old a o ho).trans hg, hB a ha hb, hl⟩

theorem FI.held_none {X : Wd} {oc : List Str} {env : Env} {ρ : AEnv} {B G : Fz} {h : Heap} {x : Str} {sl : Slot} {a : Addr} (F : FI X oc env ρ B G h) (hx : ρ.lookup x = some sl) (ho : sl.own = true) (hn : HeldAt env h x a) : B a = none ∧ (∃ o, h.get? a = some o) ∧ G a = none := by
  obtain ⟨m, hm, V, h1, h2⟩ := F.vals
  obtain ⟨m', hm', hn'⟩ := hn
  obtain ⟨hnx, hsl⟩ := h1 x sl hx
  have hV : V x = .ref a := NameIs.det hm hm' hnx hn'
  rw [hV] at hsl
  cases sl with
  | val d => cases ho
  | odict kvs => obtain ⟨b, o, kv, e, ho, hd', hr, hg, hb, hL, hm⟩ := hsl; cases e; exact ⟨hb, ⟨o, ho⟩, hg⟩
  | olist ds => obtain ⟨b, o, kv, e, ho, hd', hr, hg, hb, hL⟩ := hsl; cases e; exact ⟨hb, ⟨o, ho⟩, hg⟩

theorem FI.cells_at {X : Wd} {oc : List Str} {env : Env} {ρ : AEnv} {B G : Fz} {h : Heap} (F : FI X oc env ρ B G h) {x : Str} {c : Addr} (e : env.cells.lookup x = some c) : ∃ o, h.get? c = some o := by
  by_cases hx : x ∈ oc
  · obtain ⟨_, c', e', _, _, v, o, ho, _⟩ := F.ocs x hx
    rw [e] at e'; cases e'; exact ⟨o, ho⟩
  · obtain ⟨o, ho⟩ := F.fc x c hx e; exact ⟨o, F.keep.get _ _ ho⟩

/-- a new iterator is laid into the base -/
theorem FI.iterIn {X : Wd} {oc : List Str} {env : Env} {ρ : AEnv} {B G G' : Fz} {h h' : Heap} {I : Addr} {o : Obj} (F : FI X oc env ρ B G h) (hk : Kp X h h') (g : G.Grow h G' h') (hn : h.get? I = none) (ho : h'.get? I = some o) (nI : ¬ Tab o) :
    FI X oc env ρ (B.put I o) G' h' ∧ env.locals ≠ I ∧ (∀ x c, env.cells.lookup x = some c → c ≠ I) ∧ B I = none := by
  have hne : ∀ {b o}, h.get? b = some o → b ≠ I := fun {b o} e q => by subst q; rw [hn] at e; cases e
  have hL : env.locals ≠ I := by obtain ⟨m, ⟨o, _, _, e, _⟩, _⟩ := F.vals; exact hne e
  have hc : ∀ x c, env.cells.lookup x = some c → c ≠ I := fun x c e => by obtain ⟨o, ho⟩ := F.cells_at e; exact hne ho
  have hB : B I = none := by
    cases q : B I with
    | none => rfl
    | some o => have := F.keep.get _ _ q; rw [hn] at this; cases this
  refine ⟨F.rebase (fun b o _ e n => hk.get b o e n) hk.tab g hL hc (fun x sl a e oo hh => ?_) (fun b o' hb e => by rwa [Fz.put_ne hb] at e) (fun o' e => by rw [Fz.put_self] at e; cases e; exact ho) (fun b o' hb e => by rwa [Fz.put_ne hb]) (fun o' e => by rw [Fz.put_self] at e; cases e; exact nI) ?_, hL, hc, hB⟩
  · obtain ⟨o, ho⟩ := (F.held_none e oo hh).2.1; exact hne ho
  · obtain ⟨h₁, T, k⟩ := F.tp; exact ⟨h₁, T, fun b o e n => Fz.put_le hB b o (k b o e n)⟩

/-- the iterator goes on -/
theorem FI.iterGo {X : Wd} {oc : List Str} {env : Env} {ρ : AEnv} {B G G' : Fz} {h h' : Heap} {I : Addr} {o o' : Obj} (F : FI X oc env ρ (B.put I o) G h) (hI : ∀ b o, b ≠ I → h.get? b = some o → h'.get? b = some o) (g : G.Grow h G' h') (ho : h'.get? I = some o') (nI : ¬ Tab o')
    (hL : env.locals ≠ I) (hc : ∀ x c, env.cells.lookup x = some c → c ≠ I) (hB : B I = none) (htp : ∃ h₁, X.Tp h₁ ∧ ∀ b o, h₁.get? b = some o → ¬ Tab o → B b = some o) : FI X oc env ρ (B.put I o') G' h' :=
  F.rebase (fun b o hb e _ => hI b o hb e) (tabs_but hI fun o₀ e₀ => by have e₁ := F.keep.get I o Fz.put_self; rw [e₁] at e₀; cases e₀; exact F.keep.nt I _ Fz.put_self) g hL hc (fun x sl a e oo hh q => by subst q; have := (F.held_none e oo hh).1; rw [Fz.put_self] at this; cases this) (fun b o' hb e => by rw [Fz.put_ne hb] at e ⊢; exact e) (fun o' e => by rw [Fz.put_self] at e; cases e; exact ho) (fun b o' hb e => by rw [Fz.put_ne hb] at e ⊢; exact e) (fun o' e => by rw [Fz.put_self] at e; cases e; exact nI)
    (let ⟨h₁, T, k⟩ := htp; ⟨h₁, T, fun b o e n => Fz.put_le hB b o (k b o e n)⟩)
/-- the iterator is dropped -/
theorem FI.iterOut {X : Wd} {oc : List Str} {env : Env} {ρ : AEnv} {B G : Fz} {h h' : Heap} {I : Addr} {o : Obj} (F : FI X oc env ρ (B.put I o) G h) (hI : ∀ b o, b ≠ I → h.get? b = some o → h'.get? b = some o) (hg : G I = none)
    (hL : env.locals ≠ I) (hc : ∀ x c, env.cells.lookup x = some c → c ≠ I) (hB : B I = none) (htp : ∃ h₁, X.Tp h₁ ∧ ∀ b o, h₁.get? b = some o → ¬ Tab o → B b = some o) : FI X oc env ρ B G h' :=
  F.rebase (fun b o hb e _ => hI b o hb e) (tabs_but hI fun o₀ e₀ => by have e₁ := F.keep.get I o Fz.put_self; rw [e₁] at e₀; cases e₀; exact F.keep.nt I _ Fz.put_self) ⟨.refl, ⟨fun b o e => hI b o (fun q => by subst q; rw [hg] at e; cases e) (F.hold.get b o e), F.hold.nt⟩, fun _ _ _ => rfl⟩ hL hc (fun x sl a e oo hh q => by subst q; have := (F.held_none e oo hh).1; rw [Fz.put_self] at this; cases this) (fun b o' hb e => by rw [Fz.put_ne hb]; exact e) (fun o' e => by rw [hB] at e; cases e) (fun b o' hb e => by rwa [Fz.put_ne hb] at e) (fun o' e => by rw [hB] at e; cases e) htp

/-! ## for -/
inductive Lp (c : Cx) (tgt : PySem.Expr) (body : List Stmt) : AEnv → List D → Out → Prop
  | nil {ρ : AEnv} : Lp c tgt body ρ [] (.next ρ)
  | next {ρ ρ₁ ρ₂ : AEnv} {d : D} {ds : List D} {o : Out} : Asg c ρ tgt d ρ₁ → Does c ρ₁ body (.next ρ₂) → Lp c tgt body ρ₂ ds o → Lp c tgt body ρ (d :: ds) o
  | ret {ρ ρ₁ : AEnv} {d d' : D} {ds : List D} : Asg c ρ tgt d ρ₁ → Does c ρ₁ body (.ret d') → Lp c tgt body ρ (d :: ds) (.ret d')

theorem Fz.GrowB.put {G G' B : Fz} {I : Addr} {o : Obj} (hB : B I = none) (g : G.GrowB (B.put I o) G') : G.GrowB B G' := ⟨g.le, fun a o' e => g.old a o' (Fz.put_le hB a o' e)⟩

theorem Lp.code {c : Cx} {tgt : PySem.Expr} {body : List Stmt} {env : Env} {A : Around} {B : Fz} {I : Addr} {St : Fz → Obj → List D → Prop} (he : EnvOk c.sc env) (hr : Rm c.k A) (W : Iter c.X A tgt I St)
    (hL : env.locals ≠ I) (hc : ∀ x cc, env.cells.lookup x = some cc → cc ≠ I) (hB : B I = none) (htp : ∃ h₁, c.X.Tp h₁ ∧ ∀ b o, h₁.get? b = some o → ¬ Tab o → B b = some o) {ρ : AEnv} {ds : List D} {out : Out} (L : Lp c tgt body ρ ds out)
    {G : Fz} {s : Shared} {o : Obj} {Q : Flow → Shared → Prop} (F : FI c.X c.oc env ρ (B.put I o) G s.heap) (hg : G I = none) (ho : s.heap.get? I = some o) (st : St G o ds) (k : Ends c env B G s out Q) :
      codeAny c.X.M A (.forLoop tgt (.ref I) body [] env) (fun r s' => match r with | .ok f => Q f s' | .error e => cameBackBy c.X.M A env NoE e s') s := by
  refine codeAny_forLoop_any (fun n s' => ∃ ρ ds G o, n = ds.length ∧ Lp c tgt body ρ ds out ∧ FI c.X c.oc env ρ (B.put I o) G s'.heap ∧ G I = none ∧ s'.heap.get? I = some o ∧ St G o ds ∧ Ends c env B G s' out Q) (fun n s' h => ?_) ds.length ⟨ρ, ds, G, o, rfl, L, F, hg, ho, st, k⟩
  obtain ⟨ρ, ds, G, o, rfl, L, F, hg, ho, st, k⟩ := h
  cases L with
  | nil =>
    refine wpAny_mono (W.done G s' o (fun s₁ => Q .next s₁) F.hold hg ho st fun s₁ st₁ => ?_) (fun r s₁ h => ?_) fun _ _ e => e.elim
    · exact k s₁ G (st₁.s ho (W.nt st)) .refl (F.iterOut st₁.heap hg hL hc hB htp)
    · obtain ⟨rfl, hq⟩ := h
      exact wpAny_execs_nil hq
  | @next _ ρ₁ ρ₂ d ds _ ha hb hl =>
    refine wpAny_mono (W.next G s' o d ds (fun v s₁ => wpAny c.X.M A (assign tgt env v) (fun _ s₂ => wpAny c.X.M A (execs body env) (fun f s₃ => match f with
            | .next | .cont => ∃ m, m < (d :: ds).length ∧ ∃ ρ ds G o, m = ds.length ∧ Lp c tgt body ρ ds out ∧ FI c.X c.oc env ρ (B.put I o) G s₃.heap ∧ G I = none ∧ s₃.heap.get? I = some o ∧ St G o ds ∧ Ends c env B G s₃ out Q
            | .brk => False
            | .ret v => Q (.ret v) s₃) NoE s₂) NoE s₁) F.hold hg ho st fun v s₁ G₁ o₁ st₁ g₁ ho₁ hst₁ hv => ?_) (fun r s₁ h => ?_) fun _ _ e => e.elim
    · have F₁ := F.iterGo st₁.heap g₁ ho₁ (W.nt hst₁) hL hc hB htp
      have hg₁ : G₁ I = none := (g₁.old I o ho).trans hg
      refine ha env A (B.put I o₁) G₁ s₁ v _ he hr F₁ hv fun s₂ G₂ st₂ g₂ F₂ => ?_
      refine hb env A (B.put I o₁) G₂ s₂ _ he hr F₂ fun s₃ G₃ st₃ g₃ F₃ => ?_
      have g₁₃ := g₂.trans g₃
      refine ⟨ds.length, by simp, ρ₂, ds, G₃, o₁, rfl, hl, F₃, (g₁₃.old I o₁ Fz.put_self).trans hg₁, F₃.keep.get I o₁ Fz.put_self, W.mono g₁₃.le hst₁, ?_⟩
      exact k.back ((st₁.s ho (W.nt st)).trans (st₂.trans st₃)) (Fz.GrowB.trans ⟨g₁.le, fun a o' e => g₁.old a o' (F.keep.get a o' (Fz.put_le hB a o' e))⟩ (g₁₃.put hB))
    · cases r with
      | none => exact h.elim
      | some v =>
        refine wpAny_mono h (fun _ s₂ h₂ => ?_) fun _ _ e => e.elim
        refine wpAny_mono h₂ (fun _ s₃ h₃ => ?_) fun _ _ e => e.elim
        refine wpAny_mono h₃ (fun f s₄ h₄ => ?_) fun _ _ e => e.elim
        cases f with
        | next => exact h₄
        | cont => exact h₄
        | brk => exact h₄.elim
        | ret v => exact h₄
  | @ret _ ρ₁ d d' ds ha hb =>
    refine wpAny_mono (W.next G s' o d ds (fun v s₁ => wpAny c.X.M A (assign tgt env v) (fun _ s₂ => wpAny c.X.M A (execs body env) (fun f s₃ => match f with
            | .ret v => Q (.ret v) s₃
            | _ => False) NoE s₂) NoE s₁) F.hold hg ho st fun v s₁ G₁ o₁ st₁ g₁ ho₁ hst₁ hv => ?_) (fun r s₁ h => ?_) fun _ _ e => e.elim
    · have F₁ := F.iterGo st₁.heap g₁ ho₁ (W.nt hst₁) hL hc hB htp
      refine ha env A (B.put I o₁) G₁ s₁ v _ he hr F₁ hv fun s₂ G₂ st₂ g₂ F₂ => ?_
      refine hb env A (B.put I o₁) G₂ s₂ _ he hr F₂ fun v₃ s₃ G₃ st₃ g₃ i₃ k₃ r₃ => ?_
      exact k v₃ s₃ G₃ ((st₁.s ho (W.nt st)).trans (st₂.trans st₃)) (Fz.GrowB.trans ⟨g₁.le, fun a o' e => g₁.old a o' (F.keep.get a o' (Fz.put_le hB a o' e))⟩ ((g₂.trans g₃).put hB)) i₃ ⟨fun a o' e => k₃.get a o' (Fz.put_le hB a o' e), fun a o' e => k₃.nt a o' (Fz.put_le hB a o' e)⟩ r₃
    · cases r with
      | none => exact h.elim
      | some v =>
        refine wpAny_mono h (fun _ s₂ h₂ => ?_) fun _ _ e => e.elim
        refine wpAny_mono h₂ (fun _ s₃ h₃ => ?_) fun _ _ e => e.elim
        refine wpAny_mono h₃ (fun f s₄ h₄ => ?_) fun _ _ e => e.elim
        cases f with
        | next => exact h₄.elim
        | cont => exact h₄.elim
        | brk => exact h₄.elim
        | ret v => exact h₄

theorem Do1.for_ {c : Cx} {ρ : AEnv} {tgt iter : PySem.Expr} {body : List Stmt} {pos : Pos} {ds : List D} {out : Out} (hi : EvIt c ρ tgt iter ds) (L : Lp c tgt body ρ ds out) (hs : ∀ env x, foldedSetIterable iter env x = pure x := by intro _ _; rfl) :
    Do1 c ρ (.For tgt iter body [] pos) out := fun env A B G s Q he hr F k =>
  wpAny_For (hi env A B G s _ he hr F fun I s₁ G₁ o St st₁ g₁ hn hgI ho W hst => by
    obtain ⟨F₁, hL, hc, hB⟩ := F.iterIn st₁.heap g₁ hn ho (W.nt hst)
    exact L.code he hr W hL hc hB F.tp F₁ hgI ho hst (k.back st₁.s (g₁.b F.keep))) (hs env)

/-! ## the sources -/
theorem wp_letGo {X : Wd} {A : Around} {s : Shared} {tgt : PySem.Expr} {I : Addr} {v : Value} {o : Obj} {n : String} {Q : Unit → Shared → Prop} (ho : s.heap.get? I = some o) (hc : o.cls = .type n)
    (hn : (["enumerate", "zip", "dict_itemiterator", "dict_reverseitemiterator", "odict_iterator", "itertools.zip_longest", "itertools.pairwise"].contains n) = false) (q : Q () s) : wpAny X.M A (letOwnedTupleGo tgt (.ref I) v) Q NoE s := by
  have main : wpAny X.M A (letOwnedTupleGo (.Tuple [] 0 ⟨0, 0, 0, 0⟩) (.ref I) v) Q NoE s := by
    unfold letOwnedTupleGo
    dsimp only
    split
    · rename_i r a e
      cases e
      refine wpAny_bind (wpAny_load ho ?_)
      rw [hc]
      split
      · rename_i n' vs e1 e2
        cases e1
        rw [hn]
        simp only [Bool.false_and, Bool.false_eq_true, if_false]
        exact wpAny_pure q
      · exact wpAny_pure q
    · exact wpAny_pure q
  cases tgt <;> first | exact wpAny_pure q | exact main

/-- a list -/
theorem Iter.list {X : Wd} {A : Around} {tgt : PySem.Expr} {I : Addr} (hh : A.handled = none) : Iter X A tgt I (fun G o ds => ∃ l lo vs i, G l = some lo ∧ LstO lo vs ∧ RelAll X G (vs.drop i) ds ∧ i ≤ vs.length ∧ o.cls = .type "list_iterator" ∧ o.data = .fields #[.ref l, .int i 0]) where
  mono := fun le hst => by
    obtain ⟨l, lo, vs, i, h1, h2, h3, h4, h5⟩ := hst
    exact ⟨l, lo, vs, i, le _ _ h1, h2, RelAll.mono le h3, h4, h5⟩
  nt := fun hst => by
    obtain ⟨l, lo, vs, i, h1, h2, h3, h4, h5, _⟩ := hst
    exact nt_cls h5
  next := fun G s o d ds Q hG hI ho hst hq => by
    obtain ⟨l, lo, vs, i, h1, h2, h3, h4, h5, h6⟩ := hst
    have hl := h2.isList (hG.get _ _ h1)
    obtain ⟨v, hv, hd, hds⟩ : ∃ v, vs[i]? = some v ∧ Rel X G v d ∧ RelAll X G (vs.drop (i + 1)) ds := by
      cases hh : vs.drop i with
      | nil => rw [hh] at h3; cases h3
      | cons v r =>
        rw [hh] at h3
        cases h3 with
        | cons a b =>
          have hlt : i < vs.length := by
            by_cases q : i < vs.length
            · exact q
            · rw [List.drop_eq_nil_of_le (Nat.le_of_not_lt q)] at hh; cases hh
          rw [List.drop_eq_getElem_cons hlt] at hh
          cases hh
          exact ⟨_, by simp [hlt], a, b⟩
    have hlt : i < vs.length := by simpa using (List.getElem?_eq_some_iff.mp hv).1
    refine wpAny_pyNext_list_item ⟨_, ho, h5, h6⟩ hl (x := v) (by simpa using hv) fun h' hit hs => ?_
    obtain ⟨o', ho', hc', hd'⟩ := hit
    refine wp_letGo (s := { s with heap := h' }) ho' hc' (by decide) ?_
    refine hq v _ G o' (StpI.of (t := s.toks) fun b o hb e => (hs.2 b hb).trans e) ⟨.refl, ⟨fun b o e => (hs.2 b fun q => by subst q; rw [hI] at e; cases e).trans (hG.get b o e), hG.nt⟩, fun _ _ _ => rfl⟩ ho' ⟨l, lo, vs, i + 1, h1, h2, hds, hlt, hc', hd'⟩ hd
  done := fun G s o Q hG hI ho hst hq => by
    obtain ⟨l, lo, vs, i, h1, h2, h3, h4, h5, h6⟩ := hst
    have hl := h2.isList (hG.get _ _ h1)
    have hlen := h3.length
    rw [List.length_drop] at hlen
    exact wpAny_pyNext_list_end hh ⟨_, ho, h5, h6⟩ hl (by simp at hlen ⊢; omega) fun h' he' => ⟨rfl, hq _ (StpI.of he')⟩
  self := fun G s o ds Q hG ho hst q => by
    obtain ⟨l, lo, vs, i, h1, h2, h3, h4, h5, h6⟩ := hst
    exact wpAny_pyIter_listiter ⟨_, ho, h5, h6⟩ q

theorem EvIt.list {c : Cx} {ρ : AEnv} {tgt e : PySem.Expr} {ds : List D} (h : Ev c ρ e (.list ds)) : EvIt c ρ tgt e ds := fun env A B G s Q he hr F hq =>
  h env A B G s he hr F _ fun v s₁ G₁ st₁ g₁ r => by
    cases r with
    | @list a o vs _ h1 h2 h3 =>
      refine wpAny_pyIter_list (h2.isList (g₁.hold.get _ _ h1)) ?_
      have hk : Kp c.X s₁.heap (s₁.heap.push { cls := .type "list_iterator", data := .fields #[.ref a, .int 0 0] }) := .push
      refine hq _ _ G₁ _ _ (st₁.trans (Stp.push (t := s₁.toks))) ⟨g₁.le, g₁.hold.kp hk, g₁.old⟩ (st₁.heap.fresh (get?_size _)) (Fz.none_of g₁.hold (get?_size _)) (Heap.get?_push_size _ rfl) (Iter.list hr.hd) ⟨a, o, vs, 0, h1, h2, by simpa using h3, Nat.zero_le _, rfl, rfl⟩
end Mine
end

section
set_option linter.unusedVariables false
namespace Mine

theorem itFresh {X : Wd} {s s₁ : Shared} {G G₁ : Fz} (st₁ : Stp X s s₁) (g₁ : G.Grow s.heap G₁ s₁.heap) (o : Obj) (hf : o.isFreed = false := by rfl) :
    Stp X s { s₁ with heap := s₁.heap.push o } ∧ G.Grow s.heap G₁ (s₁.heap.push o) ∧ s.heap.get? s₁.heap.objs.size = none ∧ G₁ s₁.heap.objs.size = none ∧ (s₁.heap.push o).get? s₁.heap.objs.size = some o := by
  have hk : Kp X s₁.heap (s₁.heap.push o) := .push
  exact ⟨st₁.trans (Stp.push (t := s₁.toks)), ⟨g₁.le, g₁.hold.kp hk, g₁.old⟩, st₁.heap.fresh (get?_size _), Fz.none_of g₁.hold (get?_size _), Heap.get?_push_size _ hf⟩

section
variable {c : Cx} {ρ ρ' : AEnv}

/-! ## targets -/
inductive AsgL (c : Cx) : AEnv → List PySem.Expr → List D → AEnv → Prop
  | nil {ρ : AEnv} : AsgL c ρ [] [] ρ
  | cons {ρ ρ₁ ρ₂ : AEnv} {t : PySem.Expr} {ts : List PySem.Expr} {d : D} {ds : List D} : Asg c ρ t d ρ₁ → (∀ env, assignEach (t :: ts) env = (false, assign t env) :: assignEach ts env) → AsgL c ρ₁ ts ds ρ₂ → AsgL c ρ (t :: ts) (d :: ds) ρ₂

theorem AsgL.run {ts : List PySem.Expr} {ds : List D} (L : AsgL c ρ ts ds ρ') : ∀ (env : Env) (A : Around) (B G : Fz) (s : Shared) (vs : List Value) (Q : Unit → Shared → Prop), EnvOk c.sc env → Rm c.k A → FI c.X c.oc env ρ B G s.heap → RelAll c.X G vs ds →
    (∀ s' G', SStp c.X s s' → G.GrowB B G' → FI c.X c.oc env ρ' B G' s'.heap → Q () s') → wpAny c.X.M A (assignInOrder ((assignEach ts env).map (·.2)) vs) Q NoE s := by
  induction L with
  | nil => intro env A B G s vs Q he hr F hv hq; cases hv; exact wpAny_pure (hq s G .refl .refl F)
  | cons ha hst hl ih =>
    intro env A B G s vs Q he hr F hv hq
    cases hv with
    | cons h1 h2 =>
      rw [hst env]
      exact wpAny_bind (wpAny_holding (ha env A B G s _ _ he hr F h1 fun s₁ G₁ st₁ g₁ F₁ => ih env A B G₁ s₁ _ _ he hr F₁ (RelAll.mono g₁.le h2) fun s₂ G₂ st₂ g₂ F₂ => hq s₂ G₂ (st₁.trans st₂) (g₁.trans g₂) F₂))
theorem AsgL.each {ts : List PySem.Expr} {ds : List D} (L : AsgL c ρ ts ds ρ') (env : Env) : (assignEach ts env).length = ds.length ∧ (assignEach ts env).findIdx? (·.1) = none := by
  induction L with
  | nil => exact ⟨rfl, rfl⟩
  | cons ha hst hl ih =>
    rw [hst env]
    refine ⟨by simp [ih.1], ?_⟩
    rw [List.findIdx?_cons]
    simp [ih.2]

theorem Asg.tuple {ts : List PySem.Expr} {ds : List D} {k : Nat} {pos : Pos} (L : AsgL c ρ ts ds ρ') : Asg c ρ (.Tuple ts k pos) (.tuple ds) ρ' := fun env A B G s v Q he hr F hv hq => by
  cases hv with
  | @tuple a o vs _ h1 h2 h3 =>
    have hl := L.each env
    refine wpAny_assign_Tuple hr.hd (h2.isTuple (F.hold.get _ _ h1)) (by rw [hl.1, List.size_toArray, h3.length]) hl.2 fun h' hx => ?_
    have hk : Kp c.X s.heap h' := .of fun b o e => hx b o (Nat.ne_of_lt (Heap.lt_size e)) e
    exact L.run env A B G { s with heap := h' } vs Q he hr (F.grow hk (.same F.hold hk)) h3 fun s' G' st g F' => hq s' G' (SStp.trans (s' := { s with heap := h' }) ⟨hk.tab, id, rfl, rfl⟩ st) g F'

/-- a, b = e -/
theorem Do1.unpack {ts : List PySem.Expr} {e : PySem.Expr} {ds : List D} {k : Nat} {tpos pos : Pos} (h : Ev c ρ e (.tuple ds)) (L : AsgL c ρ ts ds ρ') (hs : ∀ env, EnvOk c.sc env → swapsWithSole [.Tuple ts k tpos] e pos.line env = pure false := by intro _ _; rfl)
    (hw : ∀ env, EnvOk c.sc env → swappedStores [.Tuple ts k tpos] e env = pure none := by intro _ _; rfl) : Do1 c ρ (.Assign [.Tuple ts k tpos] e pos) (.next ρ') := fun env A B G s Q he hr F hq => by
  show wpAny c.X.M A (standAt pos >>= fun _ => swapsWithSole [.Tuple ts k tpos] e pos.line env >>= fun b => if b then _ else _) Q NoE s
  refine wpAny_bind (wpAny_standAt (wpAny_bind (wpAny_of_eq (hs env he) ?_)))
  show wpAny c.X.M A (eval e env >>= fun v => swappedStores [.Tuple ts k tpos] e env >>= fun sw => assignStores env v sw ((assignEach [.Tuple ts k tpos] env).map (·.2))) Q NoE s
  refine wpAny_bind (h env A B G s he hr F _ fun v s₁ G₁ st₁ g₁ r₁ => wpAny_bind (wpAny_of_eq (hw env he) ?_))
  show wpAny c.X.M A (PySem.assign (.Tuple ts k tpos) env v >>= fun _ => pure .next) Q NoE s₁
  exact wpAny_bind (Asg.tuple L env A B G₁ s₁ v _ he hr (F.grow st₁.heap g₁) r₁ fun s₂ G₂ st₂ g₂ F₂ => wpAny_pure (hq s₂ G₂ (st₁.s.trans st₂) ((g₁.b F.keep).trans g₂) F₂))

/-! ## dict.items() -/
theorem DicO.at {X : Wd} {o : Obj} {kvs : List (Str × Value)} (x : DicO X o kvs) : ∃ ep, ∀ (h : Heap) (a : Addr), h.get? a = some o → h.DictAt X.K a kvs ep := by
  obtain ⟨h1, es, ep, h2, h3, h4, h5⟩ := x
  exact ⟨ep, fun h a ho => ⟨o, es, ho, h1, h2, h3, h4, h5⟩⟩
noncomputable def DicE (X : Wd) (o : Obj) (kvs : List (Str × Value)) (ep : Nat) : Prop := ∀ (h : Heap) (a : Addr), h.get? a = some o → h.DictAt X.K a kvs ep

theorem entry_itemiter_iter : entryFor table "dict_itemiterator.__iter__" = some Builtin.«dict_keyiterator.__iter__» :=
  entryFor_alias (id' := "dict_keyiterator.__iter__") (by kernel_rfl) rfl (by decide +kernel) (by kernel_rfl)

noncomputable def itemD (p : Str × D) : D := .tuple [.str p.1, p.2]

theorem Iter.items {X : Wd} {A : Around} {I : Addr} {ts : List PySem.Expr} {k : Nat} {tp : Pos} (hh : A.handled = none) : Iter X A (.Tuple ts k tp) I (fun G o ds => ∃ d dO kvs ep i ok ov kds, G d = some dO ∧ DicE X dO kvs ep ∧ RelKv X G kvs kds ∧ ds = (kds.drop i).map itemD ∧ i ≤ kds.length ∧
      o = { cls := .type "dict_itemiterator", dict := none, data := .fields #[.none, .bool false, .ref d, .int i 0, .int kvs.length 0, .int ep 0, ok, ov], slots := #[] }) where
  mono := fun le hst => by
    obtain ⟨d, dO, kvs, ep, i, ok, ov, kds, h1, h2, h3, h4⟩ := hst
    exact ⟨d, dO, kvs, ep, i, ok, ov, kds, le _ _ h1, h2, RelKv.mono le h3, h4⟩
  nt := fun hst => by
    obtain ⟨d, dO, kvs, ep, i, ok, ov, kds, h1, h2, h3, h4, h5, h6⟩ := hst
    exact nt_cls (n := "dict_itemiterator") (by rw [h6])
  next := fun G s o x ds Q hG hI ho hst hq => by
    obtain ⟨d, dO, kvs, ep, i, ok, ov, kds, h1, h2, h3, h4, h5, h6⟩ := hst
    subst h6
    have hlt : i < kds.length := by
      by_cases q : i < kds.length
      · exact q
      · rw [List.drop_eq_nil_of_le (Nat.le_of_not_lt q)] at h4; cases h4
    rw [List.drop_eq_getElem_cons hlt, List.map_cons] at h4
    injection h4 with hx hds
    subst hx hds
    obtain ⟨v, hv, hrv⟩ := h3.get (k := i) (x := (kds[i]).1) (d := (kds[i]).2) (by simp [hlt])
    have hm := h2 s.heap d (hG.get _ _ h1)
    refine wpAny_pyNext_items_item ho hm hv fun key h' hkey hout htup hsz hk => ?_
    refine wpAny_letOwnedTupleGo_items (s := { s with heap := h' }) hout fun h'' hit hs => ?_
    have hIlt := Heap.lt_size ho
    have hTI : s.heap.objs.size ≠ I := Nat.ne_of_gt hIlt
    have htup' : h''.get? s.heap.objs.size = some { cls := .type "tuple", data := .seq #[key, v] } := (hs.2 _ hTI).trans htup
    have kp : ∀ b o, b ≠ I → s.heap.get? b = some o → h''.get? b = some o := fun b o hb e => (hs.2 b hb).trans (hk b o hb e)
    have hTn : G s.heap.objs.size = none := Fz.none_of hG (get?_size _)
    obtain ⟨t, rfl⟩ : ∃ t, key = .str (kds[i]).1 t := Value.isStrOf_shape hkey
    refine hq (.ref s.heap.objs.size) _ (G.put s.heap.objs.size { cls := .type "tuple", data := .seq #[.str (kds[i]).1 t, v] }) _ (StpI.of (t := s.toks) kp) ⟨Fz.put_le hTn, ⟨?_, ?_⟩, fun b o e => Fz.put_ne (Nat.ne_of_lt (Heap.lt_size e))⟩ hit ⟨d, dO, kvs, ep, i + 1, _, _, kds, ?_, h2, RelKv.mono (Fz.put_le hTn) h3, rfl, hlt, rfl⟩ ?_
    · intro b o e
      by_cases hb : b = s.heap.objs.size
      · subst hb; rw [Fz.put_self] at e; cases e; exact htup'
      · rw [Fz.put_ne hb] at e
        exact kp b o (fun q => by subst q; rw [hI] at e; cases e) (hG.get b o e)
    · intro b o e
      by_cases hb : b = s.heap.objs.size
      · subst hb; rw [Fz.put_self] at e; cases e; exact nt_cls rfl
      · rw [Fz.put_ne hb] at e; exact hG.nt b o e
    · exact Fz.put_le hTn _ _ h1
    · exact .tuple Fz.put_self ⟨rfl, 0, rfl⟩ (.cons (.str _ _) (.cons (Rel.mono (Fz.put_le hTn) hrv) .nil))
  done := fun G s o Q hG hI ho hst hq => by
    obtain ⟨d, dO, kvs, ep, i, ok, ov, kds, h1, h2, h3, h4, h5, h6⟩ := hst
    subst h6
    have hlen := congrArg List.length h4
    simp only [List.length_nil, List.length_map, List.length_drop] at hlen
    exact wpAny_pyNext_items_end hh ho (h2 s.heap d (hG.get _ _ h1)) (by rw [List.getElem?_eq_none_iff, h3.length]; omega) fun h' he' => ⟨rfl, hq _ (StpI.of he')⟩
  self := fun G s o ds Q hG ho hst q => by
    obtain ⟨d, dO, kvs, ep, i, ok, ov, kds, h1, h2, h3, h4, h5, h6⟩ := hst
    subst h6
    have hT : s.TypeIs (.ref I) "dict_itemiterator" := ⟨_, ho, rfl⟩
    refine wpAny_pyIter_slot hT PySem.F.slot_dict_itemiterator_iter (wpAny_call_entry PySem.F.slot_dict_itemiterator_iter hT entry_itemiter_iter ?_ (PySem.F.args_dict_itemiterator_iter_1 _))
    show wpAny _ _ (ret (.ref I)) _ _ s
    exact wpAny_pure ⟨_, rfl, "dict_itemiterator", _, hT, PySem.F.slot_dict_itemiterator_next.lookup, q⟩

/-- e.items() reckoned -/
theorem wp_items {env : Env} {A : Around} {B G : Fz} {s : Shared} {e : PySem.Expr} {apos pos : Pos} {kds : List (Str × D)} {Q : Value → Shared → Prop} (he : EnvOk c.sc env) (hr : Rm c.k A) (F : FI c.X c.oc env ρ B G s.heap) (h : Ev c ρ e (.dict kds))
    (hb : attributeBase e "items" env (eval e env) = eval e env) (hline : (apos.endLine == pos.line) = true)
    (hq : ∀ a v s' G' o kvs, Stp c.X s s' → G.Grow s.heap G' s'.heap → G' a = some o → DicO c.X o kvs → RelKv c.X G' kvs kds → s'.heap.IsItemsView v a → (a == sysModules) = false → Q (.ref v) s') : wpAny c.X.M A (eval (.Call (.Attribute e "items" apos) [] [] pos) env) Q NoE s := by
  refine wpAny_Call_method0_late hb hline (h env A B G s he hr F _ fun v s₁ G₁ st₁ g₁ r₁ => ?_)
  cases r₁ with
  | @dict a o kvs _ h1 h2 h3 h4 =>
    have hd := h2.dictOf (g₁.hold.get _ _ h1)
    refine ⟨"dict", "dict.items", PySem.F.plainAttrs_dict, PySem.F.slot_dict_items, PySem.F.type_dict_items, hd.mapOf.typeIs, hd.mapOf.noDict, ?_⟩
    refine method_meetsIn PySem.F.slot_dict_items PySem.F.entry_dict_items rfl (PySem.evalArgs_none ⟨rfl, hd.mapOf.typeIs, PySem.F.args_dict_items_1 _, _, meets_dict_items c.X.K a h4, ⟨kvs, hd⟩, ?_⟩)
    obtain ⟨p1, p2, p3, p4, p5⟩ := itFresh st₁ g₁ { cls := .type "dict_items", data := .fields #[.ref a] }
    exact hq a _ _ G₁ o kvs p1 p2 h1 h2 h3 ⟨_, p5, rfl, rfl⟩ h4

theorem EvIt.items {e : PySem.Expr} {apos pos : Pos} {kds : List (Str × D)} {ts : List PySem.Expr} {k : Nat} {tp : Pos} (h : Ev c ρ e (.dict kds)) (hb : ∀ env, attributeBase e "items" env (eval e env) = eval e env := by intro _; rfl) (hline : (apos.endLine == pos.line) = true := by rfl) :
    EvIt c ρ (.Tuple ts k tp) (.Call (.Attribute e "items" apos) [] [] pos) (kds.map itemD) := fun env A B G s Q he hr F hq =>
  wp_items he hr F h (hb env) hline fun a v s₁ G₁ o kvs st₁ g₁ h1 h2 h3 hv h4 => by
    obtain ⟨ep, hep⟩ := h2.at
    refine wpAny_pyIter_items hv (hep _ _ (g₁.hold.get _ _ h1)) ?_
    obtain ⟨p1, p2, p3, p4, p5⟩ := itFresh st₁ g₁ { cls := .type "dict_itemiterator", data := .fields #[.none, .bool false, .ref a, .int 0 0, .int kvs.length 0, .int ep 0, .none, .none] }
    exact hq _ _ G₁ _ _ p1 p2 p3 p4 p5 (Iter.items hr.hd) ⟨a, o, kvs, ep, 0, _, _, kds, h1, hep, h3, by simp, Nat.zero_le _, rfl⟩

/-! ## dict.values() -/
theorem Iter.values {X : Wd} {A : Around} {I : Addr} {tgt : PySem.Expr} (hh : A.handled = none) : Iter X A tgt I (fun G o ds => ∃ d dO kvs ep i kds, G d = some dO ∧ DicE X dO kvs ep ∧ RelKv X G kvs kds ∧ ds = (kds.drop i).map (·.2) ∧ i ≤ kds.length ∧
      o.cls = .type "dict_valueiterator" ∧ o.data = .fields #[.ref d, .int i 0, .int kvs.length 0, .int ep 0]) where
  mono := fun le hst => by
    obtain ⟨d, dO, kvs, ep, i, kds, h1, h2, h3, h4⟩ := hst
    exact ⟨d, dO, kvs, ep, i, kds, le _ _ h1, h2, RelKv.mono le h3, h4⟩
  nt := fun hst => by
    obtain ⟨d, dO, kvs, ep, i, kds, h1, h2, h3, h4, h5, h6, h7⟩ := hst
    exact nt_cls h6
  next := fun G s o x ds Q hG hI ho hst hq => by
    obtain ⟨d, dO, kvs, ep, i, kds, h1, h2, h3, h4, h5, h6, h7⟩ := hst
    have hlt : i < kds.length := by
      by_cases q : i < kds.length
      · exact q
      · rw [List.drop_eq_nil_of_le (Nat.le_of_not_lt q)] at h4; cases h4
    rw [List.drop_eq_getElem_cons hlt, List.map_cons] at h4
    injection h4 with hx hds
    subst hx hds
    obtain ⟨v, hv, hrv⟩ := h3.get (k := i) (x := (kds[i]).1) (d := (kds[i]).2) (by simp [hlt])
    have hm := h2 s.heap d (hG.get _ _ h1)
    refine wpAny_pyNext_values_item ⟨_, ho, h6, h7⟩ hm hv fun h' hit hs => ?_
    obtain ⟨o', ho', hc', hd'⟩ := hit
    refine wp_letGo (s := { s with heap := h' }) ho' hc' (by decide) ?_
    exact hq v _ G o' (StpI.of (t := s.toks) fun b o hb e => (hs.2 b hb).trans e) ⟨.refl, ⟨fun b o e => (hs.2 b fun q => by subst q; rw [hI] at e; cases e).trans (hG.get b o e), hG.nt⟩, fun _ _ _ => rfl⟩ ho' ⟨d, dO, kvs, ep, i + 1, kds, h1, h2, h3, rfl, hlt, hc', hd'⟩ hrv
  done := fun G s o Q hG hI ho hst hq => by
    obtain ⟨d, dO, kvs, ep, i, kds, h1, h2, h3, h4, h5, h6, h7⟩ := hst
    have hlen := congrArg List.length h4
    simp only [List.length_nil, List.length_map, List.length_drop] at hlen
    exact wpAny_pyNext_values_end hh ⟨_, ho, h6, h7⟩ (h2 s.heap d (hG.get _ _ h1)) (by rw [List.getElem?_eq_none_iff, h3.length]; omega) fun h' he' => ⟨rfl, hq _ (StpI.of he')⟩
  self := fun G s o ds Q hG ho hst q => by
    obtain ⟨d, dO, kvs, ep, i, kds, h1, h2, h3, h4, h5, h6, h7⟩ := hst
    exact wpAny_pyIter_valiter ⟨_, ho, h6, h7⟩ q

/-- e.values() reckoned -/
theorem wp_values {env : Env} {A : Around} {B G : Fz} {s : Shared} {e : PySem.Expr} {apos pos : Pos} {kds : List (Str × D)} {Q : Value → Shared → Prop} (he : EnvOk c.sc env) (hr : Rm c.k A) (F : FI c.X c.oc env ρ B G s.heap) (h : Ev c ρ e (.dict kds))
    (hb : attributeBase e "values" env (eval e env) = eval e env) (hline : (apos.endLine == pos.line) = true)
    (hq : ∀ a v s' G' o kvs, Stp c.X s s' → G.Grow s.heap G' s'.heap → G' a = some o → DicO c.X o kvs → RelKv c.X G' kvs kds → s'.heap.IsValuesView v a → (a == sysModules) = false → Q (.ref v) s') : wpAny c.X.M A (eval (.Call (.Attribute e "values" apos) [] [] pos) env) Q NoE s := by
  refine wpAny_Call_method0_late hb hline (h env A B G s he hr F _ fun v s₁ G₁ st₁ g₁ r₁ => ?_)
  cases r₁ with
  | @dict a o kvs _ h1 h2 h3 h4 =>
    have hd := h2.dictOf (g₁.hold.get _ _ h1)
    refine ⟨"dict", "dict.values", PySem.F.plainAttrs_dict, PySem.F.slot_dict_values, PySem.F.type_dict_values, hd.mapOf.typeIs, hd.mapOf.noDict, ?_⟩
    refine method_meetsIn PySem.F.slot_dict_values PySem.F.entry_dict_values rfl (PySem.evalArgs_none ⟨rfl, hd.mapOf.typeIs, PySem.F.args_dict_values_1 _, _, meets_dict_values c.X.K a h4, ⟨kvs, hd⟩, ?_⟩)
    obtain ⟨p1, p2, p3, p4, p5⟩ := itFresh st₁ g₁ { cls := .type "dict_values", data := .fields #[.ref a] }
    exact hq a _ _ G₁ o kvs p1 p2 h1 h2 h3 ⟨_, p5, rfl, rfl⟩ h4

theorem EvIt.values {e tgt : PySem.Expr} {apos pos : Pos} {kds : List (Str × D)} (h : Ev c ρ e (.dict kds)) (hb : ∀ env, attributeBase e "values" env (eval e env) = eval e env := by intro _; rfl) (hline : (apos.endLine == pos.line) = true := by rfl) :
    EvIt c ρ tgt (.Call (.Attribute e "values" apos) [] [] pos) (kds.map (·.2)) := fun env A B G s Q he hr F hq =>
  wp_values he hr F h (hb env) hline fun a v s₁ G₁ o kvs st₁ g₁ h1 h2 h3 hv h4 => by
    obtain ⟨ep, hep⟩ := h2.at
    refine wpAny_pyIter_values hv (hep _ _ (g₁.hold.get _ _ h1)) ?_
    obtain ⟨p1, p2, p3, p4, p5⟩ := itFresh st₁ g₁ { cls := .type "dict_valueiterator", data := .fields #[.ref a, .int 0 0, .int kvs.length 0, .int ep 0] }
    exact hq _ _ G₁ _ _ p1 p2 p3 p4 p5 (Iter.values hr.hd) ⟨a, o, kvs, ep, 0, kds, h1, hep, h3, by simp, Nat.zero_le _, rfl, rfl⟩

/-! ## a text's signs -/
noncomputable def signD (n : Nat) : D := .str ⟨#[n]⟩
theorem Iter.str {X : Wd} {A : Around} {I : Addr} {tgt : PySem.Expr} (hh : A.handled = none) : Iter X A tgt I (fun G o ds => ∃ x t i, (o.cls = .type "str_ascii_iterator" ∨ o.cls = .type "str_iterator") ∧ o.data = .fields #[.str x t, .int (i : Nat) 0] ∧ ds = (x.cps.toList.drop i).map signD ∧ i ≤ x.cps.size) where
  mono := fun le h => h
  nt := fun hst => by
    obtain ⟨x, t, i, h1, h2, h3, h4⟩ := hst
    rcases h1 with h1 | h1 <;> exact nt_cls h1
  next := fun G s o d ds Q hG hI ho hst hq => by
    obtain ⟨x, t, i, h1, h2, h3, h4⟩ := hst
    have hlt : i < x.cps.toList.length := by
      by_cases q : i < x.cps.toList.length
      · exact q
      · rw [List.drop_eq_nil_of_le (Nat.le_of_not_lt q)] at h3; cases h3
    rw [List.drop_eq_getElem_cons hlt, List.map_cons] at h3
    injection h3 with hx hds
    subst hx hds
    have hc : x.cps[i]? = some (x.cps.toList[i]) := by simp at hlt ⊢
    have fin : ∀ (h' : Heap) (o' : Obj), h'.get? I = some o' → (o'.cls = .type "str_ascii_iterator" ∨ o'.cls = .type "str_iterator") → o'.data = .fields #[.str x t, .int ((i + 1 : Nat) : Int) 0] → Heap.SameBut I s.heap h' →
        wpAny X.M A (letOwnedTupleGo tgt (.ref I) (.str ⟨#[x.cps.toList[i]]⟩ s.toks)) (fun _ s₂ => Q (.str ⟨#[x.cps.toList[i]]⟩ s.toks) s₂) NoE { s with heap := h', toks := s.toks + 1 } := fun h' o' ho' hc' hd' hs => by
      have q := hq (.str ⟨#[x.cps.toList[i]]⟩ s.toks) { s with heap := h', toks := s.toks + 1 } G o' (StpI.of fun b o hb e => (hs.2 b hb).trans e) ⟨.refl, ⟨fun b o e => (hs.2 b fun q => by subst q; rw [hI] at e; cases e).trans (hG.get b o e), hG.nt⟩, fun _ _ _ => rfl⟩ ho' ⟨x, t, i + 1, hc', hd', rfl, Nat.succ_le_of_lt (by simpa using hlt)⟩ (.str _ _)
      rcases hc' with hc' | hc'
      · exact wp_letGo (s := { s with heap := h', toks := s.toks + 1 }) ho' hc' (by decide) q
      · exact wp_letGo (s := { s with heap := h', toks := s.toks + 1 }) ho' hc' (by decide) q
    rcases h1 with h1 | h1
    · refine wpAny_pyNext_ascii_item ⟨_, ho, h1, h2⟩ hc fun h' hit hs => ?_
      obtain ⟨o', ho', hc', hd'⟩ := hit
      exact fin h' o' ho' (.inl hc') hd' hs
    · refine wpAny_pyNext_wide_item ⟨_, ho, h1, h2⟩ hc fun h' hit hs => ?_
      obtain ⟨o', ho', hc', hd'⟩ := hit
      exact fin h' o' ho' (.inr hc') hd' hs
  done := fun G s o Q hG hI ho hst hq => by
    obtain ⟨x, t, i, h1, h2, h3, h4⟩ := hst
    have hlen := congrArg List.length h3
    simp only [List.length_nil, List.length_map, List.length_drop, Array.length_toList] at hlen
    have hn : x.cps[i]? = none := by rw [Array.getElem?_eq_none_iff]; omega
    rcases h1 with h1 | h1
    · exact wpAny_pyNext_ascii_end hh ⟨_, ho, h1, h2⟩ hn fun h' he' => ⟨rfl, hq _ (StpI.of he')⟩
    · exact wpAny_pyNext_wide_end hh ⟨_, ho, h1, h2⟩ hn fun h' he' => ⟨rfl, hq _ (StpI.of he')⟩
  self := fun G s o ds Q hG ho hst q => by
    obtain ⟨x, t, i, h1, h2, h3, h4⟩ := hst
    rcases h1 with h1 | h1
    · exact wpAny_pyIter_striter_ascii ⟨_, ho, h1, h2⟩ q
    · exact wpAny_pyIter_striter_wide ⟨_, ho, h1, h2⟩ q

theorem EvIt.str {e tgt : PySem.Expr} {x : Str} (h : Ev c ρ e (.str x)) : EvIt c ρ tgt e (x.cps.toList.map signD) := fun env A B G s Q he hr F hq =>
  h env A B G s he hr F _ fun v s₁ G₁ st₁ g₁ r => by
    cases r with
    | str _ t =>
      refine wpAny_pyIter_strU ?_
      obtain ⟨p1, p2, p3, p4, p5⟩ := itFresh st₁ g₁ { cls := .type (strIterType x), data := .fields #[.str x t, .int 0 0] }
      refine hq _ _ G₁ _ _ p1 p2 p3 p4 p5 (Iter.str hr.hd) ⟨x, t, 0, ?_, rfl, by simp, Nat.zero_le _⟩
      show Value.type (strIterType x) = _ ∨ Value.type (strIterType x) = _
      unfold strIterType
      split
      · exact .inl rfl
      · exact .inr rfl

/-! ## range -/
theorem Iter.range {X : Wd} {A : Around} {I : Addr} {tgt : PySem.Expr} (hh : A.handled = none) : Iter X A tgt I (fun G o ds => ∃ (a st : Int) (n : Nat), ds = (List.range n).map (fun j => D.int (a + (j : Nat) * st)) ∧
      o = { cls := .type "range_iterator", dict := none, data := .fields #[rawInt a, rawInt (n : Int), rawInt st], slots := #[] }) where
  mono := fun le h => h
  nt := fun hst => by
    obtain ⟨a, st, n, h1, h2⟩ := hst
    exact nt_cls (n := "range_iterator") (by rw [h2])
  next := fun G s o d ds Q hG hI ho hst hq => by
    obtain ⟨a, st, n, h1, h2⟩ := hst
    subst h2
    cases n with
    | zero => cases h1
    | succ n =>
      rw [List.range_succ_eq_map, List.map_cons, List.map_map] at h1
      injection h1 with hx hds
      subst hx hds
      refine wpAny_pyNext_range_item ho (by omega) fun h' hit hs => ?_
      refine wp_letGo (s := { s with heap := h', toks := s.toks + 1 }) hit rfl (by decide) ?_
      refine hq _ _ G _ (StpI.of fun b o hb e => (hs.2 b hb).trans e) ⟨.refl, ⟨fun b o e => (hs.2 b fun q => by subst q; rw [hI] at e; cases e).trans (hG.get b o e), hG.nt⟩, fun _ _ _ => rfl⟩ hit ⟨a + st, st, n, ?_, ?_⟩ (by simpa using Rel.int a s.toks)
      · apply List.map_congr_left
        intro j _
        show D.int (a + ((j + 1 : Nat) : Int) * st) = D.int (a + st + (j : Int) * st)
        congr 1
        push_cast
        rw [Int.add_mul, Int.one_mul]
        omega
      · have : ((n + 1 : Nat) : Int) - 1 = (n : Int) := by omega
        rw [this]
  done := fun G s o Q hG hI ho hst hq => by
    obtain ⟨a, st, n, h1, h2⟩ := hst
    subst h2
    have hlen := congrArg List.length h1
    simp only [List.length_nil, List.length_map, List.length_range] at hlen
    exact wpAny_pyNext_range_end hh ho (by omega) fun h' he' => ⟨rfl, hq _ (StpI.of he')⟩
  self := fun G s o ds Q hG ho hst q => by
    obtain ⟨a, st, n, h1, h2⟩ := hst
    subst h2; exact wpAny_pyIter_rangeiter ho q

/-- a built-in class called -/
theorem wp_tcall {env : Env} {A : Around} {B G : Fz} {s : Shared} {f : Str} {T : String} {es : List PySem.Expr} {fpos pos : Pos} {ds : List D} {Q : Value → Shared → Prop} (he : EnvOk c.sc env) (hr : Rm c.k A) (F : FI c.X c.oc env ρ B G s.heap)
    (hf : c.sc.names.lookup f = some .globalImplicit) (hmg : c.X.mg f = none) (hmb : c.X.mb f = some (.type T)) (hs : Evs c ρ es ds) (hst : starEach es env = es.map fun e => (false, eval e env)) (hd : (f == ("__debug__" : Str)) = false)
    (hq : ∀ vs s' G', Stp c.X s s' → G.Grow s.heap G' s'.heap → RelAll c.X G' vs ds → wpAny c.X.M A (PySem.call (.type T) vs) Q NoE s') : wpAny c.X.M A (eval (.Call (.Name f fpos) es [] pos) env) Q NoE s := by
  show wpAny c.X.M A (eval (.Name f fpos) env >>= fun fv => callWith pos fv [] (backTo pos (starEach es env)) []) Q NoE s
  refine wpAny_bind (Calls.Name_function_global he.k (by rw [he.kindOf]; exact hf) (loadGlobalB he F.tph hmg hmb ?_) hd)
  exact PySem.callWith_type (plain_any hst) (evalArgs_of hst (hs env A B G s pos he hr F _ fun vs s₁ G₁ st₁ g₁ r₁ => hq vs s₁ G₁ st₁ g₁ r₁))

/-- T(..) of a built-in class -/
theorem Ev.tcall {f : Str} {T : String} {es : List PySem.Expr} {fpos pos : Pos} {ds : List D} {d : D} (hmg : c.X.mg f = none) (hmb : c.X.mb f = some (.type T)) (hs : Evs c ρ es ds) (ho : OpN c.X c.k (fun vs => PySem.call (.type T) vs) ds d) (hf : c.sc.names.lookup f = some .globalImplicit := by rfl)
    (hst : ∀ env, starEach es env = es.map fun e => (false, eval e env) := by intro _; exact star_all rfl) (hd : (f == ("__debug__" : Str)) = false := by decide) : Ev c ρ (.Call (.Name f fpos) es [] pos) d :=
  fun env A B G s he hr F Q hq => wp_tcall he hr F hf hmg hmb hs (hst env) hd fun vs s₁ G₁ st₁ g₁ r₁ => ho A G₁ s₁ vs hr (F.tph.keeps st₁.heap) g₁.hold r₁ _ fun v s₂ G₂ st₂ g₂ r₂ => hq v s₂ G₂ (st₁.trans st₂) (g₁.trans st₁.heap g₂) r₂

theorem EvIt.range1 {e tgt : PySem.Expr} {fpos pos : Pos} {n : Int} (hmg : c.X.mg "range" = none) (hmb : c.X.mb "range" = some (.type "range")) (h : Ev c ρ e (.int n)) (h0 : -(2 ^ 62) ≤ n) (h1 : n < 2 ^ 62) (hf : c.sc.names.lookup (Str.ofString "range") = some .globalImplicit := by rfl)
    (hst : ∀ env, starEach [e] env = [e].map fun e => (false, eval e env) := by intro _; exact star_all rfl) : EvIt c ρ tgt (.Call (.Name "range" fpos) [e] [] pos) ((List.range n.toNat).map fun j => D.int (j : Nat)) := fun env A B G s Q he hr F hq =>
  wp_tcall he hr F hf hmg hmb (.cons h .nil hst) (hst env) (by decide) fun vs s₁ G₁ st₁ g₁ r₁ => by
    cases r₁ with
    | cons r r' =>
      cases r' with
      | nil =>
        cases r with
        | int _ t =>
          refine call_range_1 ?_
          obtain ⟨p1, p2, p3, p4, p5⟩ := itFresh st₁ g₁ { cls := .type "range", data := .fields #[.int 0 s₁.toks, .int n t, .int 1 (s₁.toks + 1)] }
          refine wpAny_pyIter_range (IsRange.new ..) (small_one (by decide) (by decide) h0 h1) ?_
          obtain ⟨q1, q2, q3, q4, q5⟩ := itFresh (s₁ := { s₁ with heap := s₁.heap.push { cls := .type "range", data := .fields #[.int 0 s₁.toks, .int n t, .int 1 (s₁.toks + 1)] }, toks := s₁.toks + 1 + 1 }) ⟨p1.heap, p1.gens, p1.drawn, p1.os⟩ p2 { cls := .type "range_iterator", data := .fields #[rawInt 0, rawInt (Builtin.Range.rangeSize 0 n 1), rawInt 1] }
          have hsz : Builtin.Range.rangeSize 0 n 1 = (n.toNat : Int) := by rw [rangeSize_one]; split <;> omega
          refine hq _ _ G₁ _ _ q1 q2 q3 q4 q5 (Iter.range hr.hd) ⟨0, 1, n.toNat, ?_, by rw [hsz]⟩
          apply List.map_congr_left
          intro j _
          congr 1; omega
end
end Mine
end

section
set_option linter.unusedVariables false
namespace Mine
variable {X : Wd} {k : Nat}

/-! ## ints -/
theorem op_add_int {a b : Int} : Op2 X k (binaryOp .Add) (.int a) (.int b) (.int (a + b)) := fun A G s v₁ v₂ hr T hG r₁ r₂ => by
  cases r₁; cases r₂; exact Gv.toks hG fun Q q => PyProof.Rows.add_int (q _ _ (.int _ _))
theorem op_iadd_int {a b : Int} : Op2 X k (inplaceOp .Add) (.int a) (.int b) (.int (a + b)) := fun A G s v₁ v₂ hr T hG r₁ r₂ => by
  cases r₁; cases r₂; exact Gv.toks hG fun Q q => PyProof.Rows.iadd_int (q _ _ (.int _ _))
theorem op_mod_int {a b : Int} (hb : b ≠ 0) : Op2 X k (binaryOp .Mod) (.int a) (.int b) (.int (a.fmod b)) := fun A G s v₁ v₂ hr T hG r₁ r₂ => by
  cases r₁; cases r₂; exact Gv.toks hG fun Q q => PyProof.Rows.mod_int' hb (q _ _ (.int _ _))
theorem op_div_int {a b : Int} (hb : b ≠ 0) (hs : b.natAbs < 1073741824) : Op2 X k (binaryOp .FloorDiv) (.int a) (.int b) (.int (a.fdiv b)) := fun A G s v₁ v₂ hr T hG r₁ r₂ => by
  cases r₁; cases r₂; exact Gv.toks hG fun Q q => PyProof.Rows.floordiv_int hb (q _ _ (.int _ _)) (.inl (PyProof.noPylong_small hs))
theorem op_pow_int {a n : Int} (hn : 0 ≤ n) (hn2 : n ≤ 1000000) (ha : a.natAbs < 2 ^ 64) : Op2 X k (binaryOp .Pow) (.int a) (.int n) (.int (a ^ n.toNat)) := fun A G s v₁ v₂ hr T hG r₁ r₂ => by
  cases r₁; cases r₂; exact Gv.toks hG fun Q q => PyProof.Rows.pow_int_small hn hn2 ha (q _ _ (.int _ _))
theorem op_neg_int {a : Int} : Op1 X k (unaryOp .USub) (.int a) (.int (-a)) := fun A G s v₁ hr T hG r₁ => by
  cases r₁; exact Gv.toks hG fun Q q => P.neg_int (q _ _ (.int _ _))
theorem op_eq_int {a b : Int} : Op2 X k (compareOp .Eq) (.int a) (.int b) (.bool (a == b)) := fun A G s v₁ v₂ hr T hG r₁ r₂ => by
  cases r₁; cases r₂; exact Gv.pure' hG (.bool _) fun Q q => PyProof.Rows.eq_int q
theorem op_ge_int {a b : Int} : Op2 X k (compareOp .GtE) (.int a) (.int b) (.bool (decide (b ≤ a))) := fun A G s v₁ v₂ hr T hG r₁ r₂ => by
  cases r₁; cases r₂; exact Gv.pure' hG (.bool _) fun Q q => PyProof.Rows.ge_int q

/-! ## texts -/
theorem Str.app_empty_left {x y : Str} (h : (x.length == 0) = true) : x ++ y = y := by
  have : x = Str.empty := by
    cases x with | mk a =>
    have : a.size = 0 := by simpa [Str.length] using h
    have : a = #[] := by simpa using this
    rw [this]; rfl
  rw [this]; exact Str.empty_append y
theorem Str.app_empty_right {x y : Str} (h : (y.length == 0) = true) : x ++ y = x := by
  cases x with | mk a => cases y with | mk b =>
  have : b.size = 0 := by simpa [Str.length] using h
  have : b = #[] := by simpa using this
  rw [this]
  show Str.mk (a ++ #[]) = Str.mk a
  rw [Array.append_empty]
theorem op_add_str {x y : Str} (hx : x.length ≤ 1000) (hy : y.length ≤ 1000) : Op2 X k (binaryOp .Add) (.str x) (.str y) (.str (x ++ y)) := fun A G s v₁ v₂ hr T hG r₁ r₂ => by
  cases r₁ with
  | str _ t => cases r₂ with
    | str _ u =>
      refine Gv.toks hG fun Q q => P.add_str ?_
      split
      · rename_i h; rw [Str.app_empty_left h] at q; exact q _ s.toks (.str _ _)
      · split
        · rename_i h; rw [Str.app_empty_right h] at q; exact q _ s.toks (.str _ _)
        · exact ⟨by rw [Str.length_append, sizeLine_eq]; omega, q _ _ (.str _ _)⟩
theorem op_iadd_str {x y : Str} (hx : x.length ≤ 1000) (hy : y.length ≤ 1000) : Op2 X k (inplaceOp .Add) (.str x) (.str y) (.str (x ++ y)) := fun A G s v₁ v₂ hr T hG r₁ r₂ => by
  cases r₁ with
  | str _ t => cases r₂ with
    | str _ u =>
      refine Gv.toks hG fun Q q => P.iadd_str ?_
      split
      · rename_i h; rw [Str.app_empty_left h] at q; exact q _ s.toks (.str _ _)
      · split
        · rename_i h; rw [Str.app_empty_right h] at q; exact q _ s.toks (.str _ _)
        · exact ⟨by rw [Str.length_append, sizeLine_eq]; omega, q _ _ (.str _ _)⟩
theorem op_eq_str {x y : Str} : Op2 X k (compareOp .Eq) (.str x) (.str y) (.bool (x == y)) := fun A G s v₁ v₂ hr T hG r₁ r₂ => by
  cases r₁; cases r₂; exact Gv.pure' hG (.bool _) fun Q q => PyProof.Rows.eq_str q

theorem seqIndex_nonneg {n : Int} {m : Nat} (h0 : 0 ≤ n) (h1 : n.toNat < m) : seqIndex? n m = some n.toNat := by
  unfold seqIndex?
  have h2 : ¬ n < 0 := by omega
  have h3 : n < (m : Int) := by omega
  simp only [h2, if_false, h0, h3, decide_true, Bool.and_self, if_true]

theorem TupO.isTup {o : Obj} {vs : List Value} {h : Heap} {a : Addr} (x : TupO o vs) (ho : h.get? a = some o) : IsTup h a vs.toArray := ⟨o, ho, x.1, x.2⟩

/-- a new frozen object -/
theorem Gv.new {A : Around} {G : Fz} {s : Shared} {t : Sem Value} {o : Obj} {d : D} (hG : G.In s.heap) (hf : o.isFreed = false) (hr : ∀ G', G.Le G' → G' s.heap.objs.size = some o → Rel X G' (.ref s.heap.objs.size) d)
    (h : ∀ Q : Value → Shared → Prop, (∀ n, Q (.ref s.heap.objs.size) { s with heap := s.heap.push o, toks := n }) → wpAny X.M A t Q NoE s) (hnt : ¬ Tab o := by exact nt_cls rfl) : Gv X A G s t d :=
  fun Q hq => h Q fun n => hq _ _ (G.put s.heap.objs.size o) Stp.push (.put hG (.push (X := X)) (get?_size _) (Heap.get?_push_size _ hf) hnt) (hr _ (Fz.put_le (Fz.none_of hG (get?_size _))) Fz.put_self)

/-! ## tuples and lists -/
theorem op_add_tuple {ds es : List D} (hd : ds ≠ []) (he : es ≠ []) (hl : ds.length + es.length ≤ 1000) : Op2 X k (binaryOp .Add) (.tuple ds) (.tuple es) (.tuple (ds ++ es)) := fun A G s v₁ v₂ hr T hG r₁ r₂ => by
  cases r₁ with
  | @tuple t o vs _ h1 h2 h3 => cases r₂ with
    | @tuple b o2 ws _ k1 k2 k3 =>
      obtain ⟨⟨cls, dd, data, sl⟩, ho, hc, n, hdd⟩ := h2.isTup (hG.get _ _ h1)
      obtain ⟨⟨cls2, dd2, data2, sl2⟩, ho2, hc2, n2, hdd2⟩ := k2.isTup (hG.get _ _ k1)
      simp only at hc hdd hc2 hdd2
      subst hc hdd hc2 hdd2
      have hvs : vs ≠ [] := fun e => by subst e; cases h3; exact hd rfl
      have hws : ws ≠ [] := fun e => by subst e; cases k3; exact he rfl
      have e : vs.toArray ++ ws.toArray = (vs ++ ws).toArray := by simp
      refine Gv.new (o := { cls := .type "tuple", data := .seq (vs ++ ws).toArray }) hG rfl (fun G' le e' => .tuple e' ⟨rfl, 0, rfl⟩ ((RelAll.mono le h3).append (RelAll.mono le k3))) fun Q q => ?_
      refine concat_meets ⟨_, ho, rfl⟩ ⟨_, ho2, rfl⟩ noFill_tuple_add seq_tuple_add PySem.F.slot_tuple_add PySem.F.entry_tuple_add (PySem.F.args_tuple_add_2 _ _)
        (tuple_addW2 t b vs.toArray ws.toArray n n2 dd dd2 sl sl2 (by simpa using hvs) (by simpa using hws) (by rw [List.size_toArray, List.size_toArray, h3.length, k3.length, sizeLine_eq]; omega)) ⟨ho, ho2, ?_⟩
      rw [e]
      exact q s.toks

theorem op_mul_list {ds : List D} {n : Int} (h0 : 0 ≤ n) (h1 : n ≤ 1000) (hl : ds.length ≤ 1000) (hne : ds ≠ []) : Op2 X k (binaryOp .Mult) (.list ds) (.int n) (.list (List.replicate n.toNat ds).flatten) := fun A G s v₁ v₂ hr T hG r₁ r₂ => by
  cases r₁ with
  | @list l o vs _ q1 q2 q3 => cases r₂ with
    | int _ u =>
      obtain ⟨kk, rfl⟩ := q2
      have hvs : vs ≠ [] := fun e => by subst e; cases q3; exact hne rfl
      have hfold : ∀ (m : Nat) (acc : List Value), List.foldl (fun x1 x2 => x1 ++ x2) acc.toArray (List.replicate m vs.toArray) = (acc ++ (List.replicate m vs).flatten).toArray := by
        intro m
        induction m with
        | zero => intro acc; simp
        | succ m ih => intro acc; rw [List.replicate_succ, List.foldl_cons, List.replicate_succ, List.flatten_cons]; have := ih (acc ++ vs); rw [show acc.toArray ++ vs.toArray = (acc ++ vs).toArray by simp, this, List.append_assoc]
      have hrel : ∀ (G' : Fz), G.Le G' → ∀ m : Nat, RelAll X G' (List.replicate m vs).flatten (List.replicate m ds).flatten := fun G' le m => by
        induction m with
        | zero => exact .nil
        | succ m ih => rw [List.replicate_succ, List.flatten_cons, List.replicate_succ, List.flatten_cons]; exact (RelAll.mono le q3).append ih
      have hl' := hG.get _ _ q1
      have hlen := q3.length
      refine Gv.new (o := { cls := .type "list", data := .seq (List.replicate n.toNat vs).flatten.toArray }) hG rfl (fun G' le e' => .list e' ⟨0, rfl⟩ (hrel G' le _)) fun Q q => ?_
      have e : List.foldl (fun x1 x2 => x1 ++ x2) #[] (List.replicate (if vs.toArray.isEmpty = true then 0 else n.toNat) vs.toArray) = (List.replicate n.toNat vs).flatten.toArray := by
        rw [if_neg (by simpa using hvs)]
        have := hfold n.toNat []
        simpa using this
      have hprod : vs.toArray.size * n.toNat ≤ 1000 * 1000 := Nat.mul_le_mul (by rw [List.size_toArray]; omega) (by omega)
      refine wpAny_binaryOp_repeat_ref (T := "list") (U := "int") (by decide) ⟨_, hl', rfl⟩ (fun s' => typeIs_int s' n u) noFill_list_mul PySem.F.fills_int_mul PySem.F.slot_int_rmul repeat_list PySem.F.slot_int_index.lookup
        (call_meets PySem.F.slot_int_rmul (typeIs_int s n u) PySem.F.entry_int_rmul (PySem.F.args_int_rmul_2 _ _) (int___rmul___int_list n u l vs.toArray kk)
          ⟨hl', rfl, ⟨_, hl', rfl⟩, call_meets PySem.F.slot_list_mul ⟨_, hl', rfl⟩ PySem.F.entry_list_mul (PySem.F.args_list_mul_2 _ _)
            (AutoListH.list___mul___list_int_3 l vs.toArray kk n u (by simp [Builtin.List.listFitsIndex]; omega) (by omega) (by simp only [Builtin.List.listTooLong, sizeLine]; have := hprod; simp only [List.size_toArray] at this ⊢; simp; omega))
            ⟨hl', ?_⟩⟩)
      rw [e]
      exact q s.toks

section
variable {c : Cx} {ρ : AEnv}
/-- x[i] of a text -/
theorem Ev.strItem {e i : PySem.Expr} {pos : Pos} {x : Str} {n : Int} {ch : Nat} (h : Ev c ρ e (.str x)) (hi : Ev c ρ i (.int n)) (h0 : 0 ≤ n) (h1 : n < 2 ^ 62) (hc : x.cps[n.toNat]? = some ch)
    (hsl : ∀ o v, ∃ l, subscripted i false o v = operate l (getItem o v) := by intro _ _; exact ⟨_, rfl⟩) : Ev c ρ (.Subscript e i pos) (.str ⟨#[ch]⟩) :=
  fun env A B G s he hr F Q hq => wp_subscript hsl (h env A B G s he hr F _ fun v s₁ G₁ st₁ g₁ r₁ =>
    hi env A B G₁ s₁ he hr (F.grow st₁.heap g₁) _ fun v₂ s₂ G₂ st₂ g₂ r₂ => by
      cases r₁ with
      | str _ t => cases r₂ with
        | int _ u =>
          have hlt : n.toNat < x.cps.size := by
            by_cases q : n.toNat < x.cps.size
            · exact q
            · rw [Array.getElem?_eq_none (by omega)] at hc; cases hc
          refine ⟨"str", _, PySem.F.slot_str_getitem.lookup, typeIs_str _ _ _, P.getItem_str (c := ch) (by simp; omega) (by rw [show seqIndex? n x.length = some n.toNat from seqIndex_nonneg h0 hlt]; exact hc) (hq _ _ G₂ ((st₁.trans st₂).trans .toks) (g₁.trans st₁.heap g₂) (.str _ _))⟩)

/-- x[i] of a tuple -/
theorem Ev.tupItem {e i : PySem.Expr} {pos : Pos} {ds : List D} {n : Int} {d : D} (h : Ev c ρ e (.tuple ds)) (hi : Ev c ρ i (.int n)) (h0 : 0 ≤ n) (hd : ds[n.toNat]? = some d) (h1 : n < 2 ^ 62 := by decide)
    (hsl : ∀ o v, ∃ l, subscripted i false o v = operate l (getItem o v) := by intro _ _; exact ⟨_, rfl⟩) : Ev c ρ (.Subscript e i pos) d :=
  fun env A B G s he hr F Q hq => wp_subscript hsl (h env A B G s he hr F _ fun v s₁ G₁ st₁ g₁ r₁ =>
    hi env A B G₁ s₁ he hr (F.grow st₁.heap g₁) _ fun v₂ s₂ G₂ st₂ g₂ r₂ => by
      cases r₁ with
      | @tuple a o vs _ q1 q2 q3 => cases r₂ with
        | int _ u =>
          obtain ⟨w, e1, e2⟩ := q3.get hd
          have hlt : n.toNat < vs.length := (List.getElem?_eq_some_iff.mp e1).1
          have ht := q2.isTup (g₂.hold.get _ _ (g₂.le _ _ q1))
          exact ⟨"tuple", _, slot_tuple_getitem.lookup, ht.typeIs, PyProof.Rows.getItem_tuple ht (by omega) (by omega) (seqIndex_nonneg h0 (by simpa using hlt)) (by simpa using e1) (hq w _ G₂ (st₁.trans st₂) (g₁.trans st₁.heap g₂) (Rel.mono g₂.le e2))⟩)

/-! ## slices -/
/-- a part of a slice -/
noncomputable def EvP (c : Cx) (ρ : AEnv) : Option PySem.Expr → Option Int → Prop
  | none, p => p = none
  | some e, p => ∃ i, p = some i ∧ Ev c ρ e (.int i)
theorem EvP.none : EvP c ρ none none := rfl
theorem EvP.some {e : PySem.Expr} {i : Int} (h : Ev c ρ e (.int i)) : EvP c ρ (some e) (some i) := ⟨i, rfl, h⟩

theorem EvP.run {x : Option PySem.Expr} {p : Option Int} (h : EvP c ρ x p) {env : Env} {A : Around} {B G : Fz} {s : Shared} {Q : Value → Shared → Prop} (he : EnvOk c.sc env) (hr : Rm c.k A) (F : FI c.X c.oc env ρ B G s.heap)
    (hq : ∀ v s' G', Stp c.X s s' → G.Grow s.heap G' s'.heap → IsPart v p → Q v s') : wpAny c.X.M A (evalPart x env) Q NoE s := by
  cases x with
  | none => cases h; rw [evalPart_none]; exact wpAny_pure (hq _ s G .refl (.refl F.hold) .none)
  | some e =>
    obtain ⟨i, rfl, h⟩ := h
    rw [evalPart_some]
    exact h env A B G s he hr F _ fun v s₁ G₁ st₁ g₁ r₁ => by cases r₁; exact hq _ s₁ G₁ st₁ g₁ (.int _ _)

/-- the data at the places of a slice -/
noncomputable def pick (ds : List D) (lo hi st : Option Int) : List D :=
  (sliceRange (sliceBounds lo hi st ds.length).1 (sliceBounds lo hi st ds.length).2.1 (sliceBounds lo hi st ds.length).2.2).filterMap (ds[·]?)
theorem RelAll.places {G : Fz} {vs : List Value} {ds : List D} (h : RelAll X G vs ds) (is : List Nat) : RelAll X G (is.filterMap (vs[·]?)) (is.filterMap (ds[·]?)) := by
  induction is with
  | nil => exact .nil
  | cons i r ih =>
    simp only [List.filterMap_cons]
    cases hv : vs[i]? with
    | none =>
      have : ds[i]? = none := by rw [List.getElem?_eq_none_iff] at hv ⊢; have := h.length; omega
      rw [this]; exact ih
    | some v => obtain ⟨d, hd, hrel⟩ := h.get' hv; rw [hd]; exact .cons hrel ih
theorem slicePick_rel {G : Fz} {vs : List Value} {ds : List D} (h : RelAll X G vs ds) (lo hi st : Option Int) : ∃ ws, slicePick vs.toArray lo hi st = ws.toArray ∧ RelAll X G ws (pick ds lo hi st) := by
  refine ⟨_, rfl, ?_⟩
  have e : vs.toArray.size = ds.length := by rw [List.size_toArray, h.length]
  rw [e]
  have := h.places (sliceRange (sliceBounds lo hi st ds.length).1 (sliceBounds lo hi st ds.length).2.1 (sliceBounds lo hi st ds.length).2.2)
  simpa [pick] using this

/-- e[lo:hi] of a list -/
theorem Ev.listSlice {e : PySem.Expr} {lo hi : Option PySem.Expr} {p pos : Pos} {ds : List D} {l u : Option Int} (h : EvL c ρ e ds) (hlo : EvP c ρ lo l) (hhi : EvP c ρ hi u) (hlen : ds.length ≤ 100000) : Ev c ρ (.Subscript e (.Slice lo hi none p) pos) (.list (pick ds l u none)) :=
  fun env A B G s he hr F Q hq => wp_subscript (fun _ _ => ⟨_, rfl⟩) (h env A B G s _ he hr F fun a s₁ G₁ o vs st₁ g₁ ho hl hrel => by
    have F₁ := F.grow st₁.heap g₁
    refine wpAny_Slice (hlo.run he hr F₁ fun vl s₂ G₂ st₂ g₂ p₂ => hhi.run he hr (F₁.grow st₂.heap g₂) fun vu s₃ G₃ st₃ g₃ p₃ => ?_)
    rw [evalPart_none]
    refine wpAny_pure ?_
    have st := (st₁.trans st₂).trans st₃
    have g := (g₁.trans st₁.heap g₂).trans (st₁.trans st₂).heap g₃
    obtain ⟨q1, q2, q3, q4, q5⟩ := itFresh st g { cls := .type "slice", data := .fields #[vl, vu, .none] }
    have hl₃ := hl.isList (Heap.get?_push_of_some { cls := .type "slice", data := .fields #[vl, vu, .none] } ((st₂.trans st₃).heap.get _ _ ho hl.nt))
    refine ⟨"list", _, slot_list_getitem.lookup, hl₃.typeIs, ?_⟩
    have hr₃ := RelAll.mono (g₂.le.trans g₃.le) hrel
    obtain ⟨ws, ew, rw'⟩ := slicePick_rel hr₃ l u none
    refine wpAny_getItem_list_slice hl₃ ⟨_, q5, rfl, rfl⟩ p₂ p₃ .none (by simp) ?_ (by rw [List.size_toArray, hrel.length, sizeLine_eq]; omega)
    rw [ew]
    refine hq _ _ (G₃.put _ { cls := .type "list", data := .seq ws.toArray }) (q1.trans (Stp.push (t := s₃.toks))) (q2.trans q1.heap (.put q2.hold (.push (X := c.X)) (get?_size _) (Heap.get?_push_size _ rfl))) (.list Fz.put_self ⟨0, rfl⟩ (RelAll.mono (Fz.put_le (Fz.none_of q2.hold (get?_size _))) rw')))

/-- e[lo:hi:st] of a list -/
theorem Ev.listSliceStep {e st' : PySem.Expr} {lo hi : Option PySem.Expr} {p pos : Pos} {ds : List D} {l u : Option Int} {n : Int} (h : EvL c ρ e ds) (hlo : EvP c ρ lo l) (hhi : EvP c ρ hi u) (hst : Ev c ρ st' (.int n)) (hn : n ≠ 0) (hlen : ds.length ≤ 100000) : Ev c ρ (.Subscript e (.Slice lo hi (some st') p) pos) (.list (pick ds l u (some n))) :=
  fun env A B G s he hr F Q hq => wp_subscript (fun _ _ => ⟨_, rfl⟩) (h env A B G s _ he hr F fun a s₁ G₁ o vs st₁ g₁ ho hl hrel => by
    have F₁ := F.grow st₁.heap g₁
    refine wpAny_Slice (hlo.run he hr F₁ fun vl s₂ G₂ st₂ g₂ p₂ => hhi.run he hr (F₁.grow st₂.heap g₂) fun vu s₃ G₃ st₃ g₃ p₃ => (EvP.some hst).run he hr ((F₁.grow st₂.heap g₂).grow st₃.heap g₃) fun vt s₄ G₄ st₄ g₄ p₄ => ?_)
    have st := ((st₁.trans st₂).trans st₃).trans st₄
    have g := ((g₁.trans st₁.heap g₂).trans (st₁.trans st₂).heap g₃).trans ((st₁.trans st₂).trans st₃).heap g₄
    obtain ⟨q1, q2, q3, q4, q5⟩ := itFresh st g { cls := .type "slice", data := .fields #[vl, vu, vt] }
    have hl₃ := hl.isList (Heap.get?_push_of_some { cls := .type "slice", data := .fields #[vl, vu, vt] } (((st₂.trans st₃).trans st₄).heap.get _ _ ho hl.nt))
    refine ⟨"list", _, slot_list_getitem.lookup, hl₃.typeIs, ?_⟩
    have hr₃ := RelAll.mono ((g₂.le.trans g₃.le).trans g₄.le) hrel
    obtain ⟨ws, ew, rw'⟩ := slicePick_rel hr₃ l u (some n)
    refine wpAny_getItem_list_slice hl₃ ⟨_, q5, rfl, rfl⟩ p₂ p₃ p₄ (by simpa using hn) ?_ (by rw [List.size_toArray, hrel.length, sizeLine_eq]; omega)
    rw [ew]
    refine hq _ _ (G₄.put _ { cls := .type "list", data := .seq ws.toArray }) (q1.trans (Stp.push (t := s₄.toks))) (q2.trans q1.heap (.put q2.hold (.push (X := c.X)) (get?_size _) (Heap.get?_push_size _ rfl))) (.list Fz.put_self ⟨0, rfl⟩ (RelAll.mono (Fz.put_le (Fz.none_of q2.hold (get?_size _))) rw')))

/-- e[lo:hi] of a text -/
theorem Ev.strSlice {e : PySem.Expr} {lo hi : Option PySem.Expr} {p pos : Pos} {x : Str} {l u : Option Int} (h : Ev c ρ e (.str x)) (hlo : EvP c ρ lo l) (hhi : EvP c ρ hi u) (hlen : x.length ≤ 100000) : Ev c ρ (.Subscript e (.Slice lo hi none p) pos) (.str (PySem.Txt.slice x l u)) :=
  fun env A B G s he hr F Q hq => wp_subscript (fun _ _ => ⟨_, rfl⟩) (h env A B G s he hr F _ fun v s₁ G₁ st₁ g₁ r₁ => by
    cases r₁ with
    | str _ t =>
      have F₁ := F.grow st₁.heap g₁
      refine wpAny_Slice (hlo.run he hr F₁ fun vl s₂ G₂ st₂ g₂ p₂ => hhi.run he hr (F₁.grow st₂.heap g₂) fun vu s₃ G₃ st₃ g₃ p₃ => ?_)
      rw [evalPart_none]
      refine wpAny_pure ?_
      have st := (st₁.trans st₂).trans st₃
      have g := (g₁.trans st₁.heap g₂).trans (st₁.trans st₂).heap g₃
      obtain ⟨q1, q2, q3, q4, q5⟩ := itFresh st g { cls := .type "slice", data := .fields #[vl, vu, .none] }
      refine ⟨"str", _, PySem.F.slot_str_getitem.lookup, typeIs_str _ _ _, ?_⟩
      have fin : ∀ t' k, Q (.str (PySem.Txt.slice x l u) t') { s₃ with heap := s₃.heap.push { cls := .type "slice", data := .fields #[vl, vu, .none] }, toks := k } := fun t' k => hq _ _ G₃ ⟨q1.heap, q1.gens, q1.drawn, q1.os⟩ q2 (.str _ _)
      have hsz : x.length ≤ sizeLine := by rw [sizeLine_eq]; omega
      cases p₂ with
      | none => cases p₃ with
        | none => exact wpAny_getItem_str_slice (l := none) (u := none) (st := none) ⟨_, q5, rfl, rfl⟩ rfl (post_val_or_str ⟨Nat.le_trans (PySem.Txt.slice_le x _ _) hsz, fin⟩)
        | int j uj => exact wpAny_getItem_str_slice (l := none) (u := some (j, uj)) (st := none) ⟨_, q5, rfl, rfl⟩ rfl (post_val_or_str ⟨Nat.le_trans (PySem.Txt.slice_le x _ _) hsz, fin⟩)
      | int i ui => cases p₃ with
        | none => exact wpAny_getItem_str_slice (l := some (i, ui)) (u := none) (st := none) ⟨_, q5, rfl, rfl⟩ rfl (post_val_or_str ⟨Nat.le_trans (PySem.Txt.slice_le x _ _) hsz, fin⟩)
        | int j uj => exact wpAny_getItem_str_slice (l := some (i, ui)) (u := some (j, uj)) (st := none) ⟨_, q5, rfl, rfl⟩ rfl (post_val_or_str ⟨Nat.le_trans (PySem.Txt.slice_le x _ _) hsz, fin⟩))
end
end Mine
end

section
set_option linter.unusedVariables false
namespace Mine
variable {X : Wd} {k : Nat}

theorem Rm.in1 {A : Around} (h : Rm k A) : A.in1.handled = none := h.hd

/-! ## sum -/
theorem preSum_congr {f g : Nat → Int} : ∀ n, (∀ i < n, f i = g i) → preSum f n = preSum g n
  | 0, _ => rfl
  | n + 1, h => by unfold preSum; rw [preSum_congr n fun i hi => h i (by omega), h n (by omega)]
theorem preSum_list (ns : List Int) : ∀ k, k ≤ ns.length → preSum (fun i => ns.getD i 0) k = (ns.take k).sum
  | 0, _ => by simp [preSum]
  | k + 1, h => by
    unfold preSum
    rw [preSum_list ns k (by omega), List.take_add_one]
    have : ns[k]? = some (ns.getD k 0) := by
      rw [List.getElem?_eq_getElem (by omega)]; simp [List.getD, List.getElem?_eq_getElem (show k < ns.length by omega)]
    rw [this]
    simp

theorem RelAll.ints {G : Fz} {vs : List Value} {ns : List Int} (h : RelAll X G vs (ns.map D.int)) {i : Nat} {v : Value} (hv : vs[i]? = some v) : ∃ t, v = .int (ns.getD i 0) t := by
  obtain ⟨d, hd, hr⟩ := h.get' hv
  rw [List.getElem?_map] at hd
  cases hn : ns[i]? with
  | none => rw [hn] at hd; cases hd
  | some n =>
    rw [hn] at hd
    cases hd
    cases hr with
    | int _ t => exact ⟨t, by simp [List.getD, hn]⟩

theorem op_sum_list {ns : List Int} : OpN X k (fun vs => call (.builtin "sum") vs) [.list (ns.map D.int)] (.int ns.sum) := fun A G s vs hr T hG r => by
  cases r with
  | cons r r' => cases r' with
    | nil => cases r with
      | @list a o vs _ q1 q2 q3 =>
        intro Q hq
        have hl := q2.isList (hG.get _ _ q1)
        refine call_sum_walkAnyS (wpAny_pyIter_list hl ?_)
        have hlt := Heap.lt_size (hG.get _ _ q1)
        have W := (Walks.list (prog := X.prog) (w := X.w) (A := A.in1) hr.hd s.heap.objs.size a (Nat.ne_of_lt hlt) vs.toArray).toS
        refine ⟨_, _, _, _, _, _, _, fun i => ns.getD i 0, rfl, W, ?_, ?_, ?_, ?_⟩
        · exact ⟨⟨_, Heap.get?_push_size _ rfl, rfl, rfl⟩, hl.push _⟩
        · intro b hb
          rw [show ({ s with heap := s.heap.push { cls := .type "list_iterator", data := .fields #[.ref a, .int 0 0] } } : Shared).heap.objs.size = s.heap.objs.size + 1 from Heap.size_push ..]
          rcases List.mem_cons.mp hb with e | e
          · rw [e]; exact Nat.lt_succ_self _
          · rw [List.mem_singleton.mp e]; exact Nat.lt_succ_of_lt hlt
        · intro i v hv
          exact q3.ints (by simpa using hv)
        · intro s' t' hm
          have e : preSum (fun i => ns.getD i 0) vs.toArray.size = ns.sum := by
            rw [List.size_toArray, q3.length, List.length_map, preSum_list ns _ (Nat.le_refl _), List.take_length]
          rw [e]
          have hk : ∀ b o, s.heap.get? b = some o → s'.heap.get? b = some o := fun b o e => hm.heap b o (by intro h; rw [List.mem_singleton.mp h] at e; rw [get?_size] at e; cases e) (Heap.get?_push_of_some _ e)
          exact hq _ s' G ⟨.of hk, fun g => by rw [show s'.gens = s.gens from hm.gens]; exact g, hm.drawn, hm.os⟩ (.same hG (.of (X := X) hk)) (.int _ _)

/-! ## len, str, isinstance, tuple -/
theorem op_len_str {x : Str} (h : x.length ≤ 100000) : OpN X k (fun vs => call (.builtin "len") vs) [.str x] (.int x.length) := fun A G s vs hr T hG r => by
  cases r with
  | cons r r' => cases r' with
    | nil => cases r with
      | str _ t => exact Gv.toks hG fun Q q => P.len_str (by omega) (q _ _ (.int _ _))
theorem op_len_list {ds : List D} (h : ds.length ≤ 100000) : OpN X k (fun vs => call (.builtin "len") vs) [.list ds] (.int ds.length) := fun A G s vs hr T hG r => by
  cases r with
  | cons r r' => cases r' with
    | nil => cases r with
      | @list a o vs _ q1 q2 q3 =>
        refine Gv.toks hG fun Q q => Calls.call_len_list (q2.isList (hG.get _ _ q1)) (by rw [List.size_toArray, q3.length]; omega) ?_
        rw [List.size_toArray, q3.length]
        exact q _ _ (.int _ _)
theorem op_str_int {n : Int} (h0 : 0 ≤ n) (h1 : n < 1000) : OpN X k (fun vs => call (.type "str") vs) [.int n] (.str (Str.ofString (toString n))) := fun A G s vs hr T hG r => by
  cases r with
  | cons r r' => cases r' with
    | nil => cases r with
      | int _ t =>
        refine Gv.toks hG fun Q q => P.str_of_int ?_ (q _ _ (.str _ _))
        have : n.natAbs < 1000 := by omega
        have h2 : n.natAbs.log2 ≤ n.natAbs := Nat.log2_le_self _
        omega
theorem op_tuple_list {ds : List D} (h : ds.length ≤ 100000) : OpN X k (fun vs => call (.type "tuple") vs) [.list ds] (.tuple ds) := fun A G s vs hr T hG r => by
  cases r with
  | cons r r' => cases r' with
    | nil => cases r with
      | @list a o vs _ q1 q2 q3 =>
        intro Q hq
        refine call_tuple_list (q2.isList (hG.get _ _ q1)) (fun h' hk => ?_) (by rw [List.size_toArray, q3.length, sizeLine_eq]; omega)
        have hG' : G.In h' := hG.kp (.of (X := X) hk)
        refine hq _ _ (G.put h'.objs.size { cls := .type "tuple", data := .seq vs.toArray }) ⟨.of fun b o e => Heap.get?_push_of_some _ (hk b o e), id, rfl, rfl⟩ ?_ (.tuple Fz.put_self ⟨rfl, 0, rfl⟩ (RelAll.mono (Fz.put_le (Fz.none_of hG' (get?_size _))) q3))
        exact (Fz.Grow.same hG (.of (X := X) hk)).trans (.of (X := X) hk) (.put hG' (.push (X := X)) (get?_size _) (Heap.get?_push_size _ rfl))
end Mine
end

section
set_option linter.unusedVariables false
namespace Mine
variable {X : Wd} {k : Nat}

/-! ## the formats -/
theorem op_fmt1 {y : Str} (hy : y.length ≤ 1000) : Op2 X k (binaryOp .Mod) (.str "{%s}") (.str y) (.str (Str.ofString "{" ++ y ++ Str.ofString "}")) := fun A G s v₁ v₂ hr T hG r₁ r₂ => by
  cases r₁ with
  | str _ t => cases r₂ with
    | str _ u =>
      refine Gv.toks hG fun Q q => ?_
      refine' KPc.mod_str (T := fun z => Str.ofString "{" ++ z ++ Str.ofString "}") ?kpcF ?kpcl ?kpcm ?_
      (case kpcF => kpc_eq)
      (case kpcl => omega)
      (case kpcm => k_dflt kpc_run_s)
      intro t' k'
      exact q _ _ (.str _ _)

set_option maxRecDepth 100000 in
set_option maxHeartbeats 8000000 in
theorem fmt3_meets {x z : Str} {n : Int} {b : Addr} {t t1 t2 t3 : Tok} (hx' : x.length ≤ 1000000) (hz' : z.length ≤ 1000000) (h0 : 0 ≤ n) (h1' : n < 10 ^ 10) :
    Meets (Builtin.«str.__mod__» ⟨[.str ⟨#[37, 115, 58, 37, 100, 40, 37, 115, 41]⟩ t, .ref b], []⟩) (fun _ R s => IsTup s.heap b [Value.str x t1, .int n t2, .str z t3].toArray ∧ ∀ t' k, R (.ok (.ret (.str (x ++ Str.ofString ":" ++ Str.ofString (toString n) ++ Str.ofString "(" ++ z ++ Str.ofString ")") t'))) { s with toks := k }) := by
  k_dflt kpt_run

theorem op_fmt3 {x z : Str} {n : Int} (hx : x.length ≤ 1000) (hz : z.length ≤ 1000) (h0 : 0 ≤ n) (h1 : n < 1000) :
    Op2 X k (binaryOp .Mod) (.str "%s:%d(%s)") (.tuple [.str x, .int n, .str z]) (.str (x ++ Str.ofString ":" ++ Str.ofString (toString n) ++ Str.ofString "(" ++ z ++ Str.ofString ")")) := fun A G s v₁ v₂ hr T hG r₁ r₂ => by
  cases r₁ with
  | str _ t => cases r₂ with
    | @tuple b o vs _ q1 q2 q3 =>
      obtain ⟨v1, v2, v3, rfl, w1, w2, w3⟩ : ∃ v1 v2 v3, vs = [v1, v2, v3] ∧ Rel X G v1 (.str x) ∧ Rel X G v2 (.int n) ∧ Rel X G v3 (.str z) := by
        cases q3 with | cons a q3 => cases q3 with | cons b q3 => cases q3 with | cons c q3 => cases q3; exact ⟨_, _, _, rfl, a, b, c⟩
      cases w1 with
      | str _ t1 => cases w2 with
        | int _ t2 => cases w3 with
          | str _ t3 =>
            have ht := q2.isTup (hG.get _ _ q1)
            have hx' : x.length ≤ 1000000 := by omega
            have hz' : z.length ≤ 1000000 := by omega
            have h1' : n < 10 ^ 10 := by omega
            have hm := fmt3_meets (b := b) (t := t) (t1 := t1) (t2 := t2) (t3 := t3) hx' hz' h0 h1'
            refine Gv.toks hG fun Q q => ?_
            have hT : s.TypeIs (.ref b) "tuple" := by
              obtain ⟨o, ho, hc, _⟩ := ht
              exact ⟨o, ho, hc⟩
            have eX : (Str.ofString "%s:%d(%s)") = ⟨#[37, 115, 58, 37, 100, 40, 37, 115, 41]⟩ := by decide +kernel
            show wpAny X.M A (binaryOp .Mod (.str (Str.ofString "%s:%d(%s)") t) (.ref b)) Q NoE s
            rw [eX]
            exact KPt.bin_left (T := "str") (U := "tuple") (op := .Mod) (by decide) (typeIs_str s _ t) hT PySem.F.fills_str_mod KPt.fills_tuple PySem.F.slot_str_mod
              (call_meets PySem.F.slot_str_mod (typeIs_str s _ t) PySem.F.entry_str_mod (PySem.F.args_str_mod_2 _ _) hm ⟨ht, fun t' k => ⟨(fun e => nomatch e), q _ _ (.str _ _)⟩⟩)
end Mine
end

section
set_option linter.unusedVariables false
namespace Mine
variable {X : Wd} {k : Nat} {c : Cx} {ρ : AEnv}

/-- isinstance(e, tuple) -/
theorem Ev.isiTuple {e : PySem.Expr} {fpos tpos pos : Pos} {d : D} {b : Bool} (hmg : c.X.mg "isinstance" = none) (hmb : c.X.mb "isinstance" = some (.builtin "isinstance")) (hmg' : c.X.mg "tuple" = none) (hmb' : c.X.mb "tuple" = some (.type "tuple"))
    (h : Ev c ρ e d) (hd : (∃ ds, d = .tuple ds ∧ b = true) ∨ (∃ i, d = .int i ∧ b = false))
    (hf : c.sc.names.lookup (Str.ofString "isinstance") = some .globalImplicit := by rfl) (hf' : c.sc.names.lookup (Str.ofString "tuple") = some .globalImplicit := by rfl)
    (hst : ∀ env, starEach [e, .Name "tuple" tpos] env = [e, .Name "tuple" tpos].map fun e => (false, eval e env) := by intro _; exact star_all rfl) : Ev c ρ (.Call (.Name "isinstance" fpos) [e, .Name "tuple" tpos] [] pos) (.bool b) := by
  intro env A B G s he hr F Q hq
  show wpAny c.X.M A (eval (.Name "isinstance" fpos) env >>= fun fv => callWith pos fv [] (backTo pos (starEach [e, .Name "tuple" tpos] env)) []) Q NoE s
  refine wpAny_bind (Calls.Name_function_global he.k (by rw [he.kindOf]; exact hf) (loadGlobalB he F.tph hmg hmb ?_) (by decide))
  refine Calls.callWith_builtin (plain_any (hst env)) (evalArgs_of (hst env) ?_)
  refine wpAny_items_cons (h env A B G s he hr F _ fun v s₁ G₁ st₁ g₁ r₁ => ?_) (hst env)
  refine wpAny_items_cons (Calls.Name_function_global he.k (by rw [he.kindOf]; exact hf') (loadGlobalB he (F.tph.keeps st₁.heap) hmg' hmb' (wpAny_items_nil ?_)) (by decide)) rfl
  show wpAny c.X.M A (PySem.call (.builtin "isinstance") [v, .type "tuple"]) Q NoE s₁
  rcases hd with ⟨ds, rfl, rfl⟩ | ⟨i, rfl, rfl⟩
  · cases r₁ with
    | @tuple a o vs _ q1 q2 q3 => exact call_isinstance_yes (q2.isTup (g₁.hold.get _ _ q1)).typeIs (by rfl) (by rw [isSubtype_type]; kernel_rfl) (hq _ s₁ G₁ st₁ g₁ (.bool true))
  · cases r₁ with
    | int _ t => exact IsiPair.int_tuple (hq _ _ G₁ (st₁.trans .toks) g₁ (.bool false))

/-! ## methods of texts -/
theorem Ev.startswith {e i : PySem.Expr} {apos pos : Pos} {x y : Str} (h : Ev c ρ e (.str x)) (hi : Ev c ρ i (.str y)) (hb : ∀ env, attributeBase e "startswith" env (eval e env) = eval e env) (hline : (apos.endLine == pos.line) = true)
    (htr : ∀ env, backTo pos (starEach [i] env) = [(false, eval i env)]) : Ev c ρ (.Call (.Attribute e "startswith" apos) [i] [] pos) (.bool (PySem.Txt.startswith x y)) :=
  fun env A B G s he hr F Q hq => wpAny_Call_method1_late (hb env) hline (htr env) (h env A B G s he hr F _ fun v s₁ G₁ st₁ g₁ r₁ => by
    cases r₁ with
    | str _ t =>
      exact SB.startswith (hi env A B G₁ s₁ he hr (F.grow st₁.heap g₁) _ fun v₂ s₂ G₂ st₂ g₂ r₂ => by
        cases r₂ with
        | str _ u => exact ⟨y, u, rfl, hq _ s₂ G₂ (st₁.trans st₂) (g₁.trans st₁.heap g₂) (.bool _)⟩))
theorem Ev.endswith {e i : PySem.Expr} {apos pos : Pos} {x y : Str} (h : Ev c ρ e (.str x)) (hi : Ev c ρ i (.str y)) (hb : ∀ env, attributeBase e "endswith" env (eval e env) = eval e env) (hline : (apos.endLine == pos.line) = true)
    (htr : ∀ env, backTo pos (starEach [i] env) = [(false, eval i env)]) : Ev c ρ (.Call (.Attribute e "endswith" apos) [i] [] pos) (.bool (PySem.Txt.endswith x y)) :=
  fun env A B G s he hr F Q hq => wpAny_Call_method1_late (hb env) hline (htr env) (h env A B G s he hr F _ fun v s₁ G₁ st₁ g₁ r₁ => by
    cases r₁ with
    | str _ t =>
      exact SB.endswith (hi env A B G₁ s₁ he hr (F.grow st₁.heap g₁) _ fun v₂ s₂ G₂ st₂ g₂ r₂ => by
        cases r₂ with
        | str _ u => exact ⟨y, u, rfl, hq _ s₂ G₂ (st₁.trans st₂) (g₁.trans st₁.heap g₂) (.bool _)⟩))
theorem Ev.find1 {e i : PySem.Expr} {apos pos : Pos} {x y : Str} (h : Ev c ρ e (.str x)) (hi : Ev c ρ i (.str y)) (hb : ∀ env, attributeBase e "find" env (eval e env) = eval e env) (hline : (apos.endLine == pos.line) = true)
    (htr : ∀ env, backTo pos (starEach [i] env) = [(false, eval i env)]) : Ev c ρ (.Call (.Attribute e "find" apos) [i] [] pos) (.int (PySem.Txt.find x y)) :=
  fun env A B G s he hr F Q hq => wpAny_Call_method1_late (hb env) hline (htr env) (h env A B G s he hr F _ fun v s₁ G₁ st₁ g₁ r₁ => by
    cases r₁ with
    | str _ t =>
      exact SB.find (hi env A B G₁ s₁ he hr (F.grow st₁.heap g₁) _ fun v₂ s₂ G₂ st₂ g₂ r₂ => by
        cases r₂ with
        | str _ u => exact ⟨y, u, rfl, hq _ _ G₂ ((st₁.trans st₂).trans .toks) (g₁.trans st₁.heap g₂) (.int _ _)⟩))

/-- x.find(y, i, j), x.rfind(y, i, j) -/
noncomputable def find3 (x y : Str) (i j : Int) : Int := match Builtin.Str.occurrences x y (PySem.fromIndex x.length i) (min (PySem.fromIndex x.length j) x.length) 1 with | k :: _ => (k : Int) | [] => -1
noncomputable def rfind3 (x y : Str) (i j : Int) : Int := match Builtin.Str.lastOccurrence x y (PySem.fromIndex x.length i) (min (PySem.fromIndex x.length j) x.length) with | some k => (k : Int) | none => -1
theorem gives_find3 (x y : Str) (i j : Int) (t u v w : Tok) : Gives (Builtin.«str.find» ⟨[.str x t, .str y u, .int i v, .int j w], []⟩) (.int (find3 x y i j)) := by
  unfold find3
  show Gives (match Builtin.Str.occurrences x y (PySem.fromIndex x.length i) (min (PySem.fromIndex x.length j) x.length) 1 with | k :: _ => retInt k | [] => (do rule "str.find.not-found"; retInt (-1))) _
  cases Builtin.Str.occurrences x y (PySem.fromIndex x.length i) (min (PySem.fromIndex x.length j) x.length) 1 with
  | nil => exact .rule (.of_eq rfl)
  | cons k _ => exact .of_eq rfl
theorem gives_rfind3 (x y : Str) (i j : Int) (t u v w : Tok) : Gives (Builtin.«str.rfind» ⟨[.str x t, .str y u, .int i v, .int j w], []⟩) (.int (rfind3 x y i j)) := by
  unfold rfind3
  show Gives (match Builtin.Str.lastOccurrence x y (PySem.fromIndex x.length i) (min (PySem.fromIndex x.length j) x.length) with | some k => retInt k | none => (do rule "str.rfind.not-found"; retInt (-1))) _
  cases Builtin.Str.lastOccurrence x y (PySem.fromIndex x.length i) (min (PySem.fromIndex x.length j) x.length) with
  | none => exact .rule (.of_eq rfl)
  | some k => exact .of_eq rfl

theorem wp_method3 {A : Around} {s : Shared} {name : Str} {id : String} {Bf : Builtin} {x : Str} {t : Tok} {pos : Pos} {a b d : Sem Value} {Q : Value → Shared → Prop} (slot : PySem.Slot "str" name id) (ty : typeOf (.builtin id) = pure (.type "method_descriptor")) (entry : entryFor table id = some Bf)
    (h : wpAny X.M A a (fun v₁ s₁ => wpAny X.M A b (fun v₂ s₂ => wpAny X.M A d (fun v₃ s₃ => argsOk id ⟨[.str x t, v₁, v₂, v₃], []⟩ ∧ ∃ m, Gives (Bf ⟨[.str x t, v₁, v₂, v₃], []⟩) m ∧ m.post Q s₃) NoE s₂) NoE s₁) NoE s) :
    MethodOn X.prog X.w A name pos (.str x t) [(false, a), (false, b), (false, d)] Q NoE s := by
  refine ⟨"str", id, PySem.F.plainAttrs_str, slot, ty, typeIs_str _ _ _, (fun _ e => nomatch e), ?_⟩
  refine method_gives slot entry rfl (Calls.evalArgs_plain (Calls.spliced_cons (wpAny_mono h (fun v₁ s₁ h₁ => Calls.spliced_cons (wpAny_mono h₁ (fun v₂ s₂ h₂ => Calls.spliced_cons (wpAny_mono h₂ (fun v₃ s₃ h₃ => Calls.spliced_nil ?_) fun _ _ e => e)) fun _ _ e => e)) fun _ _ e => e)))
  exact ⟨rfl, typeIs_str _ _ _, h₃⟩

theorem Ev.find3 {e i a b : PySem.Expr} {apos pos : Pos} {x y : Str} {n m : Int} (h : Ev c ρ e (.str x)) (hi : Ev c ρ i (.str y)) (ha : Ev c ρ a (.int n)) (hb' : Ev c ρ b (.int m)) (hb : ∀ env, attributeBase e "find" env (eval e env) = eval e env) (hline : (apos.endLine == pos.line) = true)
    (htr : ∀ env, backTo pos (starEach [i, a, b] env) = [(false, eval i env), (false, eval a env), (false, eval b env)]) : Ev c ρ (.Call (.Attribute e "find" apos) [i, a, b] [] pos) (.int (Mine.find3 x y n m)) :=
  fun env A B G s he hr F Q hq => wpAny_Call_method_late (hb env) (by rw [htr env]; rfl) hline (htr env) (h env A B G s he hr F _ fun v s₁ G₁ st₁ g₁ r₁ => by
    cases r₁ with
    | str _ t =>
      refine wp_method3 PySem.F.slot_str_find PySem.F.type_str_find PySem.F.entry_str_find ?_
      have F₁ := F.grow st₁.heap g₁
      refine hi env A B G₁ s₁ he hr F₁ _ fun v₂ s₂ G₂ st₂ g₂ r₂ => ha env A B G₂ s₂ he hr (F₁.grow st₂.heap g₂) _ fun v₃ s₃ G₃ st₃ g₃ r₃ => hb' env A B G₃ s₃ he hr ((F₁.grow st₂.heap g₂).grow st₃.heap g₃) _ fun v₄ s₄ G₄ st₄ g₄ r₄ => ?_
      cases r₂ with
      | str _ u => cases r₃ with
        | int _ v => cases r₄ with
          | int _ w =>
            have st := ((st₁.trans st₂).trans st₃).trans st₄
            have g := ((g₁.trans st₁.heap g₂).trans (st₁.trans st₂).heap g₃).trans ((st₁.trans st₂).trans st₃).heap g₄
            exact ⟨PySem.F.args_str_find_4 _ _ _ _, _, gives_find3 x y n m t u v w, hq _ _ G₄ (st.trans .toks) g (.int _ _)⟩)
theorem Ev.rfind3 {e i a b : PySem.Expr} {apos pos : Pos} {x y : Str} {n m : Int} (h : Ev c ρ e (.str x)) (hi : Ev c ρ i (.str y)) (ha : Ev c ρ a (.int n)) (hb' : Ev c ρ b (.int m)) (hb : ∀ env, attributeBase e "rfind" env (eval e env) = eval e env) (hline : (apos.endLine == pos.line) = true)
    (htr : ∀ env, backTo pos (starEach [i, a, b] env) = [(false, eval i env), (false, eval a env), (false, eval b env)]) : Ev c ρ (.Call (.Attribute e "rfind" apos) [i, a, b] [] pos) (.int (Mine.rfind3 x y n m)) :=
  fun env A B G s he hr F Q hq => wpAny_Call_method_late (hb env) (by rw [htr env]; rfl) hline (htr env) (h env A B G s he hr F _ fun v s₁ G₁ st₁ g₁ r₁ => by
    cases r₁ with
    | str _ t =>
      refine wp_method3 PySem.F.slot_str_rfind PySem.F.type_str_rfind PySem.F.entry_str_rfind ?_
      have F₁ := F.grow st₁.heap g₁
      refine hi env A B G₁ s₁ he hr F₁ _ fun v₂ s₂ G₂ st₂ g₂ r₂ => ha env A B G₂ s₂ he hr (F₁.grow st₂.heap g₂) _ fun v₃ s₃ G₃ st₃ g₃ r₃ => hb' env A B G₃ s₃ he hr ((F₁.grow st₂.heap g₂).grow st₃.heap g₃) _ fun v₄ s₄ G₄ st₄ g₄ r₄ => ?_
      cases r₂ with
      | str _ u => cases r₃ with
        | int _ v => cases r₄ with
          | int _ w =>
            have st := ((st₁.trans st₂).trans st₃).trans st₄
            have g := ((g₁.trans st₁.heap g₂).trans (st₁.trans st₂).heap g₃).trans ((st₁.trans st₂).trans st₃).heap g₄
            exact ⟨PySem.F.args_str_rfind_4 _ _ _ _, _, gives_rfind3 x y n m t u v w, hq _ _ G₄ (st.trans .toks) g (.int _ _)⟩)

/-! ## tuples compared, not in -/
theorem op_eq_pair {x y : Str} {a b : Int} : Op2 X k (compareOp .Eq) (.tuple [.str x, .int a]) (.tuple [.str y, .int b]) (.bool (x == y && a == b)) := fun A G s v₁ v₂ hr T hG r₁ r₂ => by
  cases r₁ with
  | @tuple t o vs _ h1 h2 h3 => cases r₂ with
    | @tuple t' o' ws _ k1 k2 k3 =>
      obtain ⟨v1, v2, rfl, w1, w2⟩ : ∃ v1 v2, vs = [v1, v2] ∧ Rel X G v1 (.str x) ∧ Rel X G v2 (.int a) := by
        cases h3 with | cons a q3 => cases q3 with | cons b q3 => cases q3; exact ⟨_, _, rfl, a, b⟩
      obtain ⟨u1, u2, rfl, z1, z2⟩ : ∃ v1 v2, ws = [v1, v2] ∧ Rel X G v1 (.str y) ∧ Rel X G v2 (.int b) := by
        cases k3 with | cons a q3 => cases q3 with | cons b q3 => cases q3; exact ⟨_, _, rfl, a, b⟩
      cases w1 with
      | str _ t1 => cases w2 with
        | int _ t2 => cases z1 with
          | str _ t3 => cases z2 with
            | int _ t4 =>
              refine Gv.pure' hG (.bool _) fun Q q => ?_
              refine SeqAt.eq_tupleAt (e := fun j => if j = 0 then x == y else a == b) (h2.isTuple (hG.get _ _ h1)) (k2.isTuple (hG.get _ _ k1)) (by have := hr.un; omega) (fun j hj hj' => ?_) ?_
              · have : j = 0 ∨ j = 1 := by simp at hj; omega
                rcases this with rfl | rfl
                · exact SeqAt.EqAt.str_str _ _ _ _
                · exact SeqAt.EqAt.int_int _ _ _ _
              · have e : ((List.range (min [Value.str x t1, .int a t2].toArray.size [Value.str y t3, .int b t4].toArray.size)).all (fun j => if j = 0 then x == y else a == b) && [Value.str x t1, .int a t2].toArray.size == [Value.str y t3, .int b t4].toArray.size) = (x == y && a == b) := by
                  show ((List.range 2).all (fun j => if j = 0 then x == y else a == b) && true) = _
                  simp [List.range_succ]
                rw [e]; exact q

theorem op_notIn_strs {x : Str} {xs : List Str} : Op2 X k (compareOp .NotIn) (.str x) (.list (xs.map D.str)) (.bool (!xs.contains x)) := fun A G s v₁ v₂ hr T hG r₁ r₂ => by
  cases r₁ with
  | str _ t => cases r₂ with
    | @list a o vs _ q1 q2 q3 =>
      refine Gv.pure' hG (.bool _) fun Q q => ?_
      have hstr : ∀ v ∈ vs, ∃ y u, v = .str y u := fun v hv => by
        obtain ⟨i, hi⟩ := List.mem_iff_getElem?.mp hv
        obtain ⟨d, hd, hrel⟩ := q3.get' hi
        rw [List.getElem?_map] at hd
        cases hx : xs[i]? with
        | none => rw [hx] at hd; cases hd
        | some y => rw [hx] at hd; cases hd; cases hrel with | str _ u => exact ⟨y, u, rfl⟩
      refine SeqAt.notIn_listAt (fun v => match v with | .str y _ => y == x | _ => false) (q2.isList (hG.get _ _ q1)) (fun v hv => ?_) ?_
      · obtain ⟨y, u, rfl⟩ := hstr v (by simpa using hv)
        exact SeqAt.EqAt.str_str _ _ _ _
      · have e : vs.toArray.any (fun v => match v with | .str y _ => y == x | _ => false) = xs.contains x := by
          rw [List.any_toArray]
          clear hstr q2 q1 q
          induction vs generalizing xs with
          | nil => cases xs with
            | nil => rfl
            | cons a b => cases q3
          | cons v vs ih =>
            cases xs with
            | nil => cases q3
            | cons y ys =>
              cases q3 with
              | cons h1 h2 =>
                cases h1 with
                | str _ u =>
                  rw [List.any_cons, ih h2, List.contains_cons]
                  congr 1
                  exact BEq.comm
        rw [e]; exact q
end Mine
end

section
set_option linter.unusedVariables false
namespace Mine
variable {X : Wd} {k : Nat} {c : Cx} {ρ : AEnv}

/-- {k: v} -/
theorem Ev.dict1 {e v : PySem.Expr} {pos : Pos} {x : Str} {d : D} (hk : Ev c ρ e (.str x)) (hv : Ev c ρ v d) : Ev c ρ (.Dict [some e] [v] pos) (.dict [(x, d)]) := fun env A B G s he hr F Q hq => by
  refine wpAny_Dict_pairs (knd := c.X.K) (pairs := [(eval e env, do let y ← eval v env; standAt pos; pure y)]) rfl (by simp) (by simp) ?_
  have kp : Kp c.X s.heap (s.heap.push { cls := .type "dict", data := .dict #[] }) := .push
  have F₀ := F.grow kp (.same F.hold kp)
  refine evalPairs_cons (hk env A B G { s with heap := s.heap.push { cls := .type "dict", data := .dict #[] } } he hr F₀ _ fun v₁ s₁ G₁ st₁ g₁ r₁ => ?_)
  refine wpAny_bind (hv env A B G₁ s₁ he hr (F₀.grow st₁.heap g₁) _ fun v₂ s₂ G₂ st₂ g₂ r₂ => wpAny_bind (wpAny_standAt (wpAny_pure (evalPairs_nil ?_))))
  cases r₁ with
  | str _ t =>
    have hd0 : (s.heap.push { cls := .type "dict", data := .dict #[] }).DictOf c.X.K s.heap.objs.size [] := DicO.new.dictOf (Heap.get?_push_size _ rfl)
    have st := st₁.trans st₂
    refine ⟨[(x, v₂)], ⟨strKind_is _ _ x t, rfl, trivial⟩, (by obtain ⟨od, hod, hdd⟩ := DicO.of hd0; exact hdd.dictOf (st.heap.get _ _ hod hdd.nt)), fun h' hd' hs' => ?_⟩
    obtain ⟨o', ho', hdo'⟩ := DicO.of hd'
    have hdom : ∀ b o, s.heap.get? b = some o → b ≠ s.heap.objs.size := fun b o e => Nat.ne_of_lt (Heap.lt_size e)
    have hk0 : Kp c.X s.heap s₂.heap := kp.trans st.heap
    have hk' : Kp c.X s.heap h' := ⟨fun b o e n => (hs'.2 b (hdom b o e)).trans (hk0.get b o e n), fun P o₀ e₀ t => let ⟨o, e, to⟩ := hk0.tab P o₀ e₀ t; ⟨o, (hs'.2 P (hdom P o₀ e₀)).trans e, to⟩⟩
    have g := g₁.trans st₁.heap g₂
    have hGn : G₂ s.heap.objs.size = none := (g.old _ _ (Heap.get?_push_size _ rfl)).trans (Fz.none_of F.hold (get?_size _))
    have hin : G₂.In h' := ⟨fun b o e => (hs'.2 b (fun q => by subst q; rw [hGn] at e; cases e)).trans (g.hold.get b o e), g.hold.nt⟩
    refine hq _ _ (G₂.put s.heap.objs.size o') ⟨hk', st.gens, st.drawn, st.os⟩ ⟨g.le.trans (Fz.put_le hGn), Fz.put_in hin ho' hdo'.nt, fun b o e => (Fz.put_ne (hdom b o e)).trans (let ⟨o₁, e₁⟩ := kp.some e; g.old b o₁ e₁)⟩ (.dict Fz.put_self hdo' ?_ (size_not_modules F.tph))
    have hm : merged [] [(x, v₂)] = [(x, v₂)] := by simp [merged, PySem.stored]
    rw [hm]
    exact .cons (Rel.mono (Fz.put_le hGn) r₂) .nil

/-- list(e.items()) -/
theorem Ev.listItems {e : PySem.Expr} {fpos apos ipos pos : Pos} {kds : List (Str × D)} (hmg : c.X.mg "list" = none) (hmb : c.X.mb "list" = some (.type "list")) (h : Ev c ρ e (.dict kds)) (hlen : kds.length ≤ 1000)
    (hf : c.sc.names.lookup (Str.ofString "list") = some .globalImplicit) (hb : ∀ env, attributeBase e "items" env (eval e env) = eval e env) (hline : (apos.endLine == ipos.line) = true) :
    Ev c ρ (.Call (.Name "list" fpos) [.Call (.Attribute e "items" apos) [] [] ipos] [] pos) (.list (kds.map itemD)) := fun env A B G s he hr F Q hq => by
  show wpAny c.X.M A (eval (.Name "list" fpos) env >>= fun fv => callWith pos fv [] (backTo pos (starEach [.Call (.Attribute e "items" apos) [] [] ipos] env)) []) Q NoE s
  refine wpAny_bind (Calls.Name_function_global he.k (by rw [he.kindOf]; exact hf) (loadGlobalB he F.tph hmg hmb ?_) (by decide))
  refine PySem.callWith_type rfl (evalArgs_of rfl (wpAny_items_cons (wp_items he hr F h (hb env) hline fun a v s₁ G₁ o kvs st₁ g₁ h1 h2 h3 hv h4 => wpAny_items_nil ?_) rfl))
  show wpAny c.X.M A (PySem.call (.type "list") [.ref v]) Q NoE s₁
  obtain ⟨ep, hep⟩ := h2.at
  refine kdx_call (knd := c.X.K) hr.hd hv (hep _ _ (g₁.hold.get _ _ h1)) (by rw [h3.length, sizeLine_eq]; omega) fun h' tk acc cc as hk hl hlen' hG' hacc => ?_
  -- the pairs, all frozen at once
  let G₂ : Fz := fun b => if b ∈ as ∨ b = s₁.heap.objs.size then h'.get? b else G₁ b
  have hnew : ∀ b, b ∈ as ∨ b = s₁.heap.objs.size → s₁.heap.get? b = none := fun b hb => by
    rcases hb with hb | rfl
    · exact get?_ge (Nat.le_of_lt (hG'.above b hb))
    · exact get?_size _
  have hG₁n : ∀ b, b ∈ as ∨ b = s₁.heap.objs.size → G₁ b = none := fun b hb => Fz.none_of g₁.hold (hnew b hb)
  have hle : G₁.Le G₂ := fun b o e => by
    by_cases hb : b ∈ as ∨ b = s₁.heap.objs.size
    · rw [hG₁n b hb] at e; cases e
    · show (if _ then _ else _) = _; rw [if_neg hb]; exact e
  have hin : G₂.In h' := by
    refine ⟨fun b o e => ?_, fun b o e => ?_⟩
    · by_cases hb : b ∈ as ∨ b = s₁.heap.objs.size
      · have : (if b ∈ as ∨ b = s₁.heap.objs.size then h'.get? b else G₁ b) = some o := e
        rw [if_pos hb] at this; exact this
      · have : (if b ∈ as ∨ b = s₁.heap.objs.size then h'.get? b else G₁ b) = some o := e
        rw [if_neg hb] at this; exact hk b o (g₁.hold.get b o this)
    · by_cases hb : b ∈ as ∨ b = s₁.heap.objs.size
      · have : (if b ∈ as ∨ b = s₁.heap.objs.size then h'.get? b else G₁ b) = some o := e
        rw [if_pos hb] at this
        rcases hb with hb | rfl
        · obtain ⟨j, hj⟩ := List.mem_iff_getElem?.mp hb
          obtain ⟨key, kk, y, e1, e2, e3⟩ := hG'.pairs j b hj
          rw [e3] at this; cases this; exact nt_cls rfl
        · rw [hl] at this; cases this; exact nt_cls rfl
      · have : (if b ∈ as ∨ b = s₁.heap.objs.size then h'.get? b else G₁ b) = some o := e
        rw [if_neg hb] at this; exact g₁.hold.nt b o this
  have hst : Stp c.X s { s₁ with heap := h', toks := tk } := st₁.trans (Stp.of_heap hk)
  refine hq _ _ G₂ hst ⟨g₁.le.trans hle, hin, fun b o e => ?_⟩ (.list (o := { cls := .type "list", dict := none, data := .seq acc cc, slots := #[] }) (vs := acc.toList) ?_ ⟨cc, by simp⟩ ?_)
  · have hb : ¬ (b ∈ as ∨ b = s₁.heap.objs.size) := fun hb => by have := hnew b hb; obtain ⟨o', e'⟩ := st₁.heap.some e; rw [e'] at this; cases this
    show (if _ then _ else _) = _; rw [if_neg hb]; exact g₁.old b o e
  · show (if _ then _ else _) = _; rw [if_pos (.inr rfl)]; exact hl
  · rw [hacc]
    -- item by item
    have main : ∀ (as' : List Addr) (kvs' : List (Str × Value)) (kds' : List (Str × D)), as'.length = kvs'.length → RelKv c.X G₂ kvs' kds' → (∀ (j : Nat) (a : Addr), as'[j]? = some a → ∃ t x y, kvs'[j]? = some (x, y) ∧ G₂ a = some { cls := .type "tuple", data := .seq #[.str x t, y] }) → RelAll c.X G₂ (as'.map Value.ref) (kds'.map itemD) := by
      intro as'
      induction as' with
      | nil => intro kvs' kds' hl hr _; cases kvs' with
        | nil => cases hr; exact .nil
        | cons => cases hl
      | cons a as' ih =>
        intro kvs' kds' hl hr hp
        cases kvs' with
        | nil => cases hl
        | cons p kvs' =>
          cases hr with
          | cons h1 h2 =>
            obtain ⟨t, x, y, e1, e2⟩ := hp 0 a rfl
            cases e1
            refine .cons (.tuple e2 ⟨rfl, 0, rfl⟩ (.cons (.str _ _) (.cons h1 .nil))) (ih kvs' _ (by simpa using hl) h2 fun j b hj => hp (j + 1) b hj)
    refine main as kvs kds hlen' (RelKv.mono hle h3) fun j b hj => ?_
    obtain ⟨key, kk, y, e1, e2, e3⟩ := hG'.pairs j b hj
    obtain ⟨t, rfl⟩ := Value.isStrOf_shape e2
    refine ⟨t, kk, y, e1, ?_⟩
    show (if _ then _ else _) = _
    rw [if_pos (.inl (List.mem_of_getElem? hj))]; exact e3

/-- sum(e.values()) -/
theorem Ev.sumValues {e : PySem.Expr} {fpos apos ipos pos : Pos} {kds : List (Str × D)} {ns : List Int} (hmg : c.X.mg "sum" = none) (hmb : c.X.mb "sum" = some (.builtin "sum")) (h : Ev c ρ e (.dict kds)) (hns : kds.map (·.2) = ns.map D.int)
    (hf : c.sc.names.lookup (Str.ofString "sum") = some .globalImplicit) (hb : ∀ env, attributeBase e "values" env (eval e env) = eval e env) (hline : (apos.endLine == ipos.line) = true) :
    Ev c ρ (.Call (.Name "sum" fpos) [.Call (.Attribute e "values" apos) [] [] ipos] [] pos) (.int ns.sum) := fun env A B G s he hr F Q hq => by
  show wpAny c.X.M A (eval (.Name "sum" fpos) env >>= fun fv => callWith pos fv [] (backTo pos (starEach [.Call (.Attribute e "values" apos) [] [] ipos] env)) []) Q NoE s
  refine wpAny_bind (Calls.Name_function_global he.k (by rw [he.kindOf]; exact hf) (loadGlobalB he F.tph hmg hmb ?_) (by decide))
  refine Calls.callWith_builtin rfl (evalArgs_of rfl (wpAny_items_cons (wp_values he hr F h (hb env) hline fun a v s₁ G₁ o kvs st₁ g₁ h1 h2 h3 hv h4 => wpAny_items_nil ?_) rfl))
  show wpAny c.X.M A (PySem.call (.builtin "sum") [.ref v]) Q NoE s₁
  obtain ⟨ep, hep⟩ := h2.at
  have hm := hep _ _ (g₁.hold.get _ _ h1)
  refine call_sum_walkAnyS (wpAny_pyIter_values hv hm ?_)
  have hlt := Heap.lt_size (g₁.hold.get _ _ h1)
  have W := (Walks.dictValues (prog := c.X.prog) (w := c.X.w) (A := A.in1) (knd := c.X.K) hr.hd s₁.heap.objs.size a (Nat.ne_of_lt hlt) kvs ep).toS
  have hrel := h3.vals
  rw [hns] at hrel
  refine ⟨_, _, _, _, _, _, _, fun i => ns.getD i 0, rfl, W, ?_, ?_, ?_, ?_⟩
  · exact ⟨⟨_, Heap.get?_push_size _ rfl, rfl, rfl⟩, hm.push _⟩
  · intro b hb
    rw [show ({ s₁ with heap := s₁.heap.push { cls := .type "dict_valueiterator", data := .fields #[.ref a, .int 0 0, .int kvs.length 0, .int ep 0] } } : Shared).heap.objs.size = s₁.heap.objs.size + 1 from Heap.size_push ..]
    rcases List.mem_cons.mp hb with e | e
    · rw [e]; exact Nat.lt_succ_self _
    · rw [List.mem_singleton.mp e]; exact Nat.lt_succ_of_lt hlt
  · rintro i u ⟨kk, hu⟩
    exact hrel.ints (i := i) (v := u) (by rw [List.getElem?_map, hu]; rfl)
  · intro s' t' hmv
    have e : preSum (fun i => ns.getD i 0) kvs.length = ns.sum := by
      have : kvs.length = ns.length := by have := hrel.length; simpa using this
      rw [this, preSum_list ns _ (Nat.le_refl _), List.take_length]
    rw [e]
    have hk : ∀ b o, s₁.heap.get? b = some o → s'.heap.get? b = some o := fun b o e => hmv.heap b o (by intro h; rw [List.mem_singleton.mp h] at e; rw [get?_size] at e; cases e) (Heap.get?_push_of_some _ e)
    have st₂ : Stp c.X s₁ s' := ⟨.of hk, fun g => by rw [show s'.gens = s₁.gens from hmv.gens]; exact g, hmv.drawn, hmv.os⟩
    exact hq _ s' G₁ (st₁.trans st₂) (g₁.trans st₁.heap (.same g₁.hold (.of (X := c.X) hk))) (.int _ _)

/-! ## t[:n] of a tuple -/
theorem adjust_upto (b n : Nat) (hb : b ≤ n) : Builtin.Slice.sliceAdjust none (some (b : Int)) 1 (n : Int) = (0, (b : Int)) := by
  unfold Builtin.Slice.sliceAdjust
  have h1 : ¬ ((1 : Int) < 0) := by omega
  have h2 : ¬ ((b : Int) < 0) := by omega
  simp only [h1, h2, if_false]
  congr 1
  omega
theorem places_upto (b : Nat) : Builtin.Slice.slicePlaces 0 (b : Int) 1 = b := by
  unfold Builtin.Slice.slicePlaces
  have h1 : (1 : Int) > 0 := by omega
  simp only [h1, if_true, Int.ediv_one]
  split <;> omega
theorem pick_upto (xs : List Value) (b : Nat) : ((List.range b).filterMap fun (k : Nat) => xs.toArray[((0 : Int) + (k : Int) * 1).toNat]?).toArray = (xs.take b).toArray := by
  have e : (fun (k : Nat) => xs.toArray[((0 : Int) + (k : Int) * 1).toNat]?) = fun k => xs[k]? := by
    funext k
    have : ((0 : Int) + (k : Int) * 1).toNat = k := by omega
    rw [this]; simp
  rw [e]
  congr 1
  induction b with
  | zero => simp
  | succ b ih => rw [List.range_succ, List.filterMap_append, ih, List.take_add_one]; cases hx : xs[b]? <;> simp [hx]

theorem wp_tuple_upto {A : Around} {s : Shared} {t sl : Addr} {vs : List Value} {b : Nat} {u : Tok} {Q : Value → Shared → Prop} (ht : IsTup s.heap t vs.toArray) (hs : s.heap.IsSliceOf sl .none (.int b u) .none) (hb : b < vs.length)
    (h : Q (.ref s.heap.objs.size) { s with heap := s.heap.push { cls := .type "tuple", data := .seq (vs.take b).toArray } }) (hsz : vs.length ≤ 1000) : wpAny X.M A (getItem (.ref t) (.ref sl)) Q NoE s := by
  have hdrop : sizeOk (.seq (vs.take b).toArray) := by
    show (vs.take b).toArray.size ≤ sizeLine
    rw [List.size_toArray, List.length_take, sizeLine_eq]
    omega
  obtain ⟨os, hos, hcs, hds⟩ := id hs
  have hTs : s.TypeIs (.ref sl) "slice" := ⟨os, hos, hcs⟩
  have happ : ∀ {Q' : Int × Int × Nat → Shared → Prop} {A' : Around} {E' : Value → Shared → Prop}, Q' (0, 1, b) s → wpAny X.M A' (Builtin.Slice.sliceApplied (.ref sl) (pure (vs.toArray.size : Int))) Q' E' s := fun {Q' A' E'} q => by
    unfold Builtin.Slice.sliceApplied Builtin.Slice.sliceFields
    refine wpAny_bind (wpAny_bind (wpAny_field hos hds (x := .none) rfl (wpAny_bind (wpAny_field hos hds (x := .int b u) rfl (wpAny_bind (wpAny_field hos hds (x := .none) rfl (wpAny_pure ?_)))))))
    refine wpAny_bind (slicePart_none ?_)
    show wpAny _ _ (if ((1 : Int) == 0) = true then _ else _) _ _ s
    rw [if_neg (by decide)]
    refine wpAny_bind (slicePart_none (wpAny_bind (slicePart_int (wpAny_bind (wpAny_pure ?_)))))
    show wpAny _ _ (match Builtin.Slice.sliceAdjust none (some (b : Int)) 1 (vs.toArray.size : Int) with | (lo, hi) => pure (lo, (1 : Int), Builtin.Slice.slicePlaces lo hi 1)) _ _ s
    rw [adjust_upto b _ (by rw [List.size_toArray]; omega)]
    show wpAny _ _ (pure ((0 : Int), (1 : Int), Builtin.Slice.slicePlaces 0 (b : Int) 1)) _ _ s
    rw [places_upto b]
    exact wpAny_pure q
  unfold getItem
  try with_reducible refine wpAny_holding ?_
  refine wpAny_bind (wpAny_sequenceKey ht.typeIs (by decide) ?_)
  refine wpAny_bind (wpAny_callSpecial?_slot (name := Str.ofString "__getitem__") ht.typeIs slot_tuple_getitem
    (wpAny_call_entry slot_tuple_getitem ht.typeIs entry_tuple_getitem ?_ (args_tuple_getitem _ _)))
  show wpAny _ _ (Builtin.Tuple.tupleItemsOf (.ref t) >>= _) _ _ s
  refine wpAny_bind (tupleItemsOf_ ht ?_)
  refine wpAny_bind (wpAny_typeOf hTs ?_)
  rw [if_pos (by decide)]
  refine wpAny_bind (happ ?_)
  have hno : ¬ (((0 : Int) == 0 && (1 : Int) == 1 && b == vs.toArray.size) = true) := by
    have : (b == vs.toArray.size) = false := by rw [beq_eq_false_iff_ne, List.size_toArray]; omega
    rw [this]; simp
  show wpAny _ _ (if ((0 : Int) == 0 && (1 : Int) == 1 && b == vs.toArray.size) = true then _ else _) _ _ s
  rw [if_neg hno, pick_upto vs b]
  first
    | exact wpAny_bind (m := Builtin.Tuple.tupleExact _) (wpAny_newObj_type (wpAny_pure ⟨_, rfl, wpAny_pure h⟩) hdrop)
    | exact wpAny_bind (m := Builtin.Tuple.tupleExact _) (wpAny_newObj_type (wpAny_bind (wpAny_pure (wpAny_pure ⟨_, rfl, wpAny_pure h⟩))) hdrop)
    | exact wpAny_bind (wpAny_bind (m := Builtin.Tuple.tupleExact _) (wpAny_newObj_type (wpAny_pure (wpAny_pure ⟨_, rfl, wpAny_pure h⟩)) hdrop))
    | exact wpAny_bind (wpAny_bind (m := Builtin.Tuple.tupleExact _) (wpAny_newObj_type (wpAny_pure ⟨_, rfl, wpAny_pure h⟩) hdrop))

theorem Ev.tupUpto {e i : PySem.Expr} {p pos : Pos} {ds : List D} {b : Nat} (h : Ev c ρ e (.tuple ds)) (hi : Ev c ρ i (.int b)) (hb : b < ds.length) (hlen : ds.length ≤ 1000) : Ev c ρ (.Subscript e (.Slice none (some i) none p) pos) (.tuple (ds.take b)) :=
  fun env A B G s he hr F Q hq => wp_subscript (fun _ _ => ⟨_, rfl⟩) (h env A B G s he hr F _ fun v s₁ G₁ st₁ g₁ r₁ => by
    cases r₁ with
    | @tuple a o vs _ q1 q2 q3 =>
      have F₁ := F.grow st₁.heap g₁
      refine wpAny_Slice ?_
      rw [evalPart_none, evalPart_some]
      refine wpAny_pure (hi env A B G₁ s₁ he hr F₁ _ fun vu s₂ G₂ st₂ g₂ r₂ => wpAny_pure ?_)
      cases r₂ with
      | int _ u =>
        have st := st₁.trans st₂
        have g := g₁.trans st₁.heap g₂
        obtain ⟨p1, p2, p3, p4, p5⟩ := itFresh st g { cls := .type "slice", data := .fields #[.none, .int b u, .none] }
        have ht := q2.isTup (p2.hold.get _ _ (g₂.le _ _ q1))
        refine ⟨"tuple", _, slot_tuple_getitem.lookup, ht.typeIs, wp_tuple_upto ht ⟨_, p5, rfl, rfl⟩ (by rw [q3.length]; exact hb) ?_ (by rw [q3.length]; exact hlen)⟩
        exact hq _ _ (G₂.put _ { cls := .type "tuple", data := .seq (vs.take b).toArray }) (p1.trans (Stp.push (t := s₂.toks))) (p2.trans p1.heap (.put p2.hold (.push (X := c.X)) (get?_size _) (Heap.get?_push_size _ rfl))) (.tuple Fz.put_self ⟨rfl, 0, rfl⟩ (RelAll.mono (g₂.le.trans (Fz.put_le (Fz.none_of p2.hold (get?_size _)))) (q3.take b))))
end Mine
end

section
set_option linter.unusedVariables false
namespace Mine

/-! ## list comprehensions -/
noncomputable def relab (scope sc : Scope) : Scope :=
  { scope with names := scope.names.map fun (n, k) => if (k == .free && sc.kind == .function && sc.names.lookup n == some .cell) then (n, .cell) else (n, k) }
theorem relabel_eq {sc scope : Scope} {env : Env} (he : EnvOk sc env) : relabel scope env = relab scope sc := by
  unfold relabel relab; rw [← he.is]; rfl

inductive Tsts (c : Cx) (ρ : AEnv) : List PySem.Expr → Bool → Prop
  | nil : Tsts c ρ [] true
  | one {t : PySem.Expr} {b : Bool} : Tst c ρ t b → Tsts c ρ [t] b

theorem Tsts.run {c : Cx} {ρ : AEnv} {ifs : List PySem.Expr} {b : Bool} (T : Tsts c ρ ifs b) {env : Env} {A : Around} {B G : Fz} {s : Shared} {Q : Bool → Shared → Prop} (he : EnvOk c.sc env) (hr : Rm c.k A) (F : FI c.X c.oc env ρ B G s.heap)
    (hq : ∀ s' G', Stp c.X s s' → G.Grow s.heap G' s'.heap → Q b s') :
    wpAny c.X.M A (forIn ifs true fun t r => if r = true then do let ok ← isTrue t env (eval t env); pure (ForInStep.yield ok) else pure (ForInStep.yield r)) Q NoE s := by
  cases T with
  | nil => exact wpAny_tests_nil (hq s G .refl (.refl F.hold))
  | one t => exact wpAny_tests_one (t env A B G s he hr F _ hq)

/-- what a list comprehension gathers -/
inductive Cp (c : Cx) (elt : PySem.Expr) : List Comprehension → AEnv → List D → List D → AEnv → Prop
  | nil {gs : List Comprehension} {ρ ρ' : AEnv} : AEnv.Sub ρ' ρ → Cp c elt gs ρ [] [] ρ'
  | skip {tgt iter : PySem.Expr} {ifs : List PySem.Expr} {gs : List Comprehension} {ρ ρ₁ ρ₂ ρ' : AEnv} {d : D} {ds es : List D} :
      Asg c ρ tgt d ρ₁ → Tsts c ρ₁ ifs false → AEnv.Sub ρ₂ ρ₁ → Cp c elt (⟨tgt, iter, ifs, 0⟩ :: gs) ρ₂ ds es ρ' → Cp c elt (⟨tgt, iter, ifs, 0⟩ :: gs) ρ (d :: ds) es ρ'
  | one {tgt iter : PySem.Expr} {ifs : List PySem.Expr} {ρ ρ₁ ρ₂ ρ' : AEnv} {d e : D} {ds es : List D} :
      Asg c ρ tgt d ρ₁ → Tsts c ρ₁ ifs true → Ev c ρ₁ elt e → AEnv.Sub ρ₂ ρ₁ → Cp c elt [⟨tgt, iter, ifs, 0⟩] ρ₂ ds es ρ' → Cp c elt [⟨tgt, iter, ifs, 0⟩] ρ (d :: ds) (e :: es) ρ'
  | deep {tgt iter tgt' iter' : PySem.Expr} {ifs ifs' : List PySem.Expr} {ρ ρ₁ ρ₂ ρ' : AEnv} {d : D} {ds ds' es es' : List D} :
      Asg c ρ tgt d ρ₁ → Tsts c ρ₁ ifs true → EvIt c ρ₁ tgt' iter' ds' → Cp c elt [⟨tgt', iter', ifs', 0⟩] ρ₁ ds' es' ρ₂ → Cp c elt [⟨tgt, iter, ifs, 0⟩, ⟨tgt', iter', ifs', 0⟩] ρ₂ ds es ρ' →
      Cp c elt [⟨tgt, iter, ifs, 0⟩, ⟨tgt', iter', ifs', 0⟩] ρ (d :: ds) (es' ++ es) ρ'

section
variable {prog : Program} {w : World} {A : Around} {R : Result → Shared → Prop} {s : Shared}

theorem compLoop_last {elt target iter : PySem.Expr} {ifs : List PySem.Expr} {gens : List Comprehension} {scope : Scope} {pos : Pos} {j : Nat} {it acc : Value} {env : Env}
    (hg : gens[j]? = some ⟨target, iter, ifs, 0⟩) (hn : gens[j + 1]? = none) (I : Nat → Shared → Prop)
    (turn : ∀ n s, I n s → wpAny (model prog w) A (pyNext it) (fun r s₁ => match r with
      | none => R (.ok .next) s₁
      | some v => wpAny (model prog w) A (letOwnedTupleGo target it v) (fun _ s₁ => wpAny (model prog w) A (assign target env v) (fun _ s₂ =>
          wpAny (model prog w) A (forIn ifs true fun c r => if r = true then do let ok ← isTrue c env (eval c env); pure (ForInStep.yield ok) else pure (ForInStep.yield r)) (fun ok s₃ =>
            if ok = true then wpAny (model prog w) A (eval elt env) (fun x s₄ =>
              wpAny (model prog w) A (call (.builtin "list.append") [acc, x]) (fun _ s₅ => ∃ m, m < n ∧ I m s₅) NoE s₄) NoE s₃
            else ∃ m, m < n ∧ I m s₃) NoE s₂) NoE s₁) NoE s₁) NoE s)
    (n : Nat) (h : I n s) :
    codeAny (model prog w) A (.compLoop (.ListComp elt gens scope pos) j it acc env) R s := by
  refine codeAny_loop rfl I (fun n s hI => ?_) n h
  show wpAny _ A ((compTurn (.ListComp elt gens scope pos) j it acc env).onRaise (fun x => do noteFrame x env; theTreesLotGoes x)) _ _ s
  refine wpAny_noted ?_
  unfold compTurn
  simp only [hg, hn, bne_self_eq_false, Bool.false_eq_true, if_false]
  refine wpAny_bind (wpAny_standAt (wpAny_bind (wpAny_mono (turn n s hI) (fun r s₁ h₁ => ?_) fun _ _ h' => h'.elim)))
  cases r with
  | none => exact wpAny_pure h₁
  | some v =>
    refine wpAny_bind (wpAny_mono h₁ (fun _ s₁ h₁ => ?_) fun _ _ h' => h'.elim)
    refine wpAny_bind (wpAny_mono h₁ (fun _ s₂ h₂ => wpAny_bind (wpAny_mono h₂ (fun ok s₃ h₃ => ?_) fun _ _ h' => h'.elim)) fun _ _ h' => h'.elim)
    cases ok with
    | false => exact wpAny_pure ⟨rfl, h₃⟩
    | true =>
      exact wpAny_bind (wpAny_bind (wpAny_mono h₃ (fun x s₄ h₄ => wpAny_bind (wpAny_mono h₄ (fun _ s₅ h₅ => wpAny_pure (wpAny_pure ⟨rfl, h₅⟩)) fun _ _ h' => h'.elim)) fun _ _ h' => h'.elim))

theorem compLoop_mid {elt target iter iter' : PySem.Expr} {ifs : List PySem.Expr} {gens : List Comprehension} {scope : Scope} {pos : Pos} {it acc : Value} {env : Env}
    {target' : PySem.Expr} {ifs' : List PySem.Expr} (hg : gens[0]? = some ⟨target, iter, ifs, 0⟩) (hn : gens[1]? = some ⟨target', iter', ifs', 0⟩) (hs : ∀ x, foldedSetIterable iter' env x = pure x) (I : Nat → Shared → Prop)
    (turn : ∀ n s, I n s → wpAny (model prog w) A (pyNext it) (fun r s₁ => match r with
      | none => R (.ok .next) s₁
      | some v => wpAny (model prog w) A (letOwnedTupleGo target it v) (fun _ s₁ => wpAny (model prog w) A (assign target env v) (fun _ s₂ =>
          wpAny (model prog w) A (forIn ifs true fun c r => if r = true then do let ok ← isTrue c env (eval c env); pure (ForInStep.yield ok) else pure (ForInStep.yield r)) (fun ok s₃ =>
            if ok = true then wpAny (model prog w) A (eval iter' env) (fun x s₄ =>
              wpAny (model prog w) A (pyIter x) (fun it' s₅ => codeAny (model prog w) A (.compStart (.ListComp elt gens scope pos) 1 it' acc env) (fun r s₆ => match r with
                | .ok _ => ∃ m, m < n ∧ I m s₆
                | .error _ => False) s₅) NoE s₄) NoE s₃
            else ∃ m, m < n ∧ I m s₃) NoE s₂) NoE s₁) NoE s₁) NoE s)
    (n : Nat) (h : I n s) :
    codeAny (model prog w) A (.compLoop (.ListComp elt gens scope pos) 0 it acc env) R s := by
  refine codeAny_loop rfl I (fun n s hI => ?_) n h
  show wpAny _ A ((compTurn (.ListComp elt gens scope pos) 0 it acc env).onRaise (fun x => do noteFrame x env; theTreesLotGoes x)) _ _ s
  refine wpAny_noted ?_
  unfold compTurn
  simp only [hg, hn, Nat.zero_add, bne_self_eq_false, Bool.false_eq_true, if_false]
  refine wpAny_bind (wpAny_standAt (wpAny_bind (wpAny_mono (turn n s hI) (fun r s₁ h₁ => ?_) fun _ _ h' => h'.elim)))
  cases r with
  | none => exact wpAny_pure h₁
  | some v =>
    refine wpAny_bind (wpAny_mono h₁ (fun _ s₁ h₁ => ?_) fun _ _ h' => h'.elim)
    refine wpAny_bind (wpAny_mono h₁ (fun _ s₂ h₂ => wpAny_bind (wpAny_mono h₂ (fun ok s₃ h₃ => ?_) fun _ _ h' => h'.elim)) fun _ _ h' => h'.elim)
    cases ok with
    | false => exact wpAny_pure ⟨rfl, h₃⟩
    | true =>
      refine wpAny_bind (wpAny_mono h₃ (fun x s₄ h₄ => ?_) fun _ _ h' => h'.elim)
      refine wpAny_bind (wpAny_standAt (wpAny_bind (wpAny_of_eq (hs x) (wpAny_bind (wpAny_holding (wpAny_mono h₄ (fun it' s₅ h₅ => ?_) fun _ _ h' => h'.elim))))))
      refine wpAny_bind (wpAny_runOwn (codeAny_mono h₅ fun r s₆ h₆ => ?_))
      cases r with
      | ok f => exact wpAny_pure ⟨rfl, h₆⟩
      | error e => exact h₆.elim
end

theorem Fz.put_comm {B : Fz} {a b : Addr} {o o' : Obj} (h : a ≠ b) : (B.put a o).put b o' = (B.put b o').put a o := by
  funext x; simp only [Fz.put]
  by_cases h1 : x = a
  · subst h1; simp [h]
  · simp [h1]

/-- the comprehension stands at its loop -/
structure CpHd (c : Cx) (env : Env) (A : Around) (B : Fz) (I La : Addr) : Prop where
  he : EnvOk c.sc env
  hr : Rm c.k A
  hL : env.locals ≠ I
  hc : ∀ x cc, env.cells.lookup x = some cc → cc ≠ I
  hLa : env.locals ≠ La
  hcLa : ∀ x cc, env.cells.lookup x = some cc → cc ≠ La
  hIL : I ≠ La
  hB : B I = none
  hBL : B La = none
  htp : ∃ h₁, c.X.Tp h₁ ∧ ∀ b o, h₁.get? b = some o → ¬ Tab o → B b = some o

structure CpAt (c : Cx) (env : Env) (B : Fz) (I La : Addr) (St : Fz → Obj → List D → Prop) (ρ : AEnv) (ds done : List D) (G : Fz) (h : Heap) (o aO : Obj) (ys : List Value) : Prop where
  F : FI c.X c.oc env ρ ((B.put I o).put La aO) G h
  gI : G I = none
  gL : G La = none
  st : St G o ds
  lst : LstO aO ys
  rel : RelAll c.X G ys done

/-- how it ends -/
noncomputable def CpEnd (c : Cx) (env : Env) (B : Fz) (La : Addr) (ρ' : AEnv) (total : List D) (G : Fz) (s : Shared) (Q : Shared → Prop) : Prop :=
  ∀ s' G' aO ys, SStp c.X s s' → G.GrowB B G' → FI c.X c.oc env ρ' (B.put La aO) G' s'.heap → G' La = none → LstO aO ys → RelAll c.X G' ys total → Q s'
theorem CpEnd.back {c : Cx} {env : Env} {B : Fz} {La : Addr} {ρ' : AEnv} {total : List D} {G G₁ : Fz} {s s₁ : Shared} {Q : Shared → Prop} (k : CpEnd c env B La ρ' total G s Q) (st : SStp c.X s s₁) (g : G.GrowB B G₁) : CpEnd c env B La ρ' total G₁ s₁ Q :=
  fun s' G' aO ys a b d e f h => k s' G' aO ys (st.trans a) (g.trans b) d e f h

section
variable {c : Cx} {env : Env} {A : Around} {B : Fz} {I La : Addr} {St : Fz → Obj → List D → Prop}

theorem CpAt.io {ρ : AEnv} {ds done : List D} {G : Fz} {h : Heap} {o aO : Obj} {ys : List Value} (H : CpHd c env A B I La) (P : CpAt c env B I La St ρ ds done G h o aO ys) : h.get? I = some o :=
  P.F.keep.get I o (by rw [Fz.put_ne H.hIL, Fz.put_self])
theorem CpAt.lo {ρ : AEnv} {ds done : List D} {G : Fz} {h : Heap} {o aO : Obj} {ys : List Value} (P : CpAt c env B I La St ρ ds done G h o aO ys) : h.get? La = some aO := P.F.keep.get La aO Fz.put_self

/-- no more items -/
theorem CpAt.done' {ρ ρ' : AEnv} {done : List D} {G : Fz} {s : Shared} {o aO : Obj} {ys : List Value} {tgt : PySem.Expr} {Q : Shared → Prop} (H : CpHd c env A B I La) (W : Iter c.X A tgt I St) (P : CpAt c env B I La St ρ [] done G s.heap o aO ys) (hs : AEnv.Sub ρ' ρ)
    (k : CpEnd c env B La ρ' done G s Q) : wpAny c.X.M A (pyNext (.ref I)) (fun r s₁ => r = none ∧ Q s₁) NoE s :=
  W.done G s o _ P.F.hold P.gI (P.io H) P.st fun s₁ st₁ => by
    have F' := P.F
    rw [Fz.put_comm H.hIL] at F'
    have hb : (B.put La aO) I = none := by rw [Fz.put_ne H.hIL]; exact H.hB
    exact k s₁ G aO ys (st₁.s (P.io H) (W.nt P.st)) .refl ((F'.iterOut st₁.heap P.gI H.hL H.hc hb (let ⟨h₁, T, kk⟩ := H.htp; ⟨h₁, T, fun b o e n => Fz.put_le H.hBL b o (kk b o e n)⟩)).sub hs) P.gL P.lst P.rel

/-- the next item, stored and tested -/
theorem CpAt.next' {ρ ρ₁ : AEnv} {d : D} {ds done : List D} {G : Fz} {s : Shared} {o aO : Obj} {ys : List Value} {tgt : PySem.Expr} {ifs : List PySem.Expr} {ok : Bool} {Q : Bool → Shared → Prop} (H : CpHd c env A B I La) (W : Iter c.X A tgt I St)
    (P : CpAt c env B I La St ρ (d :: ds) done G s.heap o aO ys) (ha : Asg c ρ tgt d ρ₁) (ht : Tsts c ρ₁ ifs ok)
    (hq : ∀ s' G' o', SStp c.X s s' → G.GrowB B G' → CpAt c env B I La St ρ₁ ds done G' s'.heap o' aO ys → Q ok s') :
    wpAny c.X.M A (pyNext (.ref I)) (fun r s₁ => match r with
      | none => False
      | some v => wpAny c.X.M A (letOwnedTupleGo tgt (.ref I) v) (fun _ s₁ => wpAny c.X.M A (assign tgt env v) (fun _ s₂ =>
          wpAny c.X.M A (forIn ifs true fun c r => if r = true then do let ok ← isTrue c env (eval c env); pure (ForInStep.yield ok) else pure (ForInStep.yield r)) Q NoE s₂) NoE s₁) NoE s₁) NoE s := by
  refine wpAny_mono (W.next G s o d ds (fun v s₁ => wpAny c.X.M A (assign tgt env v) (fun _ s₂ =>
          wpAny c.X.M A (forIn ifs true fun c r => if r = true then do let ok ← isTrue c env (eval c env); pure (ForInStep.yield ok) else pure (ForInStep.yield r)) Q NoE s₂) NoE s₁) P.F.hold P.gI (P.io H) P.st fun v s₁ G₁ o₁ st₁ g₁ ho₁ hst₁ hv => ?_) (fun r s₁ h => ?_) fun _ _ e => e.elim
  · have F' := P.F
    rw [Fz.put_comm H.hIL] at F'
    have hb : (B.put La aO) I = none := by rw [Fz.put_ne H.hIL]; exact H.hB
    have F₁ := F'.iterGo st₁.heap g₁ ho₁ (W.nt hst₁) H.hL H.hc hb (let ⟨h₁, T, kk⟩ := H.htp; ⟨h₁, T, fun b o e n => Fz.put_le H.hBL b o (kk b o e n)⟩)
    rw [← Fz.put_comm H.hIL] at F₁
    have hBI : ∀ {o₁ : Obj}, (B.put I o₁) La = none := fun {o₁} => by rw [Fz.put_ne (Ne.symm H.hIL)]; exact H.hBL
    have gl1 : G₁ La = none := (g₁.old La aO P.lo).trans P.gL
    have gi1 : G₁ I = none := (g₁.old I o (P.io H)).trans P.gI
    have bI : ((B.put I o₁).put La aO) I = some o₁ := by rw [Fz.put_ne H.hIL, Fz.put_self]
    have toB : ∀ {G₂ G₃ : Fz}, G₂.GrowB ((B.put I o₁).put La aO) G₃ → G₂.GrowB B G₃ := fun {G₂ G₃} g => (g.put hBI).put H.hB
    refine ha env A _ G₁ s₁ v _ H.he H.hr F₁ hv fun s₂ G₂ st₂ g₂ F₂ => ?_
    refine ht.run H.he H.hr F₂ fun s₃ G₃ st₃ g₃ => ?_
    have F₃ := F₂.grow st₃.heap g₃
    have g₂₃ := g₂.trans (g₃.b F₂.keep)
    refine hq s₃ G₃ o₁ ((st₁.s (P.io H) (W.nt P.st)).trans (st₂.trans st₃.s)) (Fz.GrowB.trans ⟨g₁.le, fun a o' e => g₁.old a o' (P.F.keep.get a o' (Fz.put_le hBI a o' (Fz.put_le H.hB a o' e)))⟩ (toB g₂₃)) ⟨F₃, (g₂₃.old I o₁ bI).trans gi1, (g₂₃.old La aO Fz.put_self).trans gl1, W.mono g₂₃.le hst₁, P.lst, RelAll.mono (g₁.le.trans g₂₃.le) P.rel⟩
  · cases r with
    | none => exact h
    | some v => exact h


/-- the loop's standing, told of the items that are left -/
noncomputable def CpInv (c : Cx) (elt : PySem.Expr) (env : Env) (B : Fz) (I La : Addr) (St : Fz → Obj → List D → Prop) (gs : List Comprehension) (ρ' : AEnv) (R : Result → Shared → Prop) (n : Nat) (s' : Shared) : Prop :=
  ∃ ρ ds es done G o aO ys, n = ds.length ∧ Cp c elt gs ρ ds es ρ' ∧ (done ++ es).length ≤ 1000 ∧ CpAt c env B I La St ρ ds done G s'.heap o aO ys ∧ CpEnd c env B La ρ' (done ++ es) G s' (fun s' => R (.ok .next) s')

theorem Cp.code1 {elt tgt iter : PySem.Expr} {ifs : List PySem.Expr} {gens : List Comprehension} {scope : Scope} {pos : Pos} {j : Nat}
    (hg : gens[j]? = some ⟨tgt, iter, ifs, 0⟩) (hn : gens[j + 1]? = none)
    (H : CpHd c env A B I La) (W : Iter c.X A tgt I St) {ρ ρ' : AEnv} {ds es done : List D} (hp : Cp c elt [⟨tgt, iter, ifs, 0⟩] ρ ds es ρ') (hlen : (done ++ es).length ≤ 1000)
    {G : Fz} {s : Shared} {o aO : Obj} {ys : List Value} {R : Result → Shared → Prop} (P : CpAt c env B I La St ρ ds done G s.heap o aO ys) (k : CpEnd c env B La ρ' (done ++ es) G s (fun s' => R (.ok .next) s')) :
    codeAny c.X.M A (.compLoop (.ListComp elt gens scope pos) j (.ref I) (.ref La) env) R s := by
  refine compLoop_last hg hn (CpInv c elt env B I La St [⟨tgt, iter, ifs, 0⟩] ρ' R) (fun n s' h => ?_) ds.length ⟨ρ, ds, es, done, G, o, aO, ys, rfl, hp, hlen, P, k⟩
  obtain ⟨ρ, ds, es, done, G, o, aO, ys, rfl, hp, hlen, P, k⟩ := h
  cases hp with
  | nil hs =>
    rw [List.append_nil] at k
    refine wpAny_mono (P.done' H W hs k) (fun r s₁ h => ?_) fun _ _ e => e
    obtain ⟨rfl, h⟩ := h
    exact h
  | @skip _ _ _ _ _ ρ₁ ρ₂ _ d ds es ha hts hsub hp =>
    refine wpAny_mono (P.next' H W ha hts (Q := fun ok s₃ => if ok = true then wpAny c.X.M A (eval elt env) (fun x s₄ =>
              wpAny c.X.M A (call (.builtin "list.append") [.ref La, x]) (fun _ s₅ => ∃ m, m < (d :: ds).length ∧ CpInv c elt env B I La St [⟨tgt, iter, ifs, 0⟩] ρ' R m s₅) NoE s₄) NoE s₃ else ∃ m, m < (d :: ds).length ∧ CpInv c elt env B I La St [⟨tgt, iter, ifs, 0⟩] ρ' R m s₃) fun s₁ G₁ o₁ st₁ g₁ P₁ => ?_) (fun r s₁ h => ?_) fun _ _ e => e
    rotate_left
    · cases r with
      | none => exact h.elim
      | some v => exact h
    · rw [if_neg (by decide)]
      exact ⟨ds.length, by simp, ρ₂, ds, es, done, G₁, o₁, aO, ys, rfl, hp, hlen, ⟨P₁.F.sub hsub, P₁.gI, P₁.gL, P₁.st, P₁.lst, P₁.rel⟩, k.back st₁ g₁⟩
  | @one _ _ _ _ ρ₁ ρ₂ _ d e ds es ha hts he hsub hp =>
    refine wpAny_mono (P.next' H W ha hts (Q := fun ok s₃ => if ok = true then wpAny c.X.M A (eval elt env) (fun x s₄ =>
              wpAny c.X.M A (call (.builtin "list.append") [.ref La, x]) (fun _ s₅ => ∃ m, m < (d :: ds).length ∧ CpInv c elt env B I La St [⟨tgt, iter, ifs, 0⟩] ρ' R m s₅) NoE s₄) NoE s₃ else ∃ m, m < (d :: ds).length ∧ CpInv c elt env B I La St [⟨tgt, iter, ifs, 0⟩] ρ' R m s₃) fun s₁ G₁ o₁ st₁ g₁ P₁ => ?_) (fun r s₁ h => ?_) fun _ _ e => e
    rotate_left
    · cases r with
      | none => exact h.elim
      | some v => exact h
    · rw [if_pos rfl]
      refine he env A _ G₁ s₁ H.he H.hr P₁.F _ fun x s₂ G₂ st₂ g₂ rx => ?_
      have hlo := st₂.heap.get _ _ P₁.lo P₁.lst.nt
      have hys : ys.length = done.length := P₁.rel.length
      have hlen' := hlen
      rw [List.length_append, List.length_cons] at hlen'
      refine wpAny_list_append_plain (P₁.lst.plain hlo) (fun h' hl' hs' => ?_) (by rw [List.size_toArray, hys, sizeLine_eq]; omega)
      obtain ⟨n', hn'⟩ := hl'
      have F₂ := P₁.F.grow st₂.heap g₂
      have hBI : (B.put I o₁) La = none := by rw [Fz.put_ne (Ne.symm H.hIL)]; exact H.hBL
      have gl2 : G₂ La = none := (g₂.old La aO P₁.lo).trans P₁.gL
      have gi2 : G₂ I = none := (g₂.old I o₁ (P₁.io H)).trans P₁.gI
      have hsb : ∀ b o, b ≠ La → s₂.heap.get? b = some o → h'.get? b = some o := fun b o hb e => (hs'.2 b hb).trans e
      have F₃ := F₂.iterGo (h' := h') (G' := G₂) hsb ⟨.refl, ⟨fun b o e => hsb b o (fun q => by subst q; rw [gl2] at e; cases e) (F₂.hold.get b o e), F₂.hold.nt⟩, fun _ _ _ => rfl⟩ hn' (nt_cls rfl) H.hLa H.hcLa hBI (let ⟨h₁, T, kk⟩ := H.htp; ⟨h₁, T, fun b o e n => Fz.put_le H.hB b o (kk b o e n)⟩)
      refine ⟨ds.length, by simp, ρ₂, ds, es, done ++ [e], G₂, o₁, _, ys ++ [x], rfl, hp, by simpa using hlen, ⟨F₃.sub hsub, gi2, gl2, W.mono g₂.le P₁.st, ⟨n', by simp⟩, (RelAll.mono g₂.le P₁.rel).append (.one rx)⟩, ?_⟩
      have := k.back (st₁.trans (st₂.s.trans (SStp.of (s := s₂) (h := h') (t := s₂.toks) (tabs_but hsb fun o₀ e₀ => by rw [hlo] at e₀; cases e₀; exact P₁.lst.nt)))) (g₁.trans (g₂.b ⟨fun a o' e => P₁.F.keep.get a o' (Fz.put_le hBI a o' (Fz.put_le H.hB a o' e)), fun a o' e => P₁.F.keep.nt a o' (Fz.put_le hBI a o' (Fz.put_le H.hB a o' e))⟩))
      simpa using this

theorem Cp.code2 {elt tgt iter tgt' iter' : PySem.Expr} {ifs ifs' : List PySem.Expr} {scope : Scope} {pos : Pos} (hs : ∀ env x, foldedSetIterable iter' env x = pure x)
    (H : CpHd c env A B I La) (W : Iter c.X A tgt I St) {ρ ρ' : AEnv} {ds es done : List D} (hp : Cp c elt [⟨tgt, iter, ifs, 0⟩, ⟨tgt', iter', ifs', 0⟩] ρ ds es ρ') (hlen : (done ++ es).length ≤ 1000)
    {G : Fz} {s : Shared} {o aO : Obj} {ys : List Value} {R : Result → Shared → Prop} (P : CpAt c env B I La St ρ ds done G s.heap o aO ys) (k : CpEnd c env B La ρ' (done ++ es) G s (fun s' => R (.ok .next) s')) :
    codeAny c.X.M A (.compLoop (.ListComp elt [⟨tgt, iter, ifs, 0⟩, ⟨tgt', iter', ifs', 0⟩] scope pos) 0 (.ref I) (.ref La) env) R s := by
  refine compLoop_mid rfl rfl (hs env) (CpInv c elt env B I La St [⟨tgt, iter, ifs, 0⟩, ⟨tgt', iter', ifs', 0⟩] ρ' R) (fun n s' h => ?_) ds.length ⟨ρ, ds, es, done, G, o, aO, ys, rfl, hp, hlen, P, k⟩
  obtain ⟨ρ, ds, es, done, G, o, aO, ys, rfl, hp, hlen, P, k⟩ := h
  cases hp with
  | nil hs =>
    rw [List.append_nil] at k
    refine wpAny_mono (P.done' H W hs k) (fun r s₁ h => ?_) fun _ _ e => e
    obtain ⟨rfl, h⟩ := h
    exact h
  | @skip _ _ _ _ _ ρ₁ ρ₂ _ d ds es ha hts hsub hp =>
    refine wpAny_mono (P.next' H W ha hts (Q := fun ok s₃ => if ok = true then wpAny c.X.M A (eval iter' env) (fun x s₄ => wpAny c.X.M A (pyIter x) (fun it' s₅ => codeAny c.X.M A (.compStart (.ListComp elt [⟨tgt, iter, ifs, 0⟩, ⟨tgt', iter', ifs', 0⟩] scope pos) 1 it' (.ref La) env) (fun r s₆ => match r with
                | .ok _ => ∃ m, m < (d :: ds).length ∧ CpInv c elt env B I La St [⟨tgt, iter, ifs, 0⟩, ⟨tgt', iter', ifs', 0⟩] ρ' R m s₆
                | .error _ => False) s₅) NoE s₄) NoE s₃ else ∃ m, m < (d :: ds).length ∧ CpInv c elt env B I La St [⟨tgt, iter, ifs, 0⟩, ⟨tgt', iter', ifs', 0⟩] ρ' R m s₃) fun s₁ G₁ o₁ st₁ g₁ P₁ => ?_) (fun r s₁ h => ?_) fun _ _ e => e
    rotate_left
    · cases r with
      | none => exact h.elim
      | some v => exact h
    · rw [if_neg (by decide)]
      exact ⟨ds.length, by simp, ρ₂, ds, es, done, G₁, o₁, aO, ys, rfl, hp, hlen, ⟨P₁.F.sub hsub, P₁.gI, P₁.gL, P₁.st, P₁.lst, P₁.rel⟩, k.back st₁ g₁⟩
  | @deep _ _ _ _ _ _ _ ρ₁ ρ₂ _ d ds ds' es es' ha hts hi hin hp =>
    refine wpAny_mono (P.next' H W ha hts (Q := fun ok s₃ => if ok = true then wpAny c.X.M A (eval iter' env) (fun x s₄ => wpAny c.X.M A (pyIter x) (fun it' s₅ => codeAny c.X.M A (.compStart (.ListComp elt [⟨tgt, iter, ifs, 0⟩, ⟨tgt', iter', ifs', 0⟩] scope pos) 1 it' (.ref La) env) (fun r s₆ => match r with
                | .ok _ => ∃ m, m < (d :: ds).length ∧ CpInv c elt env B I La St [⟨tgt, iter, ifs, 0⟩, ⟨tgt', iter', ifs', 0⟩] ρ' R m s₆
                | .error _ => False) s₅) NoE s₄) NoE s₃ else ∃ m, m < (d :: ds).length ∧ CpInv c elt env B I La St [⟨tgt, iter, ifs, 0⟩, ⟨tgt', iter', ifs', 0⟩] ρ' R m s₃) fun s₁ G₁ o₁ st₁ g₁ P₁ => ?_) (fun r s₁ h => ?_) fun _ _ e => e
    rotate_left
    · cases r with
      | none => exact h.elim
      | some v => exact h
    · rw [if_pos rfl]
      refine hi env A _ G₁ s₁ _ H.he H.hr P₁.F fun I' s₂ G₂ o' St' st₂ g₂ hn hgI' ho' W' hst' => ?_
      have hBI : (B.put I o₁) La = none := by rw [Fz.put_ne (Ne.symm H.hIL)]; exact H.hBL
      obtain ⟨F₂, hL', hc', hB'⟩ := P₁.F.iterIn st₂.heap g₂ hn ho' (W'.nt hst')
      have hI'La : I' ≠ La := fun q => by subst q; rw [P₁.lo] at hn; cases hn
      have hB1 : (B.put I o₁) I' = none := by rw [Fz.put_ne hI'La] at hB'; exact hB'
      have gl2 : G₂ La = none := (g₂.old La aO P₁.lo).trans P₁.gL
      have gi2 : G₂ I = none := (g₂.old I o₁ (P₁.io H)).trans P₁.gI
      have H' : CpHd c env A (B.put I o₁) I' La := ⟨H.he, H.hr, hL', hc', H.hLa, H.hcLa, hI'La, hB1, hBI, let ⟨h₁, T, kk⟩ := H.htp; ⟨h₁, T, fun b o e n => Fz.put_le H.hB b o (kk b o e n)⟩⟩
      rw [← Fz.put_comm hI'La] at F₂
      have P₂ : CpAt c env (B.put I o₁) I' La St' ρ₁ ds' done G₂ s₂.heap o' aO ys := ⟨F₂, hgI', gl2, hst', P₁.lst, RelAll.mono g₂.le P₁.rel⟩
      have hl2 : (done ++ es').length ≤ 1000 := by simp only [List.length_append] at hlen ⊢; omega
      have main : codeAny c.X.M A (.compLoop (.ListComp elt [⟨tgt, iter, ifs, 0⟩, ⟨tgt', iter', ifs', 0⟩] scope pos) 1 (.ref I') (.ref La) env) (fun r s₆ => match r with
                | .ok _ => ∃ m, m < (d :: ds).length ∧ CpInv c elt env B I La St [⟨tgt, iter, ifs, 0⟩, ⟨tgt', iter', ifs', 0⟩] ρ' R m s₆
                | .error _ => False) s₂ := by
        refine Cp.code1 rfl rfl H' W' hin hl2 P₂ fun s₃ G₃ aO₃ ys₃ st₃ g₃ F₃ gl₃ ll₃ rr₃ => ?_
        refine ⟨ds.length, by simp, ρ₂, ds, es, done ++ es', G₃, o₁, aO₃, ys₃, rfl, hp, by simpa using hlen, ⟨F₃, (g₃.old I o₁ Fz.put_self).trans gi2, gl₃, W.mono (g₂.le.trans g₃.le) P₁.st, ll₃, rr₃⟩, ?_⟩
        have := k.back (st₁.trans (st₂.s.trans st₃)) (g₁.trans ((g₂.b ⟨fun a o' e => P₁.F.keep.get a o' (Fz.put_le hBI a o' (Fz.put_le H.hB a o' e)), fun a o' e => P₁.F.keep.nt a o' (Fz.put_le hBI a o' (Fz.put_le H.hB a o' e))⟩).trans (g₃.put H.hB)))
        simpa using this
      refine codeAny_of_tree ?_
      show wpAny _ _ ((compStart (.ListComp elt [⟨tgt, iter, ifs, 0⟩, ⟨tgt', iter', ifs', 0⟩] scope pos) 1 (.ref I') (.ref La) env).onRaise (fun x => do noteFrame x env; standAt theWindowsPlace)) _ _ s₂
      refine wpAny_notedAt ?_
      unfold compStart
      show wpAny _ _ (ask >>= _) _ _ s₂
      refine wpAny_bind (wpAny_askSetting (wpAny_ite ?_))
      split
      · first
          | exact wpAny_bind (wpAny_pure (wpAny_pure (And.intro rfl main)))
          | exact wpAny_pure (And.intro rfl main)
      · have self : wpAny c.X.M A (pyIter (.ref I')) (fun it' s' => it' = .ref I' ∧ s' = s₂) NoE s₂ := W'.self G₂ s₂ o' ds' _ P₂.F.hold (P₂.io H') hst' ⟨rfl, rfl⟩
        first
          | exact wpAny_bind (wpAny_rule (wpAny_bind (wpAny_standAt (wpAny_bind (wpAny_mono self (fun it' s' h' => by obtain ⟨rfl, rfl⟩ := h'; exact wpAny_pure (And.intro rfl main)) fun _ _ x => x.elim)))))
          | (refine wpAny_bind (wpAny_rule ?_); show wpAny _ _ (standAt iter'.pos >>= _) _ _ s₂; exact wpAny_bind (wpAny_standAt (wpAny_bind (wpAny_mono self (fun it' s' h' => by obtain ⟨rfl, rfl⟩ := h'; exact wpAny_pure (And.intro rfl main)) fun _ _ x => x.elim))))
end
end Mine
end

section
set_option linter.unusedVariables false
namespace Mine

theorem cellsFrom_append : ∀ (names : List (Str × NameKind)) (n : Nat) (acc : List (Str × Addr)), cellsFrom n names acc = cellsFrom n names [] ++ acc
  | [], _, _ => rfl
  | (y, k) :: r, n, acc => by
    unfold cellsFrom
    split
    · rw [cellsFrom_append r (n + 1) ((y, n) :: acc), cellsFrom_append r (n + 1) [(y, n)], List.append_assoc]; rfl
    · exact cellsFrom_append r n acc

/-- the free names' cells -/
theorem closure_of {env : Env} : ∀ (names : List (Str × NameKind)) (acc : List (Str × Addr)), (∀ x, (x, NameKind.free) ∈ names → ∃ cc, env.cells.lookup x = some cc) →
    ∃ cl, (forIn names acc (fun (nk : Str × NameKind) cs => if nk.2 == .free then (do let a ← cellOf env nk.1; pure (ForInStep.yield ((nk.1, a) :: cs))) else pure (ForInStep.yield cs)) : Sem (List (Str × Addr))) = pure (cl ++ acc) ∧
      (∀ x cc, (x, cc) ∈ cl → env.cells.lookup x = some cc) ∧ ∀ x, (x, NameKind.free) ∈ names → ∃ cc, (x, cc) ∈ cl
  | [], acc, _ => ⟨[], (by rw [List.forIn_nil]; rfl), (fun _ _ h => (nomatch h)), (fun _ h => (nomatch h))⟩
  | (y, k) :: r, acc, h => by
    rw [List.forIn_cons]
    by_cases hk : k = .free
    · subst hk
      obtain ⟨cc, hcc⟩ := h y List.mem_cons_self
      obtain ⟨cl, h1, h2, h3⟩ := closure_of (env := env) r ((y, cc) :: acc) fun x hx => h x (List.mem_cons_of_mem _ hx)
      refine ⟨cl ++ [(y, cc)], ?_, fun x c hm => ?_, fun x hm => ?_⟩
      · have : cellOf env y = pure cc := by unfold cellOf; rw [hcc]
        simp only [beq_self_eq_true, if_true, this, pure_bind]
        rw [h1]; simp
      · rcases List.mem_append.mp hm with hm | hm
        · exact h2 x c hm
        · simp at hm; obtain ⟨rfl, rfl⟩ := hm; exact hcc
      · rcases List.mem_cons.mp hm with e | hm
        · cases e; exact ⟨cc, by simp⟩
        · obtain ⟨c, hc⟩ := h3 x hm; exact ⟨c, List.mem_append_left _ hc⟩
    · obtain ⟨cl, h1, h2, h3⟩ := closure_of (env := env) r acc fun x hx => h x (List.mem_cons_of_mem _ hx)
      refine ⟨cl, ?_, h2, fun x hm => ?_⟩
      · have : (k == NameKind.free) = false := by simpa using hk
        simp only [this, Bool.false_eq_true, if_false, pure_bind]
        exact h1
      · rcases List.mem_cons.mp hm with e | hm
        · cases e; exact absurd rfl hk
        · exact h3 x hm

theorem closureFor_of {env : Env} {scope : Scope} (h : ∀ x, (x, NameKind.free) ∈ scope.names → ∃ cc, env.cells.lookup x = some cc) :
    ∃ cl, closureFor scope env = pure cl ∧ (∀ x cc, (x, cc) ∈ cl → env.cells.lookup x = some cc) ∧ ∀ x, (x, NameKind.free) ∈ scope.names → ∃ cc, (x, cc) ∈ cl := by
  obtain ⟨cl, h1, h2, h3⟩ := closure_of (env := env) scope.names [] h
  refine ⟨cl, ?_, h2, h3⟩
  rw [List.append_nil] at h1
  have e : closureFor scope env = (forIn scope.names [] (fun (nk : Str × NameKind) cs => if nk.2 == .free then (do let a ← cellOf env nk.1; pure (ForInStep.yield ((nk.1, a) :: cs))) else pure (ForInStep.yield cs)) : Sem (List (Str × Addr))) := by
    unfold closureFor
    rw [bind_pure]
  rw [e, h1]

theorem wp_compEnv {M : Model} {A : Around} {E : Value → Shared → Prop} {s : Shared} {scope : Scope} {globals : Addr} {cl : List (Str × Addr)} {qual : Str} {env : Env} {Q : Env → Shared → Prop}
    (hQ : Q (newEnv scope s.heap.objs.size globals (cellsFrom (s.heap.objs.size + 1) scope.names cl) qual none .none (some env) builtinsNs) { s with heap := pushCells (s.heap.push { cls := .type "dict", data := .dict #[] }) scope.names }) :
    wpAny M A (newFunctionEnv scope globals cl [] qual none .none (some env)) Q E s := by
  simp only [newFunctionEnv, Option.isSome_some, if_true]
  refine wpAny_bind (wpAny_alloc ?_)
  refine wpAny_bind (wpAny_layCells _ (fun name kind cells => by cases hkc : kind == NameKind.cell <;> simp [hkc]) _ _ _ _ ?_)
  rw [show ({ s with heap := s.heap.push { cls := .type "dict", data := .dict #[] } } : Shared).heap.objs.size = s.heap.objs.size + 1 from Heap.size_push ..]
  exact wpAny_bind (by rw [List.forIn_nil]; exact wpAny_pure (wpAny_pure hQ))

/-- the names of the block around that a comprehension reads -/
noncomputable def CpIn (c : Cx) (scope : Scope) (ρ ρ₀ : AEnv) : Prop :=
  (∀ x sl, ρ₀.lookup x = some sl → (∃ d, sl = .val d) ∧ ρ.lookup x = some sl ∧ (c.sc.names.lookup x = some .cell ∨ c.sc.names.lookup x = some .free) ∧ ((relab scope c.sc).names.lookup x = some .cell ∨ (relab scope c.sc).names.lookup x = some .free) ∧ (x, NameKind.free) ∈ scope.names ∧ x ∉ ownCells scope) ∧
  (∀ x, (x, NameKind.free) ∈ scope.names → ∃ sl, ρ₀.lookup x = some sl)

theorem lookup_of_mem {α : Type} : ∀ {l : List (Str × α)} {x : Str} {a : α}, (x, a) ∈ l → ∃ b, l.lookup x = some b
  | (k, v) :: r, x, a, h => by
    rw [List.lookup_cons]
    cases hb : x == k with
    | true => exact ⟨v, rfl⟩
    | false =>
      rcases List.mem_cons.mp h with e | h
      · cases e; simp at hb
      · exact lookup_of_mem h

theorem FI.cell_of {X : Wd} {oc : List Str} {sc : Scope} {env : Env} {ρ : AEnv} {B G : Fz} {h : Heap} (he : EnvOk sc env) (F : FI X oc env ρ B G h) {x : Str} {d : D} (hx : ρ.lookup x = some (.val d)) (hk : sc.names.lookup x = some .cell ∨ sc.names.lookup x = some .free) :
    ∃ cc v, env.cells.lookup x = some cc ∧ h.IsCell cc (some v) ∧ Rel X G v d := by
  obtain ⟨m, hm, V, h1, _⟩ := F.vals
  obtain ⟨hn, hs⟩ := h1 x _ hx
  rcases hn with ⟨k, e⟩ | ⟨_, cc, hc, hv⟩
  · rw [he.kindOf] at k; rcases hk with q | q <;> rw [q] at k <;> cases k
  · exact ⟨cc, V x, hc, hv, hs⟩

/-- the comprehension's frame -/
theorem FI.comp {c : Cx} {env cenv : Env} {scope : Scope} {ρ ρ₀ : AEnv} {B B' G G₂ : Fz} {h h₂ h₁ : Heap} {cl : List (Str × Addr)} (he : EnvOk c.sc env) (F : FI c.X c.oc env ρ B G h) (hin : CpIn c scope ρ ρ₀)
    (hcl : ∀ x cc, (x, cc) ∈ cl → env.cells.lookup x = some cc) (hcl' : ∀ x, (x, NameKind.free) ∈ scope.names → ∃ cc, (x, cc) ∈ cl)
    (hsc : cenv.scope = relab scope c.sc) (hlo : cenv.locals = h₂.objs.size) (hce : cenv.cells = cellsFrom (h₂.objs.size + 1) scope.names cl) (hoc : ∀ x ∈ ownCells scope, (relab scope c.sc).names.lookup x = some .cell)
    (hh₁ : h₁ = pushCells (h₂.push { cls := .type "dict", data := .dict #[] }) scope.names) (k₂ : Kp c.X h h₂) (hG₂ : G₂.In h₂) (gle : G.Le G₂)
    (hB : ∀ b o, h.get? b = some o → ¬ Tab o → B' b = some o) (hB' : B'.In h₂) (hcode : cenv.code = env.code) : FI c.X (ownCells scope) cenv ρ₀ B' G₂ h₁ := by
  have kp : Kp c.X h₂ h₁ := .of fun b o e => by rw [hh₁]; exact pushCells_keeps _ _ b o (Heap.get?_push_of_some _ e)
  have ok := cellsFrom_ok scope.names (h₂.push { cls := .type "dict", data := .dict #[] }) (h₂.objs.size + 1) [] ⟨fun _ _ hm => (nomatch hm), List.Pairwise.nil⟩ (by rw [Heap.size_push]; exact Nat.le_refl _)
  rw [Heap.size_push, ← hh₁] at ok
  have hlk : ∀ x, cenv.cells.lookup x = ((cellsFrom (h₂.objs.size + 1) scope.names []).lookup x).or (cl.lookup x) := fun x => by rw [hce, cellsFrom_append, List.lookup_append]
  have hno : ∀ x, x ∉ ownCells scope → cenv.cells.lookup x = cl.lookup x := fun x hx => by
    rw [hlk]
    cases q : (cellsFrom (h₂.objs.size + 1) scope.names []).lookup x with
    | none => rfl
    | some cc =>
      rcases cellsFrom_mem scope.names _ [] (mem_of_lookup q) with h | ⟨h, _⟩
      · cases h
      · exact absurd (mem_ownCells.mpr h) hx
  have hown : ∀ x ∈ ownCells scope, ∃ cc, (cellsFrom (h₂.objs.size + 1) scope.names []).lookup x = some cc ∧ cenv.cells.lookup x = some cc := fun x hx => by
    have h1 : ∀ (names : List (Str × NameKind)) (n : Nat) (acc : List (Str × Addr)), ((x, NameKind.cell) ∈ names ∨ ∃ a, (x, a) ∈ acc) → ∃ a, (x, a) ∈ cellsFrom n names acc := by
      intro names
      induction names with
      | nil => intro n acc h; rcases h with h | h; cases h; exact h
      | cons p r ih =>
        obtain ⟨y, kk⟩ := p
        intro n acc h
        unfold cellsFrom
        split
        · refine ih _ _ ?_
          rcases h with h | ⟨a, h⟩
          · rcases List.mem_cons.mp h with e | h
            · cases e; exact .inr ⟨n, List.mem_cons_self⟩
            · exact .inl h
          · exact .inr ⟨a, List.mem_cons_of_mem _ h⟩
        · rename_i hk
          refine ih _ _ ?_
          rcases h with h | h
          · rcases List.mem_cons.mp h with e | h
            · cases e; exact absurd rfl hk
            · exact .inl h
          · exact .inr h
    obtain ⟨a, ha⟩ := h1 scope.names (h₂.objs.size + 1) [] (.inl (mem_ownCells.mp hx))
    obtain ⟨cc, hcc⟩ := lookup_of_mem ha
    exact ⟨cc, hcc, by rw [hlk, hcc]; rfl⟩
  have hn2 : ∀ {a}, h₂.objs.size ≤ a → G₂ a = none ∧ B' a = none := fun {a} ha => ⟨Fz.none_of hG₂ (get?_ge ha), Fz.none_of hB' (get?_ge ha)⟩
  exact {
    tp := ⟨h, F.tph, hB⟩
    tb := F.tb.keeps (k₂.trans kp)
    cd := by rw [hcode]; exact F.cd
    keep := hB'.kp kp
    hold := hG₂.kp kp
    gL := by rw [hlo]; exact (hn2 (Nat.le_refl _)).1
    bL := by rw [hlo]; exact (hn2 (Nat.le_refl _)).2
    ocs := fun x hx => by
      obtain ⟨cc, h1, h2⟩ := hown x hx
      obtain ⟨h3, h4⟩ := ok.empty x cc (mem_of_lookup h1)
      refine ⟨by rw [Env.kindOf, hsc]; exact hoc x hx, cc, h2, (hn2 (by omega)).1, (hn2 (by omega)).2, _, h3⟩
    ocinj := fun x hx y hy cc ex ey => by
      obtain ⟨c1, h1, h2⟩ := hown x hx
      obtain ⟨c2, h3, h4⟩ := hown y hy
      rw [h2] at ex; cases ex
      rw [h4] at ey; cases ey
      exact name_of_addr ok.apart (mem_of_lookup h1) (mem_of_lookup h3)
    fc := fun x cc hx e => by
      rw [hno x hx] at e
      have hxx := hcl x cc (mem_of_lookup e)
      by_cases hxo : x ∈ c.oc
      · obtain ⟨_, c', e', _, _, v, o, ho, hd⟩ := F.ocs x hxo
        rw [hxx] at e'; cases e'; exact ⟨o, hB cc o ho (nt_cell hd)⟩
      · obtain ⟨o, ho⟩ := F.fc x cc hxo hxx
        exact ⟨o, hB cc o (F.keep.get _ _ ho) (F.keep.nt _ _ ho)⟩
    vals := by
      have hval : ∀ x sl, ρ₀.lookup x = some sl → ∃ cc v, cenv.cells.lookup x = some cc ∧ h.IsCell cc (some v) ∧ ∃ d, sl = .val d ∧ Rel c.X G v d := fun x sl e => by
        obtain ⟨⟨d, rfl⟩, h1, h2, h3, h4, h5⟩ := hin.1 x sl e
        obtain ⟨cc, v, hc, hv, hr⟩ := F.cell_of he h1 h2
        obtain ⟨cc', hm'⟩ := hcl' x h4
        obtain ⟨c3, hc3⟩ := lookup_of_mem hm'
        have := hcl x c3 (mem_of_lookup hc3)
        rw [hc] at this; cases this
        exact ⟨cc, v, by rw [hno x h5, hc3], hv, d, rfl, hr⟩
      have hval' : ∀ x, ∃ v : Value, ∀ sl, ρ₀.lookup x = some sl → ∃ cc, cenv.cells.lookup x = some cc ∧ h.IsCell cc (some v) ∧ ∃ d, sl = .val d ∧ Rel c.X G v d := fun x => by
        cases q : ρ₀.lookup x with
        | none => exact ⟨.none, fun sl e => by cases e⟩
        | some sl => obtain ⟨cc, v, r⟩ := hval x sl q; exact ⟨v, fun sl' e => by cases e; exact ⟨cc, r⟩⟩
      refine ⟨fun _ => none, by rw [hlo, hh₁]; exact (Heap.Ns.new h₂ (.type "dict")).keeps (pushCells_keeps _ _), fun x => (hval' x).choose, fun x sl e => ?_, fun x y sx sy a ex ey ox => ?_⟩
      · obtain ⟨cc, h1, h2, d, rfl, hr⟩ := (hval' x).choose_spec sl e
        refine ⟨.inr ⟨?_, cc, h1, IsCell_kp h2 (k₂.trans kp)⟩, Rel.mono gle hr⟩
        obtain ⟨_, _, _, h3, _⟩ := hin.1 x _ e
        rw [Env.kindOf, hsc]; exact h3
      · obtain ⟨⟨d, rfl⟩, _⟩ := hin.1 x sx ex
        cases ox }

section
variable {c : Cx} {ρ ρ₀ ρ' : AEnv}

/-- the comprehension's own context -/
noncomputable def Cx.comp (c : Cx) (scope : Scope) : Cx := ⟨c.X, c.k, relab scope c.sc, ownCells scope⟩

/-- the comprehension's whole way, up to its end -/
theorem Cp.run {elt tgt iter : PySem.Expr} {ifs : List PySem.Expr} {gs : List Comprehension} {scope : Scope} {pos fpos : Pos} {ds es : List D} (hin : CpIn c scope ρ ρ₀) (hi : EvIt c ρ tgt iter ds)
    (hcode : ∀ {env : Env} {A : Around} {B : Fz} {I La : Addr} {St : Fz → Obj → List D → Prop} {G : Fz} {s : Shared} {o aO : Obj} {ys : List Value} {R : Result → Shared → Prop}, CpHd (c.comp scope) env A B I La → Iter c.X A tgt I St →
      CpAt (c.comp scope) env B I La St ρ₀ ds [] G s.heap o aO ys → CpEnd (c.comp scope) env B La ρ' es G s (fun s' => R (.ok .next) s') → codeAny c.X.M A (.compLoop (.ListComp elt (⟨tgt, iter, ifs, 0⟩ :: gs) scope pos) 0 (.ref I) (.ref La) env) R s)
    (hs : ∀ env x, foldedSetIterable iter env x = pure x) (hkind : scope.kind = .function) (hnames : ∀ x ∈ scope.names, x.2 = .local → scope.names.lookup x.1 = some .local) (hoc : ∀ x ∈ ownCells scope, (relab scope c.sc).names.lookup x = some .cell)
    {env : Env} {A : Around} {B G : Fz} {s : Shared} {use : Option (Value → Sem Unit)} {Q : Value → Shared → Prop} (he : EnvOk c.sc env) (hr : Rm c.k A) (F : FI c.X c.oc env ρ B G s.heap)
    (hq : ∀ C La s' G', Stp c.X s s' → G.Grow s.heap G' s'.heap → s.heap.get? C = none → G' C = none → (∃ m, s'.heap.Ns C m) → Rel c.X G' (.ref La) (.list es) → compPost c.X.M A NoE use Q (.ref La) C (.ok .next) s') :
    wpAny c.X.M A (comprehension (.ListComp elt (⟨tgt, iter, ifs, 0⟩ :: gs) scope pos) scope env fpos (newList []) false (eval iter env) use) Q NoE s := by
  have hcells : ∀ x, (x, NameKind.free) ∈ scope.names → ∃ cc, env.cells.lookup x = some cc := fun x hx => by
    obtain ⟨sl, hsl⟩ := hin.2 x hx
    obtain ⟨⟨d, rfl⟩, h1, h2, _⟩ := hin.1 x sl hsl
    obtain ⟨cc, v, hc, _⟩ := F.cell_of he h1 h2
    exact ⟨cc, hc⟩
  obtain ⟨cl, hclos, hcl, hcl'⟩ := closureFor_of hcells
  refine wpAny_comprehension_free rfl (hs env) hclos hkind hnames ?_
  refine hi env A B G s _ he hr F fun I s₂ G₂ o St st₂ g₂ hn hgI ho W hst => ?_
  refine wpAny_newObj_type (wp_compEnv ?_)
  dsimp only
  generalize hH2 : s₂.heap.push { cls := .type "list", dict := none, data := .seq ([] : List Value).toArray } = H2
  have k23 : Kp c.X s₂.heap H2 := .of fun b o e => by rw [← hH2]; exact Heap.get?_push_of_some _ e
  have hLa : H2.get? s₂.heap.objs.size = some { cls := .type "list", dict := none, data := .seq ([] : List Value).toArray } := by rw [← hH2]; exact Heap.get?_push_size _ rfl
  have hLn : s.heap.get? s₂.heap.objs.size = none := st₂.heap.fresh (get?_size _)
  have hnI : ¬ Tab o := W.nt hst
  have hIL : I ≠ s₂.heap.objs.size := Nat.ne_of_lt (Heap.lt_size ho)
  have hszC : H2.objs.size = s₂.heap.objs.size + 1 := by rw [← hH2, Heap.size_push]
  generalize hBB : Fz.put (Fz.put (hf s.heap) I o) s₂.heap.objs.size { cls := .type "list", dict := none, data := .seq ([] : List Value).toArray } = B₂
  have hs0 : ∀ b o', s.heap.get? b = some o' → ¬ Tab o' → B₂ b = some o' := fun b o' e n => by
    have h1 : b ≠ s₂.heap.objs.size := fun q => by subst q; rw [hLn] at e; cases e
    have h2 : b ≠ I := fun q => by subst q; rw [hn] at e; cases e
    rw [← hBB, Fz.put_ne h1, Fz.put_ne h2]; exact hf_iff.mpr ⟨e, n⟩
  have hB2 : B₂.In H2 := by
    rw [← hBB]
    exact Fz.put_in (Fz.put_in (hf_in (st₂.heap.trans k23)) (k23.get _ _ ho hnI) hnI) hLa (nt_cls rfl)
  have hG2 : G₂.In H2 := g₂.hold.kp k23
  generalize hce : ({ newEnv scope H2.objs.size env.globals (cellsFrom (H2.objs.size + 1) scope.names cl) env.qual none .none (some env) builtinsNs with scope := relabel scope env } : Env) = cenv
  have e1 : cenv.scope = relab scope c.sc := by rw [← hce]; exact relabel_eq he
  have e2 : cenv.locals = H2.objs.size := by rw [← hce]; rfl
  have e3 : cenv.cells = cellsFrom (H2.objs.size + 1) scope.names cl := by rw [← hce]; rfl
  have e4 : cenv.globals = mainGlobals := by rw [← hce]; exact he.gl
  have e5 : cenv.builtins = builtinsNs := by rw [← hce]; exact he.bi
  have e0 : cenv.code = env.code := by rw [← hce]; rfl
  have FC := F.comp (cenv := cenv) he hin hcl hcl' e1 e2 e3 hoc rfl (st₂.heap.trans k23) hG2 g₂.le hs0 hB2 e0
  generalize hh1 : pushCells (H2.push { cls := .type "dict", data := .dict #[] }) scope.names = h₁ at FC ⊢
  have k34 : Kp c.X H2 h₁ := .of fun b o e => by rw [← hh1]; exact pushCells_keeps _ _ b o (Heap.get?_push_of_some _ e)
  have cne : ∀ {a : Addr}, a < H2.objs.size → ∀ x cc, cenv.cells.lookup x = some cc → s.heap.get? a = none → cc ≠ a := fun {a} ha x cc e hna q => by
    subst q
    rw [e3, cellsFrom_append] at e
    rcases List.mem_append.mp (mem_of_lookup e) with hm | hm
    · rcases cellsFrom_mem scope.names _ [] hm with h | ⟨_, h⟩
      · cases h
      · exact absurd (Nat.lt_of_lt_of_le ha (Nat.le_of_succ_le h)) (Nat.lt_irrefl _)
    · obtain ⟨o', ho'⟩ := F.cells_at (hcl x cc hm)
      rw [hna] at ho'; cases ho'
  have H : CpHd (c.comp scope) cenv A (hf s.heap) I s₂.heap.objs.size := {
    he := ⟨e1, hkind, e4, e5⟩
    hr := hr
    hL := by rw [e2, hszC]; exact Nat.ne_of_gt (Nat.lt_succ_of_lt (Heap.lt_size ho))
    hc := fun x cc e => cne (by rw [hszC]; exact Nat.lt_succ_of_lt (Heap.lt_size ho)) x cc e hn
    hLa := by rw [e2, hszC]; exact Nat.ne_of_gt (Nat.lt_succ_self _)
    hcLa := fun x cc e => cne (by rw [hszC]; exact Nat.lt_succ_self _) x cc e hLn
    hIL := hIL
    hB := hf_none hn
    hBL := hf_none hLn
    htp := ⟨s.heap, F.tph, fun _ _ e n => hf_iff.mpr ⟨e, n⟩⟩ }
  rw [← hBB] at FC
  have hst1 : Stp c.X s { s₂ with heap := h₁ } := ⟨st₂.heap.trans (k23.trans k34), st₂.gens, st₂.drawn, st₂.os⟩
  have P : CpAt (c.comp scope) cenv (hf s.heap) I s₂.heap.objs.size St ρ₀ ds [] G₂ h₁ o { cls := .type "list", dict := none, data := .seq ([] : List Value).toArray } [] :=
    ⟨FC, hgI, Fz.none_of g₂.hold (get?_size _), hst, ⟨_, rfl⟩, .nil⟩
  have K : CpEnd (c.comp scope) cenv (hf s.heap) s₂.heap.objs.size ρ' es G₂ { s₂ with heap := h₁ } (fun s' => compPost c.X.M A NoE use Q (.ref s₂.heap.objs.size) cenv.locals (.ok .next) s') := by
    intro s' G' aO ys sst gB F' gL hl hrel
    obtain ⟨m, hm, _⟩ := F'.vals
    have hLo : s'.heap.get? s₂.heap.objs.size = some aO := F'.keep.get _ _ Fz.put_self
    have hlsn : ¬ Tab aO := hl.nt
    refine hq cenv.locals s₂.heap.objs.size s' (G'.put s₂.heap.objs.size aO) ⟨⟨fun b o e n => F'.keep.get b o (Fz.put_le (hf_none hLn) b o (hf_iff.mpr ⟨e, n⟩)), hst1.heap.tab.trans sst.tabs⟩, fun g => sst.gens (st₂.gens g), sst.drawn.trans st₂.drawn, sst.os.trans st₂.os⟩ ?_ ?_ ?_ ⟨m, hm⟩ (.list Fz.put_self hl (RelAll.mono (Fz.put_le gL) hrel))
    · refine ⟨(g₂.le.trans gB.le).trans (Fz.put_le gL), Fz.put_in F'.hold hLo hlsn, fun a o' e => ?_⟩
      have hne : a ≠ s₂.heap.objs.size := fun q => by subst q; rw [hLn] at e; cases e
      rw [Fz.put_ne hne]
      by_cases n : Tab o'
      · have h1 : ∀ {G₀ : Fz} {h₀ : Heap}, G₀.In h₀ → TabAt h₀ a → G₀ a = none := fun {G₀ h₀} hin ⟨o₂, e₂, t₂⟩ => by
          cases q : G₀ a with
          | none => rfl
          | some o₃ => have := hin.get a o₃ q; rw [e₂] at this; cases this; exact absurd t₂ (hin.nt a _ q)
        rw [h1 F'.hold (sst.tabs.at (hst1.heap.tab.at ⟨o', e, n⟩)), h1 F.hold ⟨o', e, n⟩]
      · rw [gB.old a o' (hf_iff.mpr ⟨e, n⟩)]; exact g₂.old a o' e
    · rw [e2]; exact (st₂.heap.trans k23).fresh (get?_size _)
    · rw [Fz.put_ne (by rw [e2, hszC]; exact Nat.ne_of_gt (Nat.lt_succ_self _))]; exact F'.gL
  have lp := hcode (R := compPost c.X.M A NoE use Q (.ref s₂.heap.objs.size) cenv.locals) (s := { s₂ with heap := h₁ }) H W P K
  have e6 : cenv.locals = (newEnv scope H2.objs.size env.globals (cellsFrom (H2.objs.size + 1) scope.names cl) env.qual none .none (some env) builtinsNs).locals := by rw [← hce]
  rw [e6] at lp
  exact codeAny_compStart_list lp (wpAny_mono (W.self G₂ { s₂ with heap := h₁ } o ds (fun v s' => v = .ref I ∧ s' = { s₂ with heap := h₁ }) (hG2.kp k34) ((k23.trans k34).get _ _ ho hnI) hst ⟨rfl, rfl⟩) (fun v s' h => by obtain ⟨rfl, rfl⟩ := h; exact lp) fun _ _ e => e.elim)

/-- a comprehension's value -/
theorem Cp.ev {elt tgt iter : PySem.Expr} {ifs : List PySem.Expr} {gs : List Comprehension} {scope : Scope} {pos : Pos} {es : List D}
    (h : ∀ {env : Env} {A : Around} {B G : Fz} {s : Shared} {use : Option (Value → Sem Unit)} {Q : Value → Shared → Prop}, EnvOk c.sc env → Rm c.k A → FI c.X c.oc env ρ B G s.heap →
      (∀ C La s' G', Stp c.X s s' → G.Grow s.heap G' s'.heap → s.heap.get? C = none → G' C = none → (∃ m, s'.heap.Ns C m) → Rel c.X G' (.ref La) (.list es) → compPost c.X.M A NoE use Q (.ref La) C (.ok .next) s') →
      wpAny c.X.M A (comprehension (.ListComp elt (⟨tgt, iter, ifs, 0⟩ :: gs) scope pos) scope env (firstIterPos (⟨tgt, iter, ifs, 0⟩ :: gs) pos) (newList []) false (eval iter env) use) Q NoE s) :
    Ev c ρ (.ListComp elt (⟨tgt, iter, ifs, 0⟩ :: gs) scope pos) (.list es) := fun env A B G s he hr F Q hq => by
  rw [eval_ListComp]
  refine h (use := none) he hr F fun C La s' G' st g hn hg ⟨m, hm⟩ hrel => ⟨m, hm, fun h' hs' => ?_⟩
  have hk : ∀ b o, b ≠ C → s'.heap.get? b = some o → h'.get? b = some o := fun b o hb e => hs'.extBut b o hb e
  obtain ⟨oC, es', ep, hoC, hdC, _⟩ := hm
  refine hq _ _ G' ⟨⟨fun b o e n => hk b o (fun q => by subst q; rw [hn] at e; cases e) (st.heap.get b o e n), st.heap.tab.trans (tabs_but hk (fun o₀ e₀ => by rw [hoC] at e₀; cases e₀; exact nt_dict hdC))⟩, st.gens, st.drawn, st.os⟩ ⟨g.le, ⟨fun b o e => hk b o (fun q => by subst q; rw [hg] at e; cases e) (g.hold.get b o e), g.hold.nt⟩, g.old⟩ hrel

/-- x = [..] on the road where the stores are exchanged -/
theorem Cp.asg {elt tgt iter : PySem.Expr} {ifs : List PySem.Expr} {gs : List Comprehension} {scope : Scope} {pos xpos spos : Pos} {es : List D} {x : Str}
    (h : ∀ {env : Env} {A : Around} {B G : Fz} {s : Shared} {use : Option (Value → Sem Unit)} {Q : Value → Shared → Prop}, EnvOk c.sc env → Rm c.k A → FI c.X c.oc env ρ B G s.heap →
      (∀ C La s' G', Stp c.X s s' → G.Grow s.heap G' s'.heap → s.heap.get? C = none → G' C = none → (∃ m, s'.heap.Ns C m) → Rel c.X G' (.ref La) (.list es) → compPost c.X.M A NoE use Q (.ref La) C (.ok .next) s') →
      wpAny c.X.M A (comprehension (.ListComp elt (⟨tgt, iter, ifs, 0⟩ :: gs) scope pos) scope env (firstIterPos (⟨tgt, iter, ifs, 0⟩ :: gs) pos) (newList []) false (eval iter env) use) Q NoE s)
    (hx : c.sto x) (hsw : ∀ env, EnvOk c.sc env → swapsWith (.ListComp elt (⟨tgt, iter, ifs, 0⟩ :: gs) scope pos) (some (.Name x xpos)) spos.line env = pure true) :
    Do1 c ρ (.Assign [.Name x xpos] (.ListComp elt (⟨tgt, iter, ifs, 0⟩ :: gs) scope pos) spos) (.next ((x, .val (.list es)) :: ρ)) := fun env A B G s Q he hr F hq => by
  rw [exec_Assign_Name_used _ _ _ _ (hsw env he)]
  refine wpAny_bind (wpAny_standAt (wpAny_bind ?_))
  show wpAny _ A (do let _ ← comprehension (.ListComp elt (⟨tgt, iter, ifs, 0⟩ :: gs) scope pos) scope env _ (newList []) false (eval iter env) (some (assign (.Name x xpos) env))) _ _ s
  refine wpAny_bind (wpAny_mono (h (use := some (assign (.Name x xpos) env)) (Q := fun _ s' => Q .next s') he hr F fun C La s' G' st g hn hg ⟨m, hm⟩ hrel => ?_) (fun _ s' hq => wpAny_pure (wpAny_pure hq)) fun _ _ e => e)
  obtain ⟨oC, es', ep, hoC, hdC, hrest⟩ := hm
  obtain ⟨F₁, hL, hc, hB⟩ := F.iterIn st.heap g hn hoC (nt_dict hdC)
  refine Asg.name hx env A _ G' s' (.ref La) _ he hr F₁ hrel fun s₂ G₂ st₂ g₂ F₂ => ?_
  refine ⟨m, ⟨oC, es', ep, F₂.keep.get C oC Fz.put_self, hdC, hrest⟩, fun h' hs' => ?_⟩
  have hg2 : G₂ C = none := (g₂.old C oC Fz.put_self).trans hg
  exact hq { s₂ with heap := h' } G₂ (st.s.trans (st₂.trans (SStp.of (s := s₂) (h := h') (t := s₂.toks) (tabs_but (fun b o hb e => hs'.extBut b o hb e) fun o₀ e₀ => by rw [F₂.keep.get C oC Fz.put_self] at e₀; cases e₀; exact nt_dict hdC)))) ((g.b F.keep).trans (g₂.put hB)) (F₂.iterOut (fun b o hb e => hs'.extBut b o hb e) hg2 hL hc hB F.tp)

/-- [elt for tgt in iter if ..] -/
theorem Ev.comp1 {elt tgt iter : PySem.Expr} {ifs : List PySem.Expr} {scope : Scope} {pos : Pos} {ds es : List D} (hin : CpIn c scope ρ ρ₀) (hi : EvIt c ρ tgt iter ds) (hp : Cp (c.comp scope) elt [⟨tgt, iter, ifs, 0⟩] ρ₀ ds es ρ') (hlen : es.length ≤ 1000)
    (hs : ∀ env x, foldedSetIterable iter env x = pure x := by intro _ _; rfl) (hkind : scope.kind = .function := by rfl) (hnames : ∀ x ∈ scope.names, x.2 = .local → scope.names.lookup x.1 = some .local := by decide) (hoc : ∀ x ∈ ownCells scope, (relab scope c.sc).names.lookup x = some .cell := by decide) :
    Ev c ρ (.ListComp elt [⟨tgt, iter, ifs, 0⟩] scope pos) (.list es) :=
  Cp.ev fun he hr F hq => Cp.run hin hi (fun H W P k => Cp.code1 rfl rfl H W hp (by simpa using hlen) P (by simpa using k)) hs hkind hnames hoc he hr F hq
theorem Do1.comp1 {elt tgt iter : PySem.Expr} {ifs : List PySem.Expr} {scope : Scope} {pos xpos spos : Pos} {x : Str} {ds es : List D} (hx : c.sto x) (hin : CpIn c scope ρ ρ₀) (hi : EvIt c ρ tgt iter ds) (hp : Cp (c.comp scope) elt [⟨tgt, iter, ifs, 0⟩] ρ₀ ds es ρ') (hlen : es.length ≤ 1000)
    (hsw : ∀ env, EnvOk c.sc env → swapsWith (.ListComp elt [⟨tgt, iter, ifs, 0⟩] scope pos) (some (.Name x xpos)) spos.line env = pure true)
    (hs : ∀ env x, foldedSetIterable iter env x = pure x := by intro _ _; rfl) (hkind : scope.kind = .function := by rfl) (hnames : ∀ x ∈ scope.names, x.2 = .local → scope.names.lookup x.1 = some .local := by decide) (hoc : ∀ x ∈ ownCells scope, (relab scope c.sc).names.lookup x = some .cell := by decide) :
    Do1 c ρ (.Assign [.Name x xpos] (.ListComp elt [⟨tgt, iter, ifs, 0⟩] scope pos) spos) (.next ((x, .val (.list es)) :: ρ)) :=
  Cp.asg (fun he hr F hq => Cp.run hin hi (fun H W P k => Cp.code1 rfl rfl H W hp (by simpa using hlen) P (by simpa using k)) hs hkind hnames hoc he hr F hq) hx hsw
end
end Mine
end

section
set_option linter.unusedVariables false
namespace Mine

/-! ## zip over two tuples -/
section
variable {X : Wd} {A : Around} {E : Value → Shared → Prop} {s : Shared}

/-- one draw from a tuple's iterator -/
theorem tup_draw {it t : Addr} {k : Nat} {vs : List Value} {x : Value} {Q : Value → Shared → Prop} (hi : s.heap.IsTupleIter it t k) (ht : s.heap.IsTuple t vs.toArray) (hx : vs[k]? = some x)
    (hq : ∀ h', h'.IsTupleIter it t (k + 1) → Heap.SameBut it s.heap h' → Q x { s with heap := h' }) : wpAny X.M A (Builtin.SmallTypes.nextOf (.ref it)) Q E s := by
  have hT := hi.typeIs
  obtain ⟨o, ho, hcls, hdat⟩ := hi
  obtain ⟨ot, hot, _, n, hseq⟩ := ht
  have hrun : wpAny X.M A.in1 (Builtin.«tuple_iterator.__next__» ⟨[.ref it], []⟩) (fun fin s' => ∃ v, fin = .done (.ret v) ∧ Q v s') E s := by
    show wpAny _ _ (field (.ref it) 0 >>= _) _ _ s
    refine wpAny_bind (wpAny_field ho hdat (x := .ref t) rfl ?_)
    show wpAny _ _ (if (Value.ref t == Value.none) = true then _ else _) _ _ s
    rw [show (Value.ref t == Value.none) = false from rfl]
    show wpAny _ _ (field (.ref it) 1 >>= _) _ _ s
    refine wpAny_bind (wpAny_field ho hdat (x := .int k 0) rfl ?_)
    show wpAny _ _ (seqItems? (.ref t) >>= _) _ _ s
    refine wpAny_bind (wpAny_seqItems hot hseq ?_)
    have hx' : vs.toArray[(k : Int).toNat]? = some x := by simpa using hx
    simp only [hx']
    refine wpAny_bind (wpAny_setField ho hdat (by simp) (wpAny_pure ⟨x, rfl, hq _ ⟨_, Heap.get?_update_self _ ho (Obj.isFreed_of_fields (Obj.data_mapFields hdat _)), ?_, ?_⟩ (Heap.SameBut.update ..)⟩))
    · rw [Obj.cls_mapFields]; exact hcls
    · rw [Obj.data_mapFields hdat]; simp [rawInt]
  unfold Builtin.SmallTypes.nextOf
  refine wpAny_bind (wpAny_callSpecial?_slot (name := Str.ofString "__next__") hT PySem.F.slot_tuple_iterator_next (wpAny_call_entry PySem.F.slot_tuple_iterator_next hT PySem.F.entry_tuple_iterator_next (wpAny_mono hrun (fun fin s' h => ?_) fun _ _ e => e) (PySem.F.args_tuple_iterator_next_1 _)))
  obtain ⟨v, rfl, hv⟩ := h
  exact ⟨v, rfl, wpAny_pure hv⟩

/-- the draw that finds nothing more -/
theorem tup_end {it t : Addr} {k : Nat} {vs : List Value} {Q : Value → Shared → Prop} (hh : A.handled = none) (hi : s.heap.IsTupleIter it t k) (ht : s.heap.IsTuple t vs.toArray) (hx : vs[k]? = none)
    (hq : ∀ h' e, (∀ b o, b ≠ it → s.heap.get? b = some o → h'.get? b = some o) → (∃ o, h'.get? e = some o ∧ o.cls = .type "StopIteration") → E (.ref e) { s with heap := h' }) : wpAny X.M A (Builtin.SmallTypes.nextOf (.ref it)) Q E s := by
  have hT := hi.typeIs
  obtain ⟨o, ho, hcls, hdat⟩ := hi
  obtain ⟨ot, hot, _, n, hseq⟩ := ht
  have hrun : ∀ {R : Fin → Shared → Prop}, wpAny X.M A.in1 (Builtin.«tuple_iterator.__next__» ⟨[.ref it], []⟩) R E s := fun {R} => by
    show wpAny _ _ (field (.ref it) 0 >>= _) _ _ s
    refine wpAny_bind (wpAny_field ho hdat (x := .ref t) rfl ?_)
    show wpAny _ _ (if (Value.ref t == Value.none) = true then _ else _) _ _ s
    rw [show (Value.ref t == Value.none) = false from rfl]
    show wpAny _ _ (field (.ref it) 1 >>= _) _ _ s
    refine wpAny_bind (wpAny_field ho hdat (x := .int k 0) rfl ?_)
    show wpAny _ _ (seqItems? (.ref t) >>= _) _ _ s
    refine wpAny_bind (wpAny_seqItems hot hseq ?_)
    have hx' : vs.toArray[(k : Int).toNat]? = none := by simpa using hx
    simp only [hx']
    refine wpAny_bind (wpAny_rule (wpAny_bind (wpAny_setField ho hdat (by simp) ?_)))
    show wpAny _ _ (newExc (.type "StopIteration") [] >>= fun x => raiseNew x) _ _ _
    refine wpAny_bind ?_
    unfold newExc newTuple
    refine wpAny_bind (wpAny_newObj_type ?_)
    refine wpAny_bind (m := firstArgMember _ _) (wpAny_of_eq (a := Value.none) (by first | rfl | (simp only [firstArgMember]; rfl)) ?_)
    refine wpAny_newObj_type ?_
    refine wpAny_raiseNew_none hh (hq _ _ (fun b o' hb e => Heap.get?_push_of_some _ (Heap.get?_push_of_some _ ((Heap.SameBut.update ..).extBut b o' hb e))) ⟨_, Heap.get?_push_size _ rfl, rfl⟩)
  unfold Builtin.SmallTypes.nextOf
  exact wpAny_bind (wpAny_callSpecial?_slot (name := Str.ofString "__next__") hT PySem.F.slot_tuple_iterator_next (wpAny_call_entry PySem.F.slot_tuple_iterator_next hT PySem.F.entry_tuple_iterator_next hrun (PySem.F.args_tuple_iterator_next_1 _)))

/-- the addresses of a zip, all apart -/
structure ZD (z TI TO i1 i2 t1 t2 : Addr) : Prop where
  d1 : TO ≠ z
  d2 : i1 ≠ z
  d3 : i2 ≠ z
  d4 : TO ≠ i1
  d5 : TO ≠ i2
  d6 : i1 ≠ i2
  e1 : TI ≠ z ∧ TI ≠ TO ∧ TI ≠ i1 ∧ TI ≠ i2
  e2 : t1 ≠ z ∧ t1 ≠ TO ∧ t1 ≠ i1 ∧ t1 ≠ i2
  e3 : t2 ≠ z ∧ t2 ≠ TO ∧ t2 ≠ i1 ∧ t2 ≠ i2

/-- a zip's state, seen from a heap before -/
structure ZS (h₀ : Heap) (z TI TO i1 i2 t1 t2 : Addr) (f a b : Value) (k1 k2 : Nat) (h : Heap) : Prop where
  zz : IsZip h z TI TO f
  tt : IsPair h TO a b
  p1 : h.IsTupleIter i1 t1 k1
  p2 : h.IsTupleIter i2 t2 k2
  sz : h.objs.size = h₀.objs.size
  rest : ∀ c o, c ≠ z → c ≠ TO → c ≠ i1 → c ≠ i2 → h₀.get? c = some o → h.get? c = some o

section
variable {h₀ h h' : Heap} {z TI TO i1 i2 t1 t2 : Addr} {f f' a b a' b' : Value} {k1 k2 k' : Nat}
theorem ZS.atz (D : ZD z TI TO i1 i2 t1 t2) (x : ZS h₀ z TI TO i1 i2 t1 t2 f a b k1 k2 h) (hs : Heap.SameBut z h h') (e : IsZip h' z TI TO f') : ZS h₀ z TI TO i1 i2 t1 t2 f' a b k1 k2 h' :=
  ⟨e, hs.extBut _ _ D.d1 x.tt, x.p1.extBut hs.extBut D.d2, x.p2.extBut hs.extBut D.d3, hs.1.trans x.sz, fun c o n1 n2 n3 n4 e => hs.extBut _ _ n1 (x.rest c o n1 n2 n3 n4 e)⟩
theorem ZS.atT (D : ZD z TI TO i1 i2 t1 t2) (x : ZS h₀ z TI TO i1 i2 t1 t2 f a b k1 k2 h) (hs : Heap.SameBut TO h h') (e : IsPair h' TO a' b') : ZS h₀ z TI TO i1 i2 t1 t2 f a' b' k1 k2 h' :=
  ⟨hs.extBut _ _ D.d1.symm x.zz, e, x.p1.extBut hs.extBut D.d4.symm, x.p2.extBut hs.extBut D.d5.symm, hs.1.trans x.sz, fun c o n1 n2 n3 n4 e => hs.extBut _ _ n2 (x.rest c o n1 n2 n3 n4 e)⟩
theorem ZS.at1 (D : ZD z TI TO i1 i2 t1 t2) (x : ZS h₀ z TI TO i1 i2 t1 t2 f a b k1 k2 h) (hs : Heap.SameBut i1 h h') (e : h'.IsTupleIter i1 t1 k') : ZS h₀ z TI TO i1 i2 t1 t2 f a b k' k2 h' :=
  ⟨hs.extBut _ _ D.d2.symm x.zz, hs.extBut _ _ D.d4 x.tt, e, x.p2.extBut hs.extBut D.d6.symm, hs.1.trans x.sz, fun c o n1 n2 n3 n4 e => hs.extBut _ _ n3 (x.rest c o n1 n2 n3 n4 e)⟩
theorem ZS.at2 (D : ZD z TI TO i1 i2 t1 t2) (x : ZS h₀ z TI TO i1 i2 t1 t2 f a b k1 k2 h) (hs : Heap.SameBut i2 h h') (e : h'.IsTupleIter i2 t2 k') : ZS h₀ z TI TO i1 i2 t1 t2 f a b k1 k' h' :=
  ⟨hs.extBut _ _ D.d3.symm x.zz, hs.extBut _ _ D.d5 x.tt, x.p1.extBut hs.extBut D.d6, e, hs.1.trans x.sz, fun c o n1 n2 n3 n4 e => hs.extBut _ _ n4 (x.rest c o n1 n2 n3 n4 e)⟩
theorem ZS.tup (x : ZS h₀ z TI TO i1 i2 t1 t2 f a b k1 k2 h) {t : Addr} {items : Array Value} (n : t ≠ z ∧ t ≠ TO ∧ t ≠ i1 ∧ t ≠ i2) (e : h₀.IsTuple t items) : h.IsTuple t items :=
  let ⟨o, ho, r⟩ := e; ⟨o, x.rest t o n.1 n.2.1 n.2.2.1 n.2.2.2 ho, r⟩
end

variable {z TI TO i1 i2 t1 t2 : Addr} {a b : Value} {k : Nat} {xs ys : List Value}

/-- a pair is drawn -/
theorem zt_item {x y : Value} {Q : Value → Shared → Prop} (D : ZD z TI TO i1 i2 t1 t2) (hz : IsZip s.heap z TI TO .none) (hTI : IsPair s.heap TI (.ref i1) (.ref i2)) (hTO : IsPair s.heap TO a b)
    (h1 : s.heap.IsTupleIter i1 t1 k) (h2 : s.heap.IsTupleIter i2 t2 k) (ht1 : s.heap.IsTuple t1 xs.toArray) (ht2 : s.heap.IsTuple t2 ys.toArray) (hx : xs[k]? = some x) (hy : ys[k]? = some y)
    (hq : ∀ h', IsZip h' z TI TO (rawInt s.heap.objs.size) → IsPair h' TO x y → h'.IsTupleIter i1 t1 (k + 1) → h'.IsTupleIter i2 t2 (k + 1) → IsPair h' s.heap.objs.size x y →
      (∀ c o, c ≠ z → c ≠ TO → c ≠ i1 → c ≠ i2 → s.heap.get? c = some o → h'.get? c = some o) → Q (.ref s.heap.objs.size) { s with heap := h' }) :
    wpAny X.M A (Builtin.«zip.__next__» ⟨[.ref z], []⟩) (fun fin s' => ∃ v, fin = .done (.ret v) ∧ Q v s') E s := by
  have Z0 : ZS s.heap z TI TO i1 i2 t1 t2 .none a b k k s.heap := ⟨hz, hTO, h1, h2, rfl, fun _ _ _ _ _ _ e => e⟩
  show wpAny _ _ (field (.ref z) 2 >>= _) _ _ _
  refine wpAny_bind (wpAny_field hz rfl (x := .bool false) rfl ?_)
  show wpAny _ _ (field (.ref z) 3 >>= _) _ _ _
  refine wpAny_bind (wpAny_field hz rfl (x := .ref TI) rfl (wpAny_bind (wpAny_seqItems hTI rfl ?_)))
  show wpAny _ _ (Builtin.SmallTypes.ownedTupleIsFree (.ref z) >>= _) _ _ _
  refine wpAny_bind ?_
  unfold Builtin.SmallTypes.ownedTupleIsFree
  refine wpAny_bind (wpAny_field hz rfl (x := .none) rfl (wpAny_pure ?_))
  rw [if_pos rfl]
  refine wpAny_bind (wpAny_rule (wpAny_bind (wpAny_field hz rfl (x := .ref TO) rfl (wpAny_bind (wpAny_setField_rec hz (by simp) fun g₁ hz₁ hs₁ => ?_)))))
  have Z1 := Z0.atz (f' := .ellipsis) D hs₁ hz₁
  clear hz₁ hs₁
  refine wpAny_bind ?_
  simp only [List.zipIdx_cons, List.zipIdx_nil, List.forIn_cons, List.forIn_nil]
  refine wpAny_bind (wpAny_bind (wpAny_onRaise ?_))
  show wpAny _ _ (Builtin.SmallTypes.nextOf (.ref i1) >>= _) _ _ _
  refine wpAny_bind (tup_draw Z1.p1 (Z1.tup D.e2 ht1) hx fun g₂ hi hs => wpAny_pure ?_)
  have Z2 := Z1.at1 D hs hi
  clear hi hs
  refine wpAny_bind (wpAny_seqItems Z2.tt rfl (wpAny_bind (wpAny_updateSeq_pair Z2.tt fun g₃ hT hs => ?_)))
  have Z3 := Z2.atT (a' := x) (b' := b) D hs hT
  clear hT hs
  refine wpAny_bind (wpAny_letGo (wpAny_pure ?_))
  refine wpAny_bind (wpAny_bind (wpAny_onRaise ?_))
  show wpAny _ _ (Builtin.SmallTypes.nextOf (.ref i2) >>= _) _ _ _
  refine wpAny_bind (tup_draw Z3.p2 (Z3.tup D.e3 ht2) hy fun g₄ hi hs => wpAny_pure ?_)
  have Z4 := Z3.at2 D hs hi
  clear hi hs
  refine wpAny_bind (wpAny_seqItems Z4.tt rfl (wpAny_bind (wpAny_updateSeq_pair Z4.tt fun g₅ hT hs => ?_)))
  have Z5 := Z4.atT (a' := x) (b' := y) D hs hT
  clear hT hs
  refine wpAny_bind (wpAny_letGo (wpAny_pure (wpAny_pure ?_)))
  refine wpAny_bind (wpAny_seqItems Z5.tt rfl (wpAny_bind (wpAny_newTuple ?_)))
  show wpAny _ _ (Builtin.SmallTypes.ownedTupleHandOut (.ref z) (.ref g₅.objs.size) >>= _) _ _ _
  refine wpAny_bind ?_
  unfold Builtin.SmallTypes.ownedTupleHandOut
  have hz₆ : IsZip (g₅.push { cls := .type "tuple", data := .seq #[x, y] }) z TI TO .ellipsis := Heap.get?_push_of_some _ Z5.zz
  refine wpAny_bind (wpAny_setField_rec hz₆ (by simp) fun g₇ hz₇ hs₇ => ?_)
  replace hz₇ : IsZip g₇ z TI TO (rawInt g₅.objs.size) := hz₇
  refine wpAny_setField_rec hz₇ (by simp) fun g₈ hz₈ hs₈ => wpAny_pure ⟨_, rfl, ?_⟩
  replace hz₈ : IsZip g₈ z TI TO (rawInt g₅.objs.size) := hz₈
  have up : ∀ c o, c ≠ z → g₅.get? c = some o → g₈.get? c = some o := fun c o n e => hs₈.extBut _ _ n (hs₇.extBut _ _ n (Heap.get?_push_of_some _ e))
  have hnew : IsPair g₈ g₅.objs.size x y := hs₈.extBut _ _ (Nat.ne_of_gt (Heap.lt_size Z5.zz)) (hs₇.extBut _ _ (Nat.ne_of_gt (Heap.lt_size Z5.zz)) (Heap.get?_push_size _ rfl))
  rw [Z5.sz] at hz₈ hnew
  show Q (.ref g₅.objs.size) _
  rw [Z5.sz]
  exact hq g₈ hz₈ (up _ _ D.d1 Z5.tt) (let ⟨o, e, r⟩ := Z5.p1; ⟨o, up _ o D.d2 e, r⟩) (let ⟨o, e, r⟩ := Z5.p2; ⟨o, up _ o D.d3 e, r⟩) hnew fun c o n1 n2 n3 n4 e => up c o n1 (Z5.rest c o n1 n2 n3 n4 e)

/-- no more pairs -/
theorem zt_end {Q : Fin → Shared → Prop} (hh : A.handled = none) (D : ZD z TI TO i1 i2 t1 t2) (hz : IsZip s.heap z TI TO .none) (hTI : IsPair s.heap TI (.ref i1) (.ref i2)) (hTO : IsPair s.heap TO a b)
    (h1 : s.heap.IsTupleIter i1 t1 k) (h2 : s.heap.IsTupleIter i2 t2 k) (ht1 : s.heap.IsTuple t1 xs.toArray) (hx : xs[k]? = none)
    (hq : ∀ h' e, (∀ c o, c ≠ z → c ≠ TO → c ≠ i1 → c ≠ i2 → s.heap.get? c = some o → h'.get? c = some o) → (∃ o, h'.get? e = some o ∧ o.cls = .type "StopIteration") → E (.ref e) { s with heap := h' }) :
    wpAny X.M A (Builtin.«zip.__next__» ⟨[.ref z], []⟩) Q E s := by
  have Z0 : ZS s.heap z TI TO i1 i2 t1 t2 .none a b k k s.heap := ⟨hz, hTO, h1, h2, rfl, fun _ _ _ _ _ _ e => e⟩
  show wpAny _ _ (field (.ref z) 2 >>= _) _ _ _
  refine wpAny_bind (wpAny_field hz rfl (x := .bool false) rfl ?_)
  show wpAny _ _ (field (.ref z) 3 >>= _) _ _ _
  refine wpAny_bind (wpAny_field hz rfl (x := .ref TI) rfl (wpAny_bind (wpAny_seqItems hTI rfl ?_)))
  show wpAny _ _ (Builtin.SmallTypes.ownedTupleIsFree (.ref z) >>= _) _ _ _
  refine wpAny_bind ?_
  unfold Builtin.SmallTypes.ownedTupleIsFree
  refine wpAny_bind (wpAny_field hz rfl (x := .none) rfl (wpAny_pure ?_))
  rw [if_pos rfl]
  refine wpAny_bind (wpAny_rule (wpAny_bind (wpAny_field hz rfl (x := .ref TO) rfl (wpAny_bind (wpAny_setField_rec hz (by simp) fun g₁ hz₁ hs₁ => ?_)))))
  have Z1 := Z0.atz (f' := .ellipsis) D hs₁ hz₁
  clear hz₁ hs₁
  refine wpAny_bind ?_
  simp only [List.zipIdx_cons, List.zipIdx_nil, List.forIn_cons, List.forIn_nil]
  refine wpAny_bind (wpAny_bind (wpAny_onRaise ?_))
  show wpAny _ _ (Builtin.SmallTypes.nextOf (.ref i1) >>= _) _ _ _
  refine wpAny_bind (tup_end hh Z1.p1 (Z1.tup D.e2 ht1) hx fun g₂ e hk he => ?_)
  obtain ⟨oe, hoe, hce⟩ := he
  have hz₂ : IsZip g₂ z TI TO .ellipsis := hk _ _ D.d2.symm Z1.zz
  have hez : e ≠ z := fun q => by subst q; rw [hz₂] at hoe; cases hoe; simp at hce
  exact wpAny_setField_rec hz₂ (by simp) fun g₃ _ hs₃ => hq g₃ e (fun c o n1 n2 n3 n4 e => hs₃.extBut _ _ n1 (hk _ _ n3 (Z1.rest c o n1 n2 n3 n4 e))) ⟨oe, hs₃.extBut _ _ hez hoe, hce⟩
end
end Mine
end

section
set_option linter.unusedVariables false
namespace Mine

noncomputable def ZSt (z TI TO i1 i2 t1 t2 : Addr) (xs ys : List Value) (f : Value) (k : Nat) (h : Heap) : Prop :=
  IsZip h z TI TO f ∧ IsPair h TI (.ref i1) (.ref i2) ∧ (∃ a b, IsPair h TO a b) ∧ h.IsTupleIter i1 t1 k ∧ h.IsTupleIter i2 t2 k ∧ h.IsTuple t1 xs.toArray ∧ h.IsTuple t2 ys.toArray

theorem ZSt.keep {z TI TO i1 i2 t1 t2 : Addr} {xs ys : List Value} {f : Value} {k : Nat} {h h' : Heap} (x : ZSt z TI TO i1 i2 t1 t2 xs ys f k h) (hk : ∀ b ∈ [z, TI, TO, i1, i2, t1, t2], ∀ o, h.get? b = some o → h'.get? b = some o) : ZSt z TI TO i1 i2 t1 t2 xs ys f k h' := by
  obtain ⟨h1, h2, ⟨a, b, h3⟩, ⟨o4, h4, r4⟩, ⟨o5, h5, r5⟩, ⟨o6, h6, r6⟩, ⟨o7, h7, r7⟩⟩ := x
  exact ⟨hk _ (by simp) _ h1, hk _ (by simp) _ h2, ⟨a, b, hk _ (by simp) _ h3⟩, ⟨o4, hk _ (by simp) _ h4, r4⟩, ⟨o5, hk _ (by simp) _ h5, r5⟩, ⟨o6, hk _ (by simp) _ h6, r6⟩, ⟨o7, hk _ (by simp) _ h7, r7⟩⟩

theorem zipWalk {prog : Program} {w : World} {A : Around} {z TI TO i1 i2 t1 t2 : Addr} {xs ys : List Value} (hh : A.handled = none) (D : ZD z TI TO i1 i2 t1 t2) (hl : xs.length = ys.length) :
    WalksU prog w A z [z, TI, TO, i1, i2, t1, t2] [z, TO, i1, i2] xs.length (fun i vals => ∃ x y, xs[i]? = some x ∧ ys[i]? = some y ∧ vals = #[x, y])
      (fun i h => ZSt z TI TO i1 i2 t1 t2 xs ys .none i h) (fun i T h => ZSt z TI TO i1 i2 t1 t2 xs ys (rawInt T) (i + 1) h ∧ T ∉ [z, TO, i1, i2]) where
  sub := fun b hb => by simp only [List.mem_cons, List.not_mem_nil, or_false] at hb ⊢; rcases hb with rfl | rfl | rfl | rfl <;> simp
  frame := fun i h h' st hk => st.keep hk
  item := fun i s Q E hi st hq => by
    obtain ⟨hz, hTI, ⟨a, b, hTO⟩, h1, h2, ht1, ht2⟩ := id st
    have hT : s.TypeIs (.ref z) "zip" := ⟨_, hz, rfl⟩
    have hx : xs[i]? = some xs[i] := by simp [hi]
    have hy : ys[i]? = some (ys[i]'(by omega)) := by simp [show i < ys.length by omega]
    unfold pyNext
    refine wpAny_bind (wpAny_attempt (wpAny_callSpecial?_slot (name := Str.ofString "__next__") hT PySem.F.slot_zip_next (wpAny_call_entry PySem.F.slot_zip_next hT PySem.F.entry_zip_next
      (zt_item (X := ⟨prog, w, prog, [], fun _ => none, fun _ => none, fun _ => none, fun _ _ => False⟩) D hz hTI hTO h1 h2 ht1 ht2 hx hy fun h' q1 q2 q3 q4 q5 rest => wpAny_pure ?_) (PySem.F.args_zip_next_1 _))))
    have ne : ∀ {c o}, s.heap.get? c = some o → s.heap.objs.size ≠ c := fun e => Nat.ne_of_gt (Heap.lt_size e)
    have n1 : s.heap.objs.size ≠ i1 := let ⟨o, e, _⟩ := h1; ne e
    have n2 : s.heap.objs.size ≠ i2 := let ⟨o, e, _⟩ := h2; ne e
    refine hq _ #[xs[i], ys[i]'(by omega)] h' s.toks ⟨_, _, hx, hy, rfl⟩ ⟨_, q5, rfl, _, rfl⟩ ⟨⟨q1, rest _ _ D.e1.1 D.e1.2.1 D.e1.2.2.1 D.e1.2.2.2 hTI, ⟨_, _, q2⟩, q3, q4, ?_, ?_⟩, ?_⟩ fun c o hc e => ?_
    · obtain ⟨o, e, r⟩ := ht1; exact ⟨o, rest _ _ D.e2.1 D.e2.2.1 D.e2.2.2.1 D.e2.2.2.2 e, r⟩
    · obtain ⟨o, e, r⟩ := ht2; exact ⟨o, rest _ _ D.e3.1 D.e3.2.1 D.e3.2.2.1 D.e3.2.2.2 e, r⟩
    · simp only [List.mem_cons, List.not_mem_nil, or_false, not_or]; exact ⟨ne hz, ne hTO, n1, n2⟩
    · simp only [List.mem_cons, List.not_mem_nil, or_false, not_or] at hc
      exact rest c o hc.1 hc.2.1 hc.2.2.1 hc.2.2.2 e
  go := fun elts k pos i T s Q E hm hq => by
    obtain ⟨⟨hz, r⟩, _⟩ := hm
    refine wpAny_letOwnedTupleGo_zip hz fun h' hz' hs' => hq h' ?_ fun c o hc e => hs'.extBut _ _ (fun q => hc (by simp [q])) e
    obtain ⟨hTI, ⟨a, b, hTO⟩, h1, h2, ht1, ht2⟩ := r
    exact ⟨hz', hs'.extBut _ _ D.e1.1 hTI, ⟨a, b, hs'.extBut _ _ D.d1 hTO⟩, h1.extBut hs'.extBut D.d2, h2.extBut hs'.extBut D.d3, ht1.extBut hs'.extBut D.e2.1, ht2.extBut hs'.extBut D.e3.1⟩
  apart := fun i T h hm => hm.2
  done := fun s Q E st hq => by
    obtain ⟨hz, hTI, ⟨a, b, hTO⟩, h1, h2, ht1, ht2⟩ := st
    have hT : s.TypeIs (.ref z) "zip" := ⟨_, hz, rfl⟩
    unfold pyNext
    refine wpAny_bind (wpAny_attempt (wpAny_callSpecial?_slot (name := Str.ofString "__next__") hT PySem.F.slot_zip_next (wpAny_call_entry PySem.F.slot_zip_next hT PySem.F.entry_zip_next
      (zt_end (X := ⟨prog, w, prog, [], fun _ => none, fun _ => none, fun _ => none, fun _ _ => False⟩) hh D hz hTI hTO h1 h2 ht1 (by simp) fun h' e rest he => ?_) (PySem.F.args_zip_next_1 _))))
    obtain ⟨o, ho, hc⟩ := he
    refine wpAny_bind (wpAny_isInstance (T := "StopIteration") (b := true) ⟨o, ho, hc⟩ isSubtype_stop (wpAny_pure (hq h' s.toks fun c o hc e => ?_)))
    simp only [List.mem_cons, List.not_mem_nil, or_false, not_or] at hc
    exact rest c o hc.1 hc.2.1 hc.2.2.1 hc.2.2.2 e
  self := fun i s Q E st hq => wpAny_pyIter_zip st.1 hq

/-! ### zip(t1, t2) -/
noncomputable def zit (h : Heap) (t : Addr) : Heap := h.push { cls := .type "tuple_iterator", data := .fields #[.ref t, .int 0 0] }
noncomputable def zits (h : Heap) (t1 t2 : Addr) : Heap := zit (zit h t1) t2
noncomputable def zti (h : Heap) (t1 t2 : Addr) : Heap := (zits h t1 t2).push { cls := .type "tuple", data := .seq #[.ref h.objs.size, .ref (zit h t1).objs.size] }
noncomputable def zto (h : Heap) (t1 t2 : Addr) : Heap := (zti h t1 t2).push { cls := .type "tuple", data := .seq #[.none, .none] }
noncomputable def zall (h : Heap) (t1 t2 : Addr) : Heap := (zto h t1 t2).push { cls := .type "zip", data := .fields #[.none, .bool false, .bool false, .ref (zits h t1 t2).objs.size, .ref (zti h t1 t2).objs.size] }

theorem zip_made (t1 t2 : Addr) (xs ys : Array Value) : Meets (Builtin.«zip.__new__» ⟨[.type "zip", .ref t1, .ref t2], []⟩) (fun _ R s => s.heap.IsTuple t1 xs ∧ s.heap.IsTuple t2 ys ∧
      R (.ok (.ret (.ref (zto s.heap t1 t2).objs.size))) { s with heap := zall s.heap t1 t2 }) :=
  .of_wp fun prog w A R s h => by
    obtain ⟨hp, g, d, tk, os⟩ := s; obtain ⟨h1, h2, h⟩ := h
    have hsub := sub_zip
    have hL1 : Heap.IsTuple (Shared.heap ⟨hp, g, d, tk, os⟩) t1 xs := h1
    have hL2 : Heap.IsTuple (Shared.heap ⟨hp.push { cls := .type "tuple_iterator", data := .fields #[.ref t1, .int 0 0] }, g, d, tk, os⟩) t2 ys := Heap.IsTuple.push h2 _
    wp_walk using wpAny_pyIter_tuple hL1, wpAny_pyIter_tuple hL2
    exact ⟨_, rfl, h⟩

theorem zip_call {X : Wd} {A : Around} {E : Value → Shared → Prop} {s : Shared} {t1 t2 : Addr} {xs ys : List Value} {Q : Value → Shared → Prop} (h1 : s.heap.IsTuple t1 xs.toArray) (h2 : s.heap.IsTuple t2 ys.toArray)
    (hq : ∀ h' z TI TO i1 i2, ZD z TI TO i1 i2 t1 t2 → ZSt z TI TO i1 i2 t1 t2 xs ys .none 0 h' → (∀ c o, s.heap.get? c = some o → h'.get? c = some o) → (∀ b ∈ [z, TI, TO, i1, i2], s.heap.objs.size ≤ b) → Q (.ref z) { s with heap := h' }) :
    wpAny X.M A (call (.type "zip") [.ref t1, .ref t2]) Q E s := by
  refine callType_new PySem.F.called_zip (by decide) (PySem.F.typeCall_zip_2 _ _) (PySem.F.newCall_zip_2 _ _) (fun obj => PySem.F.args_object_init_3 obj _ _) PySem.F.entry_zip_new (zip_made t1 t2 xs.toArray ys.toArray) ⟨h1, h2, ?_⟩
  generalize hn : s.heap.objs.size = n
  have z1 : (zit s.heap t1).objs.size = n + 1 := by rw [zit, Heap.size_push, hn]
  have z2 : (zits s.heap t1 t2).objs.size = n + 2 := by rw [zits, zit, Heap.size_push, z1]
  have z3 : (zti s.heap t1 t2).objs.size = n + 3 := by rw [zti, Heap.size_push, z2]
  have z4 : (zto s.heap t1 t2).objs.size = n + 4 := by rw [zto, Heap.size_push, z3]
  have g5 : (zall s.heap t1 t2).get? (n + 4) = some { cls := .type "zip", data := .fields #[.none, .bool false, .bool false, .ref (n + 2), .ref (n + 3)] } := by rw [← z4, ← z2, ← z3]; exact Heap.get?_push_size _ rfl
  have g4 : (zall s.heap t1 t2).get? (n + 3) = some { cls := .type "tuple", data := .seq #[.none, .none] } := by rw [← z3]; exact Heap.get?_push_of_some _ (Heap.get?_push_size _ rfl)
  have g3 : (zall s.heap t1 t2).get? (n + 2) = some { cls := .type "tuple", data := .seq #[.ref n, .ref (n + 1)] } := by
    have : (zall s.heap t1 t2).get? (zits s.heap t1 t2).objs.size = some { cls := .type "tuple", data := .seq #[.ref s.heap.objs.size, .ref (zit s.heap t1).objs.size] } := Heap.get?_push_of_some _ (Heap.get?_push_of_some _ (Heap.get?_push_size _ rfl))
    rw [z2, z1, hn] at this; exact this
  have g2 : (zall s.heap t1 t2).get? (n + 1) = some { cls := .type "tuple_iterator", data := .fields #[.ref t2, .int 0 0] } := by rw [← z1]; exact Heap.get?_push_of_some _ (Heap.get?_push_of_some _ (Heap.get?_push_of_some _ (Heap.get?_push_size _ rfl)))
  have g1 : (zall s.heap t1 t2).get? n = some { cls := .type "tuple_iterator", data := .fields #[.ref t1, .int 0 0] } := by rw [← hn]; exact Heap.get?_push_of_some _ (Heap.get?_push_of_some _ (Heap.get?_push_of_some _ (Heap.get?_push_of_some _ (Heap.get?_push_size _ rfl))))
  have kp : ∀ c o, s.heap.get? c = some o → (zall s.heap t1 t2).get? c = some o := fun c o e => Heap.get?_push_of_some _ (Heap.get?_push_of_some _ (Heap.get?_push_of_some _ (Heap.get?_push_of_some _ (Heap.get?_push_of_some _ e))))
  have l1 : t1 < n := by obtain ⟨o, e, _⟩ := h1; rw [← hn]; exact Heap.lt_size e
  have l2 : t2 < n := by obtain ⟨o, e, _⟩ := h2; rw [← hn]; exact Heap.lt_size e
  show _ ∧ _
  rw [z4]
  refine ⟨⟨_, g5, rfl⟩, hq _ (n + 4) (n + 2) (n + 3) n (n + 1) ?_ ⟨g5, g3, ⟨_, _, g4⟩, ⟨_, g1, rfl, rfl⟩, ⟨_, g2, rfl, rfl⟩, ?_, ?_⟩ kp ?_⟩
  · have hl1 : ∀ j : Nat, t1 ≠ n + j := fun j => Nat.ne_of_lt (Nat.lt_of_lt_of_le l1 (Nat.le_add_right _ _))
    have hl2 : ∀ j : Nat, t2 ≠ n + j := fun j => Nat.ne_of_lt (Nat.lt_of_lt_of_le l2 (Nat.le_add_right _ _))
    have ne : ∀ i j : Nat, i ≠ j → (n + i : Nat) ≠ n + j := fun i j h => by omega
    exact ⟨ne 3 4 (by decide), ne 0 4 (by decide), ne 1 4 (by decide), ne 3 0 (by decide), ne 3 1 (by decide), ne 0 1 (by decide), ⟨ne 2 4 (by decide), ne 2 3 (by decide), ne 2 0 (by decide), ne 2 1 (by decide)⟩, ⟨hl1 4, hl1 3, hl1 0, hl1 1⟩, ⟨hl2 4, hl2 3, hl2 0, hl2 1⟩⟩
  · obtain ⟨o, e, r⟩ := h1; exact ⟨o, kp _ _ e, r⟩
  · obtain ⟨o, e, r⟩ := h2; exact ⟨o, kp _ _ e, r⟩
  · intro b hb
    simp only [List.mem_cons, List.not_mem_nil, or_false] at hb
    rw [hn]
    rcases hb with rfl | rfl | rfl | rfl | rfl
    · exact Nat.le_add_right _ _
    · exact Nat.le_add_right _ _
    · exact Nat.le_add_right _ _
    · exact Nat.le_refl _
    · exact Nat.le_add_right _ _
end Mine
end

section
set_option linter.unusedVariables false
namespace Mine
variable {c : Cx} {ρ : AEnv}

/-- the code of a generator expression: the table grows, or it is there -/
theorem wp_genCode {X : Wd} {A : Around} {E : Value → Shared → Prop} {s : Shared} {env : Env} {cA P : Addr} {pos : Pos} {qn : Str} {scope : Scope} {Q : Value → Shared → Prop} (T : X.Tp s.heap) (hc : env.code = .ref cA) (hct : X.ct cA P)
    (hq : ∀ code h' tk, Kp X s.heap h' → Q code { s with heap := h', toks := tk }) : wpAny X.M A (genexprCode env pos qn scope) Q E s := by
  obtain ⟨ps, h1, h2⟩ := T.tab cA P hct
  have htr : TabAt s.heap P := T.tb cA P hct
  cases hf : codeAmong pos ps.toList with
  | some cv => exact wpAny_genexprCode_hit hc h1 hf (hq cv s.heap s.toks .refl)
  | none =>
    refine wpAny_genexprCodeX hc h1 h2 hf fun c' h' tk hx _ _ hcode _ htab _ => hq _ h' tk ?_
    have hP : TabAt h' P := by
      obtain ⟨o, vs, file, tf, flags, tg, inF, text, tt, op, ho, hd, h11, r1, r2, r3, r4, hop, hpd, htr, hne⟩ := hcode
      exact ⟨_, htab.2, _, rfl, htr⟩
    refine ⟨fun b o e n => hx b o (fun q => ?_) e, fun P' o e t => ?_⟩
    · subst q; obtain ⟨o', e', t'⟩ := htr; rw [e] at e'; cases e'; exact n t'
    · by_cases q : P' = P
      · subst q
        obtain ⟨o', e', t'⟩ := hP
        have ho : o = { cls := .none, data := .fields ps } := Option.some.inj (e.symm.trans h2.2)
        have ho' := Option.some.inj (e'.symm.trans htab.2)
        exact ⟨o', e', t', .inr ⟨⟨cA, hct⟩, ps, _, ho, ho'⟩⟩
      · exact ⟨o, hx P' o q e, t, .inl rfl⟩

theorem passing_all (n : Nat) : passing (fun _ => true) n 0 = List.range n := by
  unfold passing; simp

theorem relAll_of {X : Wd} {G : Fz} {vs : List Value} {ns : List Int} (hl : vs.length = ns.length) (h : ∀ j v, vs[j]? = some v → ∃ t, v = Value.int (ns.getD j 0) t) : RelAll X G vs (ns.map D.int) := by
  induction vs generalizing ns with
  | nil => cases ns with
    | nil => exact .nil
    | cons => cases hl
  | cons v vs ih => cases ns with
    | nil => cases hl
    | cons n ns =>
      obtain ⟨t, e⟩ := h 0 v rfl
      simp at e
      subst e
      exact .cons (.int _ _) (ih (by simpa using hl) fun j v hv => by have := h (j + 1) v (by simpa using hv); simpa using this)

/-- tuple((x + y for x, y in zip(e1, e2))) over two tuples of ints -/
theorem Ev.tupleZip {e1 e2 : PySem.Expr} {xa xb : Str} {pa pb pt na nb bp zp cp gp fp pos : Pos} {kt : Nat} {scope : Scope} {ns ms : List Int} (hmg : c.X.mg "tuple" = none) (hmb : c.X.mb "tuple" = some (.type "tuple")) (hmgz : c.X.mg "zip" = none) (hmbz : c.X.mb "zip" = some (.type "zip"))
    (h1 : Ev c ρ e1 (.tuple (ns.map D.int))) (h2 : Ev c ρ e2 (.tuple (ms.map D.int))) (hl : ns.length = ms.length) (hl' : ns.length ≤ 1000)
    (hf : c.sc.names.lookup (Str.ofString "tuple") = some .globalImplicit) (hfz : c.sc.names.lookup (Str.ofString "zip") = some .globalImplicit)
    (hst : ∀ env, starEach [e1, e2] env = [e1, e2].map fun e => (false, eval e env))
    (hs1 : ∀ env, starEach [e1, e2] env = (false, eval e1 env) :: starEach [e2] env) (hs2 : ∀ env, starEach [e2] env = (false, eval e2 env) :: starEach [] env)
    (hco : scope.isCoroutine = false) (hfree : ∀ y ∈ scope.names, y.2 ≠ .free) (hcell : ∀ y ∈ scope.names, y.2 ≠ .cell) (h0 : scope.names.lookup (".0" : Str) = some NameKind.local)
    (hxa : scope.names.lookup xa = some .local) (hxb : scope.names.lookup xb = some .local) (hab : xa ≠ xb) (hkind : scope.kind = .function)
    (hda : (xa == ("__debug__" : Str)) = false) (hdb : (xb == ("__debug__" : Str)) = false)
    (hs : ∀ env x, genFold (.Call (.Name "zip" zp) [e1, e2] [] cp) env x = pure x) :
    Ev c ρ (.Call (.Name "tuple" fp) [.GeneratorExp (.BinOp (.Name xa na) .Add (.Name xb nb) bp) [⟨.Tuple [.Name xa pa, .Name xb pb] kt pt, .Call (.Name "zip" zp) [e1, e2] [] cp, [], 0⟩] scope gp] [] pos) (.tuple ((List.zipWith (· + ·) ns ms).map D.int)) := by
  intro env A B G s he hr F Q hq
  show wpAny c.X.M A (eval (.Name "tuple" fp) env >>= fun fv => callWith pos fv [] (backTo pos (starEach [.GeneratorExp (.BinOp (.Name xa na) .Add (.Name xb nb) bp) [⟨.Tuple [.Name xa pa, .Name xb pb] kt pt, .Call (.Name "zip" zp) [e1, e2] [] cp, [], 0⟩] scope gp] env)) []) Q NoE s
  refine wpAny_bind (Calls.Name_function_global he.k (by rw [he.kindOf]; exact hf) (loadGlobalB he F.tph hmg hmb ?_) (by decide))
  refine PySem.callWith_type rfl (evalArgs_of rfl (wpAny_items_cons ?_ rfl))
  obtain ⟨cl, hclos, _, _⟩ := closureFor_of (env := env) (scope := scope) fun x hx => absurd rfl (hfree _ hx)
  obtain ⟨cA, P, hcode, hct⟩ := F.cd
  refine wpAny_GeneratorExp_walksQT hr.hd hco hclos hcell h0 hxa hxb hab hkind (by have := hr.dp; omega) ?_ (hs env)
  refine wp_tcall he hr F hfz hmgz hmbz (.cons h1 (.cons h2 .nil hs2) hs1) (hst env) (by decide) fun vs s₁ G₁ st₁ g₁ r₁ => ?_
  cases r₁ with
  | cons ra r₁ => cases r₁ with
    | cons rb r₁ => cases r₁ with
      | nil => cases ra with
        | @tuple t1 o1 xs _ q1 q2 q3 => cases rb with
          | @tuple t2 o2 ys _ k1 k2 k3 =>
            refine zip_call (X := c.X) (q2.isTuple (g₁.hold.get _ _ q1)) (k2.isTuple (g₁.hold.get _ _ k1)) fun h₂ z TI TO i1 i2 DD st0 kp2 hab' => ?_
            refine wpAny_pyIter_zip st0.1 ⟨(F.tph.keeps (st₁.heap.trans (.of kp2))).nolimit, ?_⟩
            have T₂ := F.tph.keeps (st₁.heap.trans (.of kp2))
            refine wp_genCode T₂ hcode hct fun code h₃ tk₃ kp3 => ?_
            have T₃ := T₂.keeps kp3
            obtain ⟨bm, ob, b1, b2, b3, b4, b5, b6⟩ := T₃.bmain
            refine wpAny_builtinsFor (m := c.X.mg) (by rw [he.gl]; exact T₃.g) b1 b2 b3 b4 b5 b6 ?_
            have hlen : xs.length = ys.length := by rw [q3.length, k3.length, List.length_map, List.length_map, hl]
            have hxl : xs.length = ns.length := by rw [q3.length, List.length_map]
            -- the zip's state is untouched by the code's making
            have st3 : ZSt z TI TO i1 i2 t1 t2 xs ys .none 0 h₃ := by
              obtain ⟨w1, w2, ⟨a, b, w3⟩, ⟨o4, w4, c4, r4⟩, ⟨o5, w5, c5, r5⟩, ⟨o6, w6, c6, r6⟩, ⟨o7, w7, c7, r7⟩⟩ := st0
              exact ⟨kp3.get _ _ w1 (nt_cls rfl), kp3.get _ _ w2 (nt_cls rfl), ⟨a, b, kp3.get _ _ w3 (nt_cls rfl)⟩, ⟨o4, kp3.get _ _ w4 (nt_cls c4), c4, r4⟩, ⟨o5, kp3.get _ _ w5 (nt_cls c5), c5, r5⟩, ⟨o6, kp3.get _ _ w6 (nt_cls c6), c6, r6⟩, ⟨o7, kp3.get _ _ w7 (nt_cls c7), c7, r7⟩⟩
            have hwr : ∀ b ∈ [z, TO, i1, i2], s₁.heap.objs.size ≤ b := fun b hb => hab' b (by simp only [List.mem_cons, List.not_mem_nil, or_false] at hb ⊢; rcases hb with rfl | rfl | rfl | rfl <;> simp)
            have hltc : cStatics < s₁.heap.objs.size := by obtain ⟨mc, hn, _⟩ := (F.tph.keeps st₁.heap).nolimit; exact hn.lt
            refine ⟨z, [z, TI, TO, i1, i2, t1, t2], [z, TO, i1, i2], xs.length, (fun i vals => ∃ x y, xs[i]? = some x ∧ ys[i]? = some y ∧ vals = #[x, y]), _, _, (fun _ => true), (fun i y => ∃ t, y = .int ((List.zipWith (· + ·) ns ms).getD i 0) t), rfl, (fun A' hA => zipWalk hA DD hlen),
              (fun i vals ⟨x, y, _, _, e⟩ => ⟨x, y, e⟩), st3, ?_, T₃.nolimit, ?_, ?_, ?_⟩
            · intro b hb
              obtain ⟨w1, w2, ⟨a, b', w3⟩, ⟨o4, w4, c4, r4⟩, ⟨o5, w5, c5, r5⟩, ⟨o6, w6, c6, r6⟩, ⟨o7, w7, c7, r7⟩⟩ := st3
              simp only [List.mem_cons, List.not_mem_nil, or_false] at hb
              rcases hb with rfl | rfl | rfl | rfl | rfl | rfl | rfl
              · exact Heap.lt_size w1
              · exact Heap.lt_size w2
              · exact Heap.lt_size w3
              · exact Heap.lt_size w4
              · exact Heap.lt_size w5
              · exact Heap.lt_size w6
              · exact Heap.lt_size w7
            · intro hm; exact Nat.lt_irrefl _ (Nat.lt_of_lt_of_le hltc (hwr _ hm))
            · intro href _
              refine ⟨fun A' E' i va vb s₂ m₂ hA hP hn ha hb hk => wpAny_tests_nil ⟨rfl, s₂.heap, s₂.toks, rfl, fun _ _ e => e⟩, fun A' E' i va vb s₂ m₂ hA hP _ hn ha hb hk => ?_⟩
              obtain ⟨x, y, hx, hy, e⟩ := hP
              have e' := congrArg Array.toList e
              simp at e'
              obtain ⟨rfl, rfl⟩ := e'
              obtain ⟨ta, rfl⟩ := q3.ints hx
              obtain ⟨tb, rfl⟩ := k3.ints hy
              have hkk : (genEnv scope cl h₃.objs.size code builtinsNs env).scope.kind = .function := hkind
              refine wpAny_BinOp (wpAny_Name (wpAny_loadName_local hkk hxa hn ha (wpAny_Name (wpAny_loadName_local hkk hxb hn hb (PyProof.Rows.add_int ?_)) hdb)) hda)
              refine ⟨⟨s₂.toks, ?_⟩, s₂.heap, s₂.toks + 1, rfl, fun _ _ e => e⟩
              have hi : i < xs.length := (List.getElem?_eq_some_iff.mp hx).1
              congr 1
              simp [List.getD, List.getElem?_zipWith, List.getElem?_eq_getElem (show i < ns.length by omega), List.getElem?_eq_getElem (show i < ms.length by omega)]
            · intro a h₅ tk gs hbare hlt hsz kp5 W hat
              refine wpAny_items_nil ?_
              have hn0 : (passing (fun _ => true) xs.length 0).length = xs.length := by rw [passing_all, List.length_range]
              refine call_tuple_gen W.in4_3 (fun i s' hs' => by obtain ⟨⟨o, nm, qn, ho, hcl, _⟩, _⟩ := hs'; exact ⟨o, ho, hcl⟩) hat ?_ (by simp) ?_ (by rw [hn0, hxl, sizeLine_eq]; omega)
              · intro b hb
                show b < h₅.objs.size
                rw [hsz]
                rcases List.mem_cons.mp hb with e | hb
                · rw [e]; exact Nat.lt_succ_self _
                · rcases List.mem_cons.mp hb with e | hb
                  · rw [e]; exact Nat.lt_succ_of_lt hlt
                  · exact Nat.lt_succ_of_lt (Nat.lt_trans (List.mem_range.mp hb) hlt)
              · intro s' acc hm hacc
                rw [hn0] at hacc
                have kpm : Kp c.X s₁.heap s'.heap := by
                  have k3 : Kp c.X s₁.heap h₃ := (Kp.of kp2).trans kp3
                  have k5 : ∀ b o, h₃.get? b = some o → h₅.get? b = some o := kp5
                  have k6 : ∀ b o, b < s₁.heap.objs.size → h₅.get? b = some o → s'.heap.get? b = some o := fun b o hb e => hm.heap b o (fun hw => by
                    rcases List.mem_cons.mp hw with q | hw
                    · have hge : s₁.heap.objs.size ≤ h₃.objs.size := by
                        cases hle : Nat.decLe s₁.heap.objs.size h₃.objs.size with
                        | isTrue h => exact h
                        | isFalse h =>
                          exfalso
                          have : z < h₃.objs.size := Heap.lt_size st3.1
                          exact h (Nat.le_of_lt (Nat.lt_of_le_of_lt (hwr z (by simp)) this))
                      exact Nat.lt_irrefl _ (Nat.lt_of_lt_of_le (q ▸ hb) hge)
                    · exact Nat.lt_irrefl _ (Nat.lt_of_lt_of_le hb (hwr b hw))) e
                  refine ⟨fun b o e n => k6 b o (Heap.lt_size e) (k5 b o (k3.get b o e n)), fun P' o₀ e₀ t => ?_⟩
                  obtain ⟨o', e', t'⟩ := k3.tab P' o₀ e₀ t
                  exact ⟨o', k6 P' o' (Heap.lt_size e₀) (k5 P' o' e'), t'⟩
                have hkf : Kp c.X s₁.heap (s'.heap.push { cls := .type "tuple", data := .seq acc }) := kpm.trans .push
                refine hq _ _ (G₁.put s'.heap.objs.size { cls := .type "tuple", data := .seq acc }) ⟨st₁.heap.trans hkf, fun g => ?_, ?_, ?_⟩ (g₁.trans st₁.heap (.put g₁.hold hkf (kpm.fresh (get?_size _)) (Heap.get?_push_size _ rfl))) (.tuple (vs := acc.toList) Fz.put_self ⟨rfl, 0, by simp⟩ (relAll_of ?_ fun j v hv => ?_))
                · exact AllBare.moved (AllBare.push (st₁.gens g) hbare) hm.gens
                · exact hm.drawn.trans st₁.drawn
                · exact hm.os.trans st₁.os
                · rw [Array.length_toList, hacc.1, List.length_zipWith, hxl]; omega
                · obtain ⟨i, hi, t, ht⟩ := hacc.2 j v (by simpa using hv)
                  rw [passing_all] at hi
                  have : i = j := by
                    have := List.getElem?_eq_some_iff.mp hi
                    obtain ⟨hj, e⟩ := this
                    simp at e; exact e.symm
                  subst this
                  exact ⟨t, ht⟩
end Mine
end

section
set_option linter.unusedVariables false
namespace Mine
variable {c : Cx} {ρ : AEnv}

/-- range(0, 12, 3) -/
theorem EvIt.range12 {e₁ e₂ e₃ tgt : PySem.Expr} {fpos pos : Pos} (hmg : c.X.mg "range" = none) (hmb : c.X.mb "range" = some (.type "range")) (h₁ : Ev c ρ e₁ (.int 0)) (h₂ : Ev c ρ e₂ (.int 12)) (h₃ : Ev c ρ e₃ (.int 3))
    (hf : c.sc.names.lookup (Str.ofString "range") = some .globalImplicit) (hst : ∀ env, starEach [e₁, e₂, e₃] env = [e₁, e₂, e₃].map fun e => (false, eval e env))
    (hs1 : ∀ env, starEach [e₁, e₂, e₃] env = (false, eval e₁ env) :: starEach [e₂, e₃] env) (hs2 : ∀ env, starEach [e₂, e₃] env = (false, eval e₂ env) :: starEach [e₃] env) (hs3 : ∀ env, starEach [e₃] env = (false, eval e₃ env) :: starEach [] env) :
    EvIt c ρ tgt (.Call (.Name "range" fpos) [e₁, e₂, e₃] [] pos) [.int 0, .int 3, .int 6, .int 9] := fun env A B G s Q he hr F hq =>
  wp_tcall he hr F hf hmg hmb (.cons h₁ (.cons h₂ (.cons h₃ .nil hs3) hs2) hs1) (hst env) (by decide) fun vs s₁ G₁ st₁ g₁ r₁ => by
    cases r₁ with
    | cons r r' => cases r' with
      | cons r2 r' => cases r' with
        | cons r3 r' =>
          cases r'
          cases r with
          | int _ t => cases r2 with
            | int _ u => cases r3 with
              | int _ w =>
                refine call_range_3 (by decide) ?_ (.inl (PyProof.noPylong_small (by decide)))
                obtain ⟨p1, p2, p3, p4, p5⟩ := itFresh st₁ g₁ { cls := .type "range", data := .fields #[.int 0 t, .int 12 u, .int 3 w] }
                refine wpAny_pyIter_range (IsRange.new ..) (by decide) ?_
                obtain ⟨q1, q2, q3, q4, q5⟩ := itFresh (s₁ := { s₁ with heap := s₁.heap.push { cls := .type "range", data := .fields #[.int 0 t, .int 12 u, .int 3 w] } }) p1 p2 { cls := .type "range_iterator", data := .fields #[rawInt 0, rawInt (Builtin.Range.rangeSize 0 12 3), rawInt 3] }
                exact hq _ _ G₁ _ _ q1 q2 q3 q4 q5 (Iter.range hr.hd) ⟨0, 3, 4, rfl, rfl⟩
end Mine
end

section
open AutoSeq1 (wpAny_loadPart')
open SeqAt MeetsSeq MeetsSeq2 MeetsSeq3
set_option linter.unusedVariables false
set_option maxRecDepth 100000
namespace Mine

/-! ## what is equal is found equal -/
noncomputable def EqT (X : Wd) (A : Around) (s : Shared) (y x : Value) : Prop := ∀ (E : Value → Shared → Prop) (Q : Bool → Shared → Prop), Q true s → wpAny X.M A (eqBool y x) Q E s
noncomputable def RcT (X : Wd) (A : Around) (s : Shared) (y x : Value) : Prop := ∀ (E : Value → Shared → Prop) (Q : Value → Shared → Prop), Q (.bool true) s → wpAny X.M A (richCompare .Eq y x) Q E s

section
variable {X : Wd} {A : Around} {s : Shared}
theorem EqT.of {y x : Value} (h : EqAt A s y x true) : EqT X A s y x := fun E Q q => h _ _ E Q q
theorem EqT.refs {l b : Addr} (h : l ≠ b → RcT X A s (.ref l) (.ref b)) : EqT X A s (.ref l) (.ref b) := by
  by_cases e : l = b
  · subst e; exact .of (EqAt.same _)
  · intro E Q q
    unfold eqBool
    refine wpAny_holding (wpAny_ite_split (fun hab => absurd (by have := eq_of_beq hab; injection this) e) fun _ => wpAny_bind (h e E _ (wpAny_truthy_bool q)))

/-- pairs all equal -/
noncomputable def EqTs (X : Wd) (A : Around) (s : Shared) (vs ws : List Value) : Prop := vs.length = ws.length ∧ ∀ p ∈ vs.zip ws, EqT X A s p.1 p.2

theorem tup_eq {l b : Addr} {o o' : Obj} {vs ws : List Value} (ho : s.heap.get? l = some o) (hl : TupO o vs) (ho' : s.heap.get? b = some o') (hb : TupO o' ws) (hu : A.units < cLine) (h : EqTs X A.in1 s vs ws) : RcT X A s (.ref l) (.ref b) := fun E Q q => by
  obtain ⟨cls, dd, data, sl⟩ := o
  obtain ⟨cls2, dd2, data2, sl2⟩ := o'
  obtain ⟨hc, n, hd⟩ := hl
  obtain ⟨hc2, n2, hd2⟩ := hb
  simp only at hc hd hc2 hd2
  subst hc hd hc2 hd2
  refine wpAny_richCompare_same_room (op := .Eq) ⟨_, ho, rfl⟩ ⟨_, ho', rfl⟩ PySem.F.slot_tuple_eq ?_ hu
  refine call_meetsIn (S := fun A R s' => s' = s ∧ EqTs X A.in1 s vs ws ∧ R (.ok (.ret (.bool true))) s) PySem.F.slot_tuple_eq ⟨_, ho, rfl⟩ PySem.F.entry_tuple_eq (PySem.F.args_tuple_eq_2 _ _) (.of_wp fun A R s' hs => ?_) ⟨rfl, h, (fun e => nomatch e), q⟩
  obtain ⟨rfl, ⟨hlen, he⟩, hR⟩ := hs
  obtain ⟨hp, g, d, tk, os⟩ := s'
  have f2 := AutoSeq1.sub_tuple_tuple
  wp_walk using wpAny_loadPart' ho, wpAny_loadPart' ho', wpAny_forIn_list _ (fun rest b s' => b.1 = none ∧ s' = (⟨hp, g, d, tk, os⟩ : Shared) ∧ ∀ p ∈ rest, EqT X A.in1 ⟨hp, g, d, tk, os⟩ p.1 p.2) _
  case turn =>
    rintro ⟨y, x⟩ rest b s' ⟨hb', rfl, hall⟩
    refine wpAny_bind (hall (y, x) List.mem_cons_self _ _ ?_)
    wp_walk
    exact ⟨rfl, rfl, fun p hp => hall p (List.mem_cons_of_mem _ hp)⟩
  case fin =>
    rintro ⟨b1, b2⟩ s' ⟨hb', rfl, _⟩
    simp only at hb'
    subst hb'
    wp_walk
    exact ⟨_, rfl, by simpa [Builtin.Tuple.tupleCompareSizes, hlen] using hR⟩
  case h =>
    exact ⟨rfl, rfl, fun p hp => he p (by simpa using hp)⟩

/-- the loop over two lists, all pairs equal -/
theorem lst_loop {l b : Addr} {vs ws : List Value} {n n2 : Nat} (code : Int) (res : Bool) (hcode : (code = 2 ∧ res = true) ∨ (code = 3 ∧ res = false)) (hlen : vs.length = ws.length) : ∀ (m i : Nat), vs.length - i = m →
    MeetsIn X.prog X.w (Builtin.«list.__eq__.loop» ⟨[.ref l, .ref b, rawInt i, rawInt code], []⟩) (fun A R s => s.heap.get? l = some { cls := .type "list", data := .seq vs.toArray n } ∧ s.heap.get? b = some { cls := .type "list", data := .seq ws.toArray n2 } ∧
      (∀ p ∈ vs.zip ws, EqT X A.in1 s p.1 p.2) ∧ R (.ok (.ret (.bool res))) s) := by
  intro m
  induction m with
  | zero =>
    intro i hm A R s h
    obtain ⟨hp, g, d, tk, os⟩ := s
    obtain ⟨hl, hb, he, hR⟩ := h
    have hi1 : vs.toArray[((i : Nat) : Int).toNat]? = none := by simp; omega
    have hi2 : ws.toArray[((i : Nat) : Int).toNat]? = none := by simp; omega
    rcases hcode with ⟨rfl, rfl⟩ | ⟨rfl, rfl⟩
    · wp_walk using wpAny_loadPart' hl, wpAny_loadPart' hb
      rw [hi1, hi2]
      wp_walk using wpAny_loadPart' hl, wpAny_loadPart' hb
      show R (.ok (.ret (.bool (vs.toArray.size == ws.toArray.size)))) _
      simpa [hlen] using hR
    · wp_walk using wpAny_loadPart' hl, wpAny_loadPart' hb
      rw [hi1, hi2]
      wp_walk using wpAny_loadPart' hl, wpAny_loadPart' hb
      show R (.ok (.ret (.bool (vs.toArray.size != ws.toArray.size)))) _
      simpa [hlen] using hR
  | succ m ih =>
    intro i hm A R s h
    obtain ⟨hp, g, d, tk, os⟩ := s
    obtain ⟨hl, hb, he, hR⟩ := h
    have h1 : i < vs.length := by omega
    have h2 : i < ws.length := by omega
    have hi1 : vs.toArray[((i : Nat) : Int).toNat]? = some vs[i] := by simp [h1]
    have hi2 : ws.toArray[((i : Nat) : Int).toNat]? = some ws[i] := by simp [h2]
    have hpm : (vs[i], ws[i]) ∈ vs.zip ws := by
      rw [List.mem_iff_getElem?]
      exact ⟨i, by simp [List.getElem?_zip_eq_some, h1, h2]⟩
    have hc : ((i : Int) + 1) = ((i + 1 : Nat) : Int) := by push_cast; rfl
    rcases hcode with ⟨rfl, rfl⟩ | ⟨rfl, rfl⟩
    · wp_walk using wpAny_loadPart' hl, wpAny_loadPart' hb
      rw [hi1, hi2]
      refine wpAny_bind (he _ hpm _ _ ?_)
      wp_walk
      rw [hc]
      exact ⟨plainId_quiet plain_eq_loop _, codeAny_builtin entry_eq_loop (by
        rw [Around.under_plainId plain_eq_loop _]
        exact ih (i + 1) (by omega) A R _ ⟨hl, hb, he, hR⟩)⟩
    · wp_walk using wpAny_loadPart' hl, wpAny_loadPart' hb
      rw [hi1, hi2]
      refine wpAny_bind (he _ hpm _ _ ?_)
      wp_walk
      rw [hc]
      exact ⟨plainId_quiet plain_eq_loop _, codeAny_builtin entry_eq_loop (by
        rw [Around.under_plainId plain_eq_loop _]
        exact ih (i + 1) (by omega) A R _ ⟨hl, hb, he, hR⟩)⟩

theorem lst_eq {l b : Addr} {o o' : Obj} {vs ws : List Value} (ho : s.heap.get? l = some o) (hl : LstO o vs) (ho' : s.heap.get? b = some o') (hb : LstO o' ws) (hu : A.units < cLine) (h : EqTs X A.in1 s vs ws) : RcT X A s (.ref l) (.ref b) := fun E Q q => by
  obtain ⟨n, rfl⟩ := hl
  obtain ⟨n2, rfl⟩ := hb
  refine wpAny_richCompare_same_room (op := .Eq) ⟨_, ho, rfl⟩ ⟨_, ho', rfl⟩ PySem.F.slot_list_eq ?_ hu
  refine call_meetsIn (S := fun A R s' => s' = s ∧ EqTs X A.in1 s vs ws ∧ R (.ok (.ret (.bool true))) s) PySem.F.slot_list_eq ⟨_, ho, rfl⟩ PySem.F.entry_list_eq (PySem.F.args_list_eq_2 _ _) (fun A R s' hs => ?_) ⟨rfl, h, (fun e => nomatch e), q⟩
  obtain ⟨rfl, ⟨hlen, he⟩, hR⟩ := hs
  obtain ⟨hp, g, d, tk, os⟩ := s'
  have f3 := AutoSeq1.sub_list_list
  have hne : ¬ (vs.toArray.size != ws.toArray.size) = true := by simp [hlen]
  wp_walk using wpAny_loadPart' ho, wpAny_loadPart' ho'
  exact ⟨plainId_quiet plain_eq_loop _, codeAny_builtin entry_eq_loop (by
    rw [Around.under_plainId plain_eq_loop _]
    exact lst_loop 2 true (.inl ⟨rfl, rfl⟩) hlen _ 0 rfl A R _ ⟨ho, ho', he, hR⟩)⟩

theorem lst_ne {l b : Addr} {o o' : Obj} {vs ws : List Value} {E : Value → Shared → Prop} {Q : Value → Shared → Prop} (ho : s.heap.get? l = some o) (hl : LstO o vs) (ho' : s.heap.get? b = some o') (hb : LstO o' ws) (hu : A.units < cLine) (h : EqTs X A.in1 s vs ws)
    (q : Q (.bool false) s) : wpAny X.M A (compareOp .NotEq (.ref l) (.ref b)) Q E s := by
  obtain ⟨n, rfl⟩ := hl
  obtain ⟨n2, rfl⟩ := hb
  refine wpAny_richCompare_same_room (op := .NotEq) ⟨_, ho, rfl⟩ ⟨_, ho', rfl⟩ PySem.F.slot_list_ne ?_ hu
  refine call_meetsIn (S := fun A R s' => s' = s ∧ EqTs X A.in1 s vs ws ∧ R (.ok (.ret (.bool false))) s) PySem.F.slot_list_ne ⟨_, ho, rfl⟩ PySem.F.entry_list_ne (PySem.F.args_list_ne_2 _ _) (fun A R s' hs => ?_) ⟨rfl, h, (fun e => nomatch e), q⟩
  obtain ⟨rfl, ⟨hlen, he⟩, hR⟩ := hs
  obtain ⟨hp, g, d, tk, os⟩ := s'
  have f3 := AutoSeq1.sub_list_list
  have hne : ¬ (vs.toArray.size != ws.toArray.size) = true := by simp [hlen]
  wp_walk using wpAny_loadPart' ho, wpAny_loadPart' ho'
  exact ⟨plainId_quiet plain_eq_loop _, codeAny_builtin entry_eq_loop (by
    rw [Around.under_plainId plain_eq_loop _]
    exact lst_loop 3 false (.inr ⟨rfl, rfl⟩) hlen _ 0 rfl A R _ ⟨ho, ho', he, hR⟩)⟩
end
end Mine
end

section
open SeqAt
set_option linter.unusedVariables false
namespace Mine

/-- a number, or a tuple of numbers -/
inductive Flt : D → Prop
  | int (i : Int) : Flt (.int i)
  | tuple (ns : List Int) : Flt (.tuple (ns.map D.int))

mutual
/-- equal for Python: dicts in any order -/
inductive DEq : Nat → D → D → Prop
  | int (n : Nat) (i : Int) : DEq n (.int i) (.int i)
  | str (n : Nat) (x : Str) : DEq n (.str x) (.str x)
  | tuple {n : Nat} {ds es : List D} : DEqs n ds es → DEq (n + 1) (.tuple ds) (.tuple es)
  | list {n : Nat} {ds es : List D} : DEqs n ds es → DEq (n + 1) (.list ds) (.list es)
  | dict {n : Nat} {kds kes : List (Str × D)} : kds.length = kes.length → (∀ k d, (k, d) ∈ kds → dget kes k = some d ∧ Flt d) → DEq (n + 3) (.dict kds) (.dict kes)
inductive DEqs : Nat → List D → List D → Prop
  | nil (n : Nat) : DEqs n [] []
  | cons {n : Nat} {d e : D} {ds es : List D} : DEq n d e → DEqs n ds es → DEqs n (d :: ds) (e :: es)
end

section
variable {X : Wd} {G : Fz} {s : Shared}

theorem flt_eq {A : Around} {d : D} {v u : Value} (hG : G.In s.heap) (hf : Flt d) (hv : Rel X G v d) (hu : Rel X G u d) (hA : A.units + 1 < cLine) : EqAt A s v u true := by
  cases hf with
  | int i =>
    cases hv with
    | int _ t1 => cases hu with
      | int _ t2 =>
        have := EqAt.int_int (A := A) (s := s) i t1 i t2
        rwa [beq_self_eq_true] at this
  | tuple ns =>
    cases hv with
    | @tuple a o vs _ h1 h2 h3 => cases hu with
      | @tuple b o' ws _ k1 k2 k3 =>
        by_cases e : a = b
        · subst e; exact EqAt.same _
        · refine EqAt.of_refs e ?_
          have hl : vs.length = ws.length := by rw [h3.length, k3.length]
          have := RcAt.tuples (A := A) (s := s) (e := fun _ => true) (h2.isTuple (hG.get _ _ h1)) (k2.isTuple (hG.get _ _ k1)) (by omega) fun j hj hj' => ?_
          · have e2 : ((List.range (min vs.toArray.size ws.toArray.size)).all (fun _ => true) && vs.toArray.size == ws.toArray.size) = true := by simp [hl]
            rw [e2] at this; exact this
          · have hj1 : j < vs.length := by simpa using hj
            have hj2 : j < ws.length := by simpa using hj'
            obtain ⟨t, e1⟩ := h3.ints (i := j) (v := vs[j]) (by simp [hj1])
            obtain ⟨t', e2⟩ := k3.ints (i := j) (v := ws[j]) (by simp [hj2])
            have e3 : vs.toArray[j] = .int (ns.getD j 0) t := by simpa using e1
            have e4 : ws.toArray[j] = .int (ns.getD j 0) t' := by simpa using e2
            rw [e3, e4]
            have := EqAt.int_int (A := A.in1) (s := s) (ns.getD j 0) t (ns.getD j 0) t'
            rwa [beq_self_eq_true] at this

theorem in1_units (A : Around) : A.in1.units ≤ A.units + 1 := by first | exact Nat.le_refl _ | (unfold Around.in1; simp)

theorem hits_of {A : Around} {kb : List (Str × Value)} {kes : List (Str × D)} (hG : G.In s.heap) (hb : RelKv X G kb kes) (hA : A.units + 1 < cLine) (ka : List (Str × Value)) {kds : List (Str × D)} (hr : RelKv X G ka kds) (hall : ∀ k d, (k, d) ∈ kds → dget kes k = some d ∧ Flt d) : KeqHits A s kb ka true := by
  induction ka generalizing kds with
  | nil => exact .nil
  | cons p ka ih =>
    cases hr with
    | @cons k _ _ d _ h r =>
      obtain ⟨h1, h2⟩ := hall k d List.mem_cons_self
      rcases hb.valueAt k with ⟨_, e2⟩ | ⟨u, d', e1, e2, e3⟩
      · rw [e2] at h1; cases h1
      · rw [e2] at h1; cases h1
        have := KeqHits.hit (A := A) (s := s) e1 (flt_eq hG h2 h e3 hA) (ih r fun k d hm => hall k d (List.mem_cons_of_mem _ hm))
        simpa using this
theorem eqt_int {A : Around} {v u : Value} {i : Int} (hv : Rel X G v (.int i)) (hu : Rel X G u (.int i)) : EqT X A s v u := by
  cases hv with
  | int _ t1 => cases hu with
    | int _ t2 =>
      refine .of ?_
      have := EqAt.int_int (A := A) (s := s) i t1 i t2
      rwa [beq_self_eq_true] at this
theorem eqt_str {A : Around} {v u : Value} {x : Str} (hv : Rel X G v (.str x)) (hu : Rel X G u (.str x)) : EqT X A s v u := by
  cases hv with
  | str _ t1 => cases hu with
    | str _ t2 =>
      refine .of ?_
      have := EqAt.str_str (A := A) (s := s) x t1 x t2
      rwa [beq_self_eq_true] at this
theorem eqts_of {n : Nat} (ih : ∀ {d e : D} {v u : Value} {A : Around}, DEq n d e → Rel X G v d → Rel X G u e → A.units + n < cLine → EqT X A s v u) (vs : List Value) {ds es : List D} {us : List Value} {A : Around} (h : DEqs n ds es) (hv : RelAll X G vs ds) (hu : RelAll X G us es) (hA : A.units + n < cLine) : EqTs X A s vs us := by
  induction vs generalizing ds es us with
  | nil => cases hv; cases h; cases hu; exact ⟨rfl, fun p hp => by cases hp⟩
  | cons v vs ihs =>
    cases hv with
    | cons a as => cases h with
      | cons h hs => cases hu with
        | cons b bs =>
          obtain ⟨h1, h2⟩ := ihs hs as bs
          refine ⟨by simp [h1], fun p hp => ?_⟩
          rw [List.zip_cons_cons] at hp
          rcases List.mem_cons.mp hp with e | hp
          · rw [e]; exact ih h a b hA
          · exact h2 p hp
theorem DEq.run (hG : G.In s.heap) (n : Nat) : ∀ {d e : D} {v u : Value} {A : Around}, DEq n d e → Rel X G v d → Rel X G u e → A.units + n < cLine → EqT X A s v u := by
  induction n with
  | zero =>
    intro d e v u A h hv hu hA
    cases h with
    | int _ i => exact eqt_int hv hu
    | str _ x => exact eqt_str hv hu
  | succ n ih =>
    intro d e v u A h hv hu hA
    have hin := in1_units A
    cases h with
    | int _ i => exact eqt_int hv hu
    | str _ x => exact eqt_str hv hu
    | tuple h => cases hv with
      | tuple h1 h2 h3 => cases hu with
        | tuple k1 k2 k3 => exact .refs fun _ => tup_eq (hG.get _ _ h1) h2 (hG.get _ _ k1) k2 (by omega) (eqts_of ih _ h h3 k3 (by omega))
    | list h => cases hv with
      | list h1 h2 h3 => cases hu with
        | list k1 k2 k3 => exact .refs fun _ => lst_eq (hG.get _ _ h1) h2 (hG.get _ _ k1) k2 (by omega) (eqts_of ih _ h h3 k3 (by omega))
    | dict hl hall => cases hv with
      | dict h1 h2 h3 h4 => cases hu with
        | dict k1 k2 k3 k4 =>
          refine .refs fun _ E Q q => ?_
          have hlen := h3.length
          have hlen' := k3.length
          refine keq_eq (knd := X.K) (r := true) h4 k4 (h2.dictOf (hG.get _ _ h1)) (k2.dictOf (hG.get _ _ k1)) (by omega) (fun _ => hits_of hG k3 (by omega) _ h3 hall) ?_
          rw [hlen, hlen', hl, beq_self_eq_true]
          exact q
theorem DEqs.run (hG : G.In s.heap) {n : Nat} {ds es : List D} {vs us : List Value} {A : Around} (h : DEqs n ds es) (hv : RelAll X G vs ds) (hu : RelAll X G us es) (hA : A.units + n < cLine) : EqTs X A s vs us := eqts_of (DEq.run hG n) vs h hv hu hA

theorem op_ne_lists {k n : Nat} {ds es : List D} (h : DEqs n ds es) (hn : n ≤ 30) : Op2 X k (compareOp .NotEq) (.list ds) (.list es) (.bool false) := fun A G s v₁ v₂ hr T hG r₁ r₂ => by
  cases r₁ with
  | @list a o vs _ h1 h2 h3 => cases r₂ with
    | @list b o' ws _ k1 k2 k3 =>
      refine Gv.pure' hG (.bool false) fun Q q => lst_ne (hG.get _ _ h1) h2 (hG.get _ _ k1) k2 (by have := hr.un; omega) (h.run hG h3 k3 (by have := hr.un; have := in1_units A; omega)) q
theorem op_eq_lists {k n : Nat} {ds es : List D} (h : DEqs n ds es) (hn : n ≤ 30) : Op2 X k (compareOp .Eq) (.list ds) (.list es) (.bool true) := fun A G s v₁ v₂ hr T hG r₁ r₂ => by
  cases r₁ with
  | @list a o vs _ h1 h2 h3 => cases r₂ with
    | @list b o' ws _ k1 k2 k3 =>
      exact Gv.pure' hG (.bool true) fun Q q => lst_eq (hG.get _ _ h1) h2 (hG.get _ _ k1) k2 (by have := hr.un; omega) (h.run hG h3 k3 (by have := hr.un; have := in1_units A; omega)) NoE Q q
end
end Mine
end

section
set_option linter.unusedVariables false
set_option maxRecDepth 100000
namespace Mine

/-! ## the defs of the text, by their place -/
noncomputable def recAt (i : Nat) : DefRec := match PySem.Challenge.pw_mr0085_01.main.body[i]? with
  | some (.FunctionDef name a b _ _ _ sc _ _ pos) => ⟨name, a, b, sc, pos⟩
  | _ => ⟨"", { posonlyargs := [], args := [], vararg := none, kwonlyargs := [], kw_defaults := [], kwarg := none, defaults := [] }, [], { kind := .module, names := [], isGenerator := false, isCoroutine := false }, ⟨0, 0, 0, 0⟩⟩

/-- what the walk needs to know of the world -/
structure Wok (X : Wd) : Prop where
  recs : ∀ i ∈ [1, 2, 3, 4, 6, 8, 9, 10, 11, 12, 13, 14, 15, 16], recAt i ∈ recsOf X.p
  bfn : ∀ f ∈ ["sum", "len", "isinstance"], X.mg (Str.ofString f) = none ∧ X.mb (Str.ofString f) = some (.builtin f)
  bty : ∀ f ∈ ["range", "str", "tuple", "list", "zip"], X.mg (Str.ofString f) = none ∧ X.mb (Str.ofString f) = some (.type f)

theorem AEnv.Sub.nil {ρ : AEnv} : AEnv.Sub [] ρ := fun x sl e => by cases e
theorem AEnv.Sub.cons {ρ ρ' : AEnv} {x : Str} {sl : Slot} (h : ρ.lookup x = some sl) (hs : AEnv.Sub ρ' ρ) : AEnv.Sub ((x, sl) :: ρ') ρ := fun y s e => by
  by_cases hy : y = x
  · subst hy; rw [lookup_cons_self] at e; cases e; exact h
  · rw [lookup_cons_ne hy] at e; exact hs y s e

/-- a loop as a fold -/
theorem Lp.fold {c : Cx} {tgt : PySem.Expr} {body : List Stmt} {α σ : Type} (enc : α → D) (P : σ → AEnv) (f : σ → α → σ) (Inv : σ → List α → Prop)
    (hstep : ∀ st a r, Inv st (a :: r) → Inv (f st a) r ∧ ∃ ρ₁, Asg c (P st) tgt (enc a) ρ₁ ∧ Does c ρ₁ body (.next (P (f st a)))) : ∀ (as : List α) (st : σ), Inv st as → Lp c tgt body (P st) (as.map enc) (.next (P (as.foldl f st)))
  | [], st, _ => .nil
  | a :: r, st, h => by
    obtain ⟨h1, ρ₁, h2, h3⟩ := hstep st a r h
    exact .next h2 h3 (Lp.fold enc P f Inv hstep r (f st a) h1)

/-- count_calls -/
theorem cal_count {X : Wd} (W : Wok X) {k : Nat} {kds : List (Str × D)} {ns : List Int} (hns : kds.map (·.2) = ns.map D.int) : Cal X (k + 1) "count_calls" [.dict kds] (.int (ns.foldl (· + ·) 0)) := by
  refine Cal.of (r := recAt 4) (names := ["callers"]) (W.recs 4 (by decide)) ?_ (by decide) rfl ?_ ?_ rfl rfl rfl ?_
  · intro pm cd doc vs h
    obtain ⟨v, rfl⟩ := List.length_eq_one_iff.mp h
    rfl
  · intro x hx; simp at hx; subst hx; exact .inl rfl
  · decide
  · refine Does.cons (Do1.assign (.inl rfl) Ev.int) ?_
    refine Does.sub (ρ' := [("nc", .val (.int 0)), ("callers", .val (.dict kds))]) (.cons rfl (.cons rfl .nil)) ?_
    refine Does.cons (Do1.for_ (EvIt.values (Ev.name rfl)) (out := .next [("nc", .val (.int (ns.foldl (· + ·) 0))), ("callers", .val (.dict kds))]) ?_) (Does.ret (Do1.ret (Ev.name rfl)))
    rw [hns]
    refine Lp.fold D.int (fun m => [("nc", .val (.int m)), ("callers", .val (.dict kds))]) (· + ·) (fun _ _ => True) (fun m a r _ => ⟨trivial, _, Asg.name (.inl rfl), ?_⟩) ns 0 trivial
    exact Does.out (Does.one (Do1.aug (.inl rfl) rfl (Ev.name rfl) op_iadd_int)) (.cons rfl (.cons rfl .nil))
end Mine
end

section
set_option linter.unusedVariables false
set_option maxRecDepth 100000
namespace Mine

theorem Lp.foldTo {c : Cx} {tgt : PySem.Expr} {body : List Stmt} {α σ : Type} {ρ ρ' : AEnv} (enc : α → D) (P : σ → AEnv) (f : σ → α → σ) (Inv : σ → List α → Prop) (as : List α) (st fin : σ) (h : Inv st as) (hfin : as.foldl f st = fin) (hρ : P st = ρ) (hρ' : P fin = ρ')
    (hstep : ∀ st a r, Inv st (a :: r) → Inv (f st a) r ∧ ∃ ρ₁, Asg c (P st) tgt (enc a) ρ₁ ∧ Does c ρ₁ body (.next (P (f st a)))) : Lp c tgt body ρ (as.map enc) (.next ρ') := by
  subst hfin hρ hρ'; exact Lp.fold enc P f Inv hstep as st h

/-! ## tables -/
section
variable {M : Type}
noncomputable def get (t : List (Str × M)) (k : Str) : Option M := (t.find? fun p => p.1 = k).map (·.2)
noncomputable def ups (op : M → M → M) (t : List (Str × M)) (k : Str) (v : M) : List (Str × M) :=
  if t.any (fun p => p.1 = k) then t.map (fun p => if p.1 = k then (p.1, op p.2 v) else p) else t ++ [(k, v)]
noncomputable def encTb (enc : M → D) (t : List (Str × M)) : List (Str × D) := t.map fun p => (p.1, enc p.2)
noncomputable abbrev keys (t : List (Str × M)) : List Str := t.map (·.1)

theorem dget_enc (enc : M → D) (t : List (Str × M)) (k : Str) : dget (encTb enc t) k = (get t k).map enc := by
  unfold dget encTb get
  induction t with
  | nil => rfl
  | cons p t ih =>
    simp only [List.map_cons, List.find?_cons]
    by_cases e : p.1 = k
    · simp [e]
    · simp [e]; simpa using ih
theorem get_none {t : List (Str × M)} {k : Str} : get t k = none ↔ k ∉ keys t := by
  unfold get
  induction t with
  | nil => simp
  | cons p t ih =>
    simp only [List.find?_cons, List.map_cons, List.mem_cons, not_or]
    by_cases e : p.1 = k
    · simp [e]
    · simp only [e, decide_false]
      rw [ih]
      exact ⟨fun h => ⟨fun q => e q.symm, h⟩, fun h => h.2⟩
theorem any_iff {t : List (Str × M)} {k : Str} : t.any (fun p => decide (p.1 = k)) = true ↔ k ∈ keys t := by
  simp only [List.any_eq_true, List.mem_map, decide_eq_true_eq]
theorem get_mem {t : List (Str × M)} {k : Str} {m : M} (h : get t k = some m) : (k, m) ∈ t := by
  unfold get at h
  obtain ⟨p, hp, e⟩ := Option.map_eq_some_iff.mp h
  have h1 := List.mem_of_find?_eq_some hp
  have h2 := List.find?_some hp
  simp at h2
  rw [← h2, ← e]; exact h1
theorem get_of_mem {t : List (Str × M)} {k : Str} {m : M} (hn : (keys t).Nodup) (h : (k, m) ∈ t) : get t k = some m := by
  induction t with
  | nil => cases h
  | cons p t ih =>
    simp only [List.map_cons, List.nodup_cons] at hn
    unfold get
    simp only [List.find?_cons]
    rcases List.mem_cons.mp h with e | h
    · subst e; simp
    · have : p.1 ≠ k := fun q => hn.1 (by rw [q]; exact List.mem_map.mpr ⟨(k, m), h, rfl⟩)
      simp only [this, decide_false]
      exact ih hn.2 h
theorem keys_ups {op : M → M → M} {t : List (Str × M)} {k : Str} {v : M} : keys (ups op t k v) = if k ∈ keys t then keys t else keys t ++ [k] := by
  unfold ups
  by_cases h : k ∈ keys t
  · rw [if_pos (any_iff.mpr h), if_pos h]
    simp only [keys, List.map_map]
    apply List.map_congr_left
    intro p _
    simp only [Function.comp]
    split <;> rfl
  · rw [if_neg (fun q => h (any_iff.mp q)), if_neg h]; simp
theorem nodup_ups {op : M → M → M} {t : List (Str × M)} {k : Str} {v : M} (h : (keys t).Nodup) : (keys (ups op t k v)).Nodup := by
  rw [keys_ups]
  split
  · exact h
  · rename_i hk
    rw [List.nodup_append]
    exact ⟨h, by simp, fun a ha b hb => by simp at hb; subst hb; exact fun q => hk (q ▸ ha)⟩
theorem len_ups {op : M → M → M} {t : List (Str × M)} {k : Str} {v : M} : (ups op t k v).length ≤ t.length + 1 := by
  unfold ups; split <;> simp

/-- a table's cell is stored anew -/
theorem dset_hit {op : M → M → M} {enc : M → D} {t : List (Str × M)} {k : Str} {m v : M} (hn : (keys t).Nodup) (h : get t k = some m) : dset (encTb enc t) k (enc (op m v)) = encTb enc (ups op t k v) := by
  have hk : k ∈ keys t := by
    by_cases q : k ∈ keys t
    · exact q
    · rw [get_none.mpr q] at h; cases h
  unfold dset ups
  have h1 : (encTb enc t).any (fun kv => decide (kv.1 = k)) = true := by
    rw [any_iff]; simpa [encTb, keys] using hk
  rw [if_pos h1, if_pos (any_iff.mpr hk)]
  unfold encTb
  rw [List.map_map, List.map_map]
  apply List.map_congr_left
  intro p hp
  simp only [Function.comp]
  by_cases e : p.1 = k
  · have : p.2 = m := by
      have := get_of_mem hn (k := p.1) (m := p.2) hp
      rw [e, h] at this; cases this; rfl
    simp [e, this]
  · simp [e]
theorem dset_miss {op : M → M → M} {enc : M → D} {t : List (Str × M)} {k : Str} {v : M} (h : get t k = none) : dset (encTb enc t) k (enc v) = encTb enc (ups op t k v) := by
  have hk := get_none.mp h
  unfold dset ups
  have h1 : ¬ (encTb enc t).any (fun kv => decide (kv.1 = k)) = true := by
    rw [any_iff]; simpa [encTb, keys] using hk
  rw [if_neg h1, if_neg (fun q => hk (any_iff.mp q))]
  simp [encTb]
end

/-! ## calls: a number, or four -/
noncomputable def zadd (a b : List Int) : List Int := List.zipWith (· + ·) a b
noncomputable def encV (b : Bool) (ns : List Int) : D := match b with | true => .tuple (ns.map D.int) | false => .int (ns.headD 0)
noncomputable def OkV (b : Bool) (ns : List Int) : Prop := ns.length = match b with | true => 4 | false => 1
theorem zadd_comm (a b : List Int) : zadd a b = zadd b a := by
  unfold zadd; rw [List.zipWith_comm]; congr 1; funext x y; exact Int.add_comm _ _
theorem zadd_assoc (a b c : List Int) : zadd (zadd a b) c = zadd a (zadd b c) := by
  unfold zadd
  induction a generalizing b c with
  | nil => simp
  | cons x a ih => cases b with
    | nil => simp
    | cons y b => cases c with
      | nil => simp
      | cons z c => simp [ih, Int.add_assoc]
theorem OkV.add {b : Bool} {x y : List Int} (hx : OkV b x) (hy : OkV b y) : OkV b (zadd x y) := by
  unfold OkV at *; unfold zadd; rw [List.length_zipWith, hx, hy]; exact Nat.min_self _

noncomputable abbrev Calls := List (Str × List Int)
noncomputable def OkC (b : Bool) (t : Calls) : Prop := ∀ p ∈ t, OkV b p.2
theorem OkC.ups {b : Bool} {t : Calls} {k : Str} {v : List Int} (h : OkC b t) (hv : OkV b v) : OkC b (Mine.ups zadd t k v) := by
  intro p hp
  unfold Mine.ups at hp
  split at hp
  · obtain ⟨q, hq, rfl⟩ := List.mem_map.mp hp
    split
    · exact (h q hq).add hv
    · exact h q hq
  · rcases List.mem_append.mp hp with hp | hp
    · exact h p hp
    · simp at hp; subst hp; exact hv
/-- add_callers -/
noncomputable def addC (t s : Calls) : Calls := s.foldl (fun acc p => ups zadd acc p.1 p.2) t
noncomputable abbrev encC (b : Bool) (t : Calls) : List (Str × D) := encTb (encV b) t
theorem items_enc {M : Type} (enc : M → D) (t : List (Str × M)) : (encTb enc t).map itemD = t.map fun p => D.tuple [.str p.1, enc p.2] := by
  unfold encTb; rw [List.map_map]; rfl

theorem len_two {α : Type} {l : List α} (h : l.length = 2) : ∃ a b, l = [a, b] := by
  match l, h with
  | [a, b], _ => exact ⟨a, b, rfl⟩

theorem Wok.fn {X : Wd} (W : Wok X) (f : String) (h : f ∈ ["sum", "len", "isinstance"] := by decide) : X.mg (Str.ofString f) = none ∧ X.mb (Str.ofString f) = some (.builtin f) := W.bfn f h
theorem Wok.ty {X : Wd} (W : Wok X) (f : String) (h : f ∈ ["range", "str", "tuple", "list", "zip"] := by decide) : X.mg (Str.ofString f) = none ∧ X.mb (Str.ofString f) = some (.type f) := W.bty f h

theorem cal_addC {X : Wd} (W : Wok X) {k : Nat} {b : Bool} {t s : Calls} (hn : (keys t).Nodup) (ht : OkC b t) (hs : OkC b s) (hl : t.length + s.length ≤ 500) :
    Cal X (k + 1) "add_callers" [.dict (encC b t), .dict (encC b s)] (.dict (encC b (addC t s))) := by
  refine Cal.of (r := recAt 3) (names := ["target", "source"]) (W.recs 3 (by decide)) ?_ (by decide) rfl ?_ ?_ rfl rfl rfl ?_
  · intro pm cd doc vs h
    obtain ⟨v, w, rfl⟩ := len_two h
    rfl
  · intro x hx; simp at hx; rcases hx with rfl | rfl <;> exact .inl rfl
  · decide
  · refine Does.cons (Do1.newDict (.inl rfl)) ?_
    refine Does.sub (ρ' := [("new_callers", .odict (encC b [])), ("target", .val (.dict (encC b t))), ("source", .val (.dict (encC b s)))]) (.cons rfl (.cons rfl (.cons rfl .nil))) ?_
    refine Does.cons (Do1.for_ (EvIt.items (Ev.name rfl)) (out := .next [("new_callers", .odict (encC b t)), ("target", .val (.dict (encC b t))), ("source", .val (.dict (encC b s)))]) ?_) ?_
    · rw [items_enc]
      have e : t.foldl (fun acc p => acc ++ [p]) [] = t := by
        have : ∀ (l acc : Calls), l.foldl (fun acc p => acc ++ [p]) acc = acc ++ l := by
          intro l; induction l with
          | nil => simp
          | cons p l ih => intro acc; simp [ih]
        simpa using this t []
      refine Lp.foldTo (fun p : Str × List Int => D.tuple [.str p.1, encV b p.2]) (fun acc : Calls => [("new_callers", .odict (encC b acc)), ("target", .val (.dict (encC b t))), ("source", .val (.dict (encC b s)))]) (fun acc p => acc ++ [p]) (fun acc r => acc ++ r = t) t [] t rfl e rfl rfl ?_
      · rintro acc ⟨x, v⟩ r hacc
        refine ⟨by simpa using hacc, _, Asg.tuple (.cons (Asg.name (.inl rfl)) (fun _ => rfl) (.cons (Asg.name (.inl rfl)) (fun _ => rfl) .nil)), ?_⟩
        have hx : get acc x = none := by
          rw [get_none]
          intro hm
          rw [← hacc] at hn
          simp only [keys, List.map_append, List.map_cons, List.nodup_append] at hn
          exact hn.2.2 x hm x (by simp) rfl
        have hlen : (encC b acc).length ≤ 1000 := by
          have := congrArg List.length hacc
          simp [encTb] at this ⊢; omega
        refine Does.out (Does.one (Do1.setItem rfl (Ev.name rfl) (Ev.name rfl) hlen)) (.cons ?_ (.cons rfl (.cons rfl .nil)))
        show some _ = some _
        congr 2
        have e := dset_miss (op := zadd) (enc := encV b) (v := v) hx
        rw [e]
        unfold ups
        rw [if_neg (fun q => by rw [any_iff] at q; exact (get_none.mp hx) q)]
    · refine Does.cons (Do1.for_ (EvIt.items (Ev.name rfl)) (out := .next [("new_callers", .odict (encC b (addC t s))), ("target", .val (.dict (encC b t))), ("source", .val (.dict (encC b s)))]) ?_) ?_
      · rw [items_enc]
        refine Lp.foldTo (fun p : Str × List Int => D.tuple [.str p.1, encV b p.2]) (fun acc : Calls => [("new_callers", .odict (encC b acc)), ("target", .val (.dict (encC b t))), ("source", .val (.dict (encC b s)))]) (fun acc p => ups zadd acc p.1 p.2)
          (fun acc r => (keys acc).Nodup ∧ OkC b acc ∧ OkC b r ∧ acc.length + r.length ≤ 500) s t (addC t s) ⟨hn, ht, hs, hl⟩ rfl rfl rfl ?_
        · rintro acc ⟨x, v⟩ r ⟨h1, h2, h3, h4⟩
          have hv : OkV b v := h3 (x, v) List.mem_cons_self
          refine ⟨⟨nodup_ups h1, h2.ups hv, fun p hp => h3 p (List.mem_cons_of_mem _ hp), by have := len_ups (op := zadd) (t := acc) (k := x) (v := v); simp at h4; show (ups zadd acc x v).length + r.length ≤ 500; omega⟩, _, Asg.tuple (.cons (Asg.name (.inl rfl)) (fun _ => rfl) (.cons (Asg.name (.inl rfl)) (fun _ => rfl) .nil)), ?_⟩
          have hlen : (encC b acc).length ≤ 1000 := by simp [encTb]; simp at h4; omega
          refine Does.one (Do1.if_ (Tst.inDict (Ev.name rfl) (EvD.own rfl)) (fun hb => ?_) fun hb => ?_)
          · rw [dget_enc] at hb
            cases hg : get acc x with
            | none => rw [hg] at hb; cases hb
            | some m =>
              have hm : OkV b m := h2 (x, m) (get_mem hg)
              have hd : dget (encC b acc) x = some (encV b m) := by rw [dget_enc, hg]; rfl
              refine Does.one (Do1.if_ (b := b) (Tst.bool (Ev.isiTuple (W.fn "isinstance").1 (W.fn "isinstance").2 (W.ty "tuple").1 (W.ty "tuple").2 (Ev.name rfl) ?_)) (fun hb => ?_) fun hb => ?_)
              · cases b with
                | true => exact .inl ⟨_, rfl, rfl⟩
                | false => exact .inr ⟨_, rfl, rfl⟩
              · subst hb
                refine Does.out (Does.one (Do1.setItem rfl (Ev.tupleZip (ns := v) (ms := m) (W.ty "tuple").1 (W.ty "tuple").2 (W.ty "zip").1 (W.ty "zip").2 (Ev.name rfl) (Ev.dictItem (EvD.own rfl) (Ev.name rfl) hd) ?_ ?_ (by rfl) (by rfl) (by intro _; exact star_all rfl) (by intro _; exact star_of rfl) (by intro _; exact star_of rfl) (by rfl) (by decide) (by decide) (by rfl) (by rfl) (by rfl) (by decide) (by rfl) (by decide) (by decide) (by intro _ _; rfl)) (Ev.name rfl) hlen)) (.cons ?_ (.cons rfl (.cons rfl .nil)))
                · rw [show v.length = 4 from hv, show m.length = 4 from hm]
                · rw [show v.length = 4 from hv]; omega
                · show some _ = some _
                  congr 2
                  show _ = encTb (encV true) (ups zadd acc x v)
                  rw [← dset_hit (op := zadd) (enc := encV true) h1 hg, zadd_comm m v]
                  rfl
              · subst hb
                refine Does.out (Does.one (Do1.augItem (d₀ := .int (m.headD 0)) (d₁ := .int (v.headD 0)) rfl (Ev.name rfl) hd (Ev.name rfl) op_iadd_int hlen)) (.cons ?_ (.cons rfl (.cons rfl .nil)))
                show some _ = some _
                congr 2
                show _ = encTb (encV false) (ups zadd acc x v)
                rw [← dset_hit (op := zadd) (enc := encV false) h1 hg]
                have e : encV false (zadd m v) = .int (m.headD 0 + v.headD 0) := by
                  obtain ⟨a, rfl⟩ := List.length_eq_one_iff.mp (show m.length = 1 from hm)
                  obtain ⟨c, rfl⟩ := List.length_eq_one_iff.mp (show v.length = 1 from hv)
                  rfl
                rw [e]
          · rw [dget_enc] at hb
            cases hg : get acc x with
            | some m => rw [hg] at hb; cases hb
            | none =>
              refine Does.out (Does.one (Do1.setItem rfl (Ev.name rfl) (Ev.name rfl) hlen)) (.cons ?_ (.cons rfl (.cons rfl .nil)))
              show some _ = some _
              congr 2
              exact dset_miss (op := zadd) (enc := encV b) hg
      · exact Does.freezeD (x := "new_callers") rfl (Does.ret (Do1.ret (Ev.name rfl)))
end Mine
end

section
set_option linter.unusedVariables false
set_option maxRecDepth 100000
namespace Mine

/-! ## entries -/
noncomputable abbrev Ent := List Int × Calls
noncomputable def encE (b : Bool) (e : Ent) : D := .tuple (e.1.map D.int ++ [.dict (encC b e.2)])
structure OkE (b : Bool) (e : Ent) : Prop where
  four : e.1.length = 4
  nd : (keys e.2).Nodup
  ok : OkC b e.2
noncomputable def addE (t s : Ent) : Ent := (zadd t.1 s.1, addC t.2 s.2)
noncomputable def zeroE : Ent := ([0, 0, 0, 0], [])

theorem len_four {α : Type} {l : List α} (h : l.length = 4) : ∃ a b c d, l = [a, b, c, d] := by
  match l, h with
  | [a, b, c, d], _ => exact ⟨a, b, c, d, rfl⟩

theorem addC_nodup {t : Calls} (s : Calls) (h : (keys t).Nodup) : (keys (addC t s)).Nodup := by
  induction s generalizing t with
  | nil => exact h
  | cons p s ih => exact ih (nodup_ups h)
theorem addC_ok {b : Bool} {t s : Calls} (h : OkC b t) (hs : OkC b s) : OkC b (addC t s) := by
  induction s generalizing t with
  | nil => exact h
  | cons p s ih => exact ih (h.ups (hs p List.mem_cons_self)) fun q hq => hs q (List.mem_cons_of_mem _ hq)
theorem addC_len {t s : Calls} : (addC t s).length ≤ t.length + s.length := by
  induction s generalizing t with
  | nil => exact Nat.le_refl _
  | cons p s ih =>
    have h1 := ih (t := ups zadd t p.1 p.2)
    have h2 := len_ups (op := zadd) (t := t) (k := p.1) (v := p.2)
    show (addC (ups zadd t p.1 p.2) s).length ≤ _
    simp only [List.length_cons]; omega
theorem OkE.add {b : Bool} {t s : Ent} (ht : OkE b t) (hs : OkE b s) : OkE b (addE t s) :=
  ⟨by show (zadd t.1 s.1).length = 4; unfold zadd; rw [List.length_zipWith, ht.four, hs.four]; rfl, addC_nodup _ ht.nd, addC_ok ht.ok hs.ok⟩
theorem OkE.zero {b : Bool} : OkE b zeroE := ⟨rfl, .nil, fun _ h => (nomatch h)⟩

/-- add_func_stats -/
theorem cal_addE {X : Wd} (W : Wok X) {k : Nat} {b : Bool} {t s : Ent} (ht : OkE b t) (hs : OkE b s) (hl : t.2.length + s.2.length ≤ 500) : Cal X (k + 2) "add_func_stats" [encE b t, encE b s] (encE b (addE t s)) := by
  obtain ⟨t1, tc⟩ := t
  obtain ⟨s1, sc⟩ := s
  obtain ⟨a1, a2, a3, a4, rfl⟩ := len_four (show t1.length = 4 from ht.four)
  obtain ⟨b1, b2, b3, b4, rfl⟩ := len_four (show s1.length = 4 from hs.four)
  refine Cal.of (k := k + 1) (r := recAt 2) (names := ["target", "source"]) (W.recs 2 (by decide)) ?_ (by decide) rfl ?_ ?_ rfl rfl rfl ?_
  · intro pm cd doc vs h
    obtain ⟨v, w, rfl⟩ := len_two h
    rfl
  · intro x hx; simp at hx; rcases hx with rfl | rfl <;> exact .inl rfl
  · decide
  · refine Does.cons (Do1.unpack (ds := [.int b1, .int b2, .int b3, .int b4, .dict (encC b sc)]) (Ev.name rfl) (.cons (Asg.name (.inl rfl)) (fun _ => rfl) (.cons (Asg.name (.inl rfl)) (fun _ => rfl) (.cons (Asg.name (.inl rfl)) (fun _ => rfl) (.cons (Asg.name (.inl rfl)) (fun _ => rfl) (.cons (Asg.name (.inl rfl)) (fun _ => rfl) .nil)))))) ?_
    refine Does.cons (Do1.unpack (ds := [.int a1, .int a2, .int a3, .int a4, .dict (encC b tc)]) (Ev.name rfl) (.cons (Asg.name (.inl rfl)) (fun _ => rfl) (.cons (Asg.name (.inl rfl)) (fun _ => rfl) (.cons (Asg.name (.inl rfl)) (fun _ => rfl) (.cons (Asg.name (.inl rfl)) (fun _ => rfl) (.cons (Asg.name (.inl rfl)) (fun _ => rfl) .nil)))))) ?_
    have e : encE b (addE ([a1, a2, a3, a4], tc) ([b1, b2, b3, b4], sc)) = .tuple [.int (b1 + a1), .int (b2 + a2), .int (b3 + a3), .int (b4 + a4), .dict (encC b (addC tc sc))] := by
      simp [encE, addE, zadd, Int.add_comm]
    rw [e]
    exact Does.ret (Do1.ret (Ev.tuple (.cons (Ev.binop (Ev.name rfl) (Ev.name rfl) op_add_int) (.cons (Ev.binop (Ev.name rfl) (Ev.name rfl) op_add_int) (.cons (Ev.binop (Ev.name rfl) (Ev.name rfl) op_add_int) (.cons (Ev.binop (Ev.name rfl) (Ev.name rfl) op_add_int)
      (.cons (Ev.call (.cons (Ev.name rfl) (.cons (Ev.name rfl) .nil)) (cal_addC W ht.nd ht.ok hs.ok hl)) .nil))))) (by simp)))

/-! ## tables of entries -/
noncomputable abbrev Tbl := List (Str × Ent)
noncomputable abbrev encT (b : Bool) (t : Tbl) : List (Str × D) := encTb (encE b) t
structure OkT (b : Bool) (t : Tbl) : Prop where
  nd : (keys t).Nodup
  ok : ∀ p ∈ t, OkE b p.2
/-- the callers of a table, counted -/
noncomputable def wt (t : Tbl) : Nat := (t.map fun p => p.2.2.length + 1).sum

theorem addE_zero {b : Bool} {e : Ent} (h : OkE b e) : addE zeroE e = e := by
  obtain ⟨e1, ec⟩ := e
  obtain ⟨a1, a2, a3, a4, rfl⟩ := len_four (show e1.length = 4 from h.four)
  unfold addE zeroE
  congr 1
  · simp [zadd]
  · have : ∀ (s t : Calls), (keys (t ++ s)).Nodup → addC t s = t ++ s := by
      intro s
      induction s with
      | nil => intro t _; simp [addC]
      | cons p s ih =>
        intro t hn
        have hp : p.1 ∉ keys t := fun hm => by
          simp only [keys, List.map_append, List.map_cons, List.nodup_append] at hn
          exact hn.2.2 p.1 hm p.1 (by simp) rfl
        have e : ups zadd t p.1 p.2 = t ++ [p] := by unfold ups; rw [if_neg (fun q => hp (any_iff.mp q))]
        show addC (ups zadd t p.1 p.2) s = _
        rw [e, ih (t ++ [p]) (by simpa using hn)]
        simp
    have := this ec [] (by simpa using h.nd)
    simpa using this

/-- joined[name] = add_func_stats(joined.get(name, zero), entry) -/
noncomputable def putE (t : Tbl) (k : Str) (e : Ent) : Tbl := ups addE t k e
theorem wt_ups {t : Tbl} {k : Str} {e : Ent} (hn : (keys t).Nodup) : wt (putE t k e) ≤ wt t + e.2.length + 1 := by
  unfold putE ups
  split
  · rename_i hany; clear hany
    induction t with
    | nil => simp [wt]
    | cons p t ih =>
      simp only [keys, List.map_cons, List.nodup_cons] at hn
      simp only [List.map_cons]
      by_cases h : p.1 = k
      · have e1 : t.map (fun q : Str × Ent => if q.1 = k then (q.1, addE q.2 e) else q) = t := by
          conv => rhs; rw [← List.map_id t]
          apply List.map_congr_left
          intro q hq
          have : q.1 ≠ k := fun hqk => hn.1 (by rw [h, ← hqk]; exact List.mem_map.mpr ⟨q, hq, rfl⟩)
          simp [this]
        rw [e1, if_pos h]
        have h2 := addC_len (t := p.2.2) (s := e.2)
        show (addC p.2.2 e.2).length + 1 + wt t ≤ p.2.2.length + 1 + wt t + e.2.length + 1
        omega
      · rw [if_neg h]
        have h3 := ih hn.2
        show p.2.2.length + 1 + wt (t.map _) ≤ p.2.2.length + 1 + wt t + e.2.length + 1
        omega
  · simp [wt]; omega
theorem len_wt {t : Tbl} : t.length ≤ wt t := by
  induction t with
  | nil => simp [wt]
  | cons p t ih => simp only [wt, List.map_cons, List.sum_cons, List.length_cons] at ih ⊢; omega
theorem mem_wt {t : Tbl} {p : Str × Ent} (h : p ∈ t) : p.2.2.length + 1 ≤ wt t := by
  induction t with
  | nil => cases h
  | cons q t ih =>
    simp only [wt, List.map_cons, List.sum_cons]
    rcases List.mem_cons.mp h with e | h
    · subst e; omega
    · have := ih h; simp only [wt] at this; omega
theorem OkT.put {b : Bool} {t : Tbl} {k : Str} {e : Ent} (h : OkT b t) (he : OkE b e) : OkT b (putE t k e) := by
  refine ⟨nodup_ups h.nd, fun p hp => ?_⟩
  unfold putE ups at hp
  split at hp
  · obtain ⟨q, hq, rfl⟩ := List.mem_map.mp hp
    split
    · exact (h.ok q hq).add he
    · exact h.ok q hq
  · rcases List.mem_append.mp hp with hp | hp
    · exact h.ok p hp
    · simp at hp; subst hp; exact he
end Mine
end

section
set_option linter.unusedVariables false
set_option maxRecDepth 100000
namespace Mine

noncomputable def putAll (acc t : Tbl) : Tbl := t.foldl (fun acc p => putE acc p.1 p.2) acc
noncomputable def joinT (ts : List Tbl) : Tbl := ts.foldl putAll []
noncomputable def wts (ts : List Tbl) : Nat := (ts.map wt).sum

theorem dset_put {b : Bool} {t : Tbl} {k : Str} {e : Ent} (h : OkT b t) (he : OkE b e) : dset (encT b t) k (encE b (addE ((get t k).getD zeroE) e)) = encT b (putE t k e) := by
  cases hg : get t k with
  | some m => exact dset_hit (op := addE) (enc := encE b) h.nd hg
  | none =>
    show dset (encT b t) k (encE b (addE zeroE e)) = _
    rw [addE_zero he]; exact dset_miss (op := addE) (enc := encE b) hg
theorem OkT.getD {b : Bool} {t : Tbl} {k : Str} (h : OkT b t) : OkE b ((get t k).getD zeroE) := by
  cases hg : get t k with
  | some m => exact h.ok (k, m) (get_mem hg)
  | none => exact .zero
theorem getD_len {t : Tbl} {k : Str} : ((get t k).getD zeroE).2.length ≤ wt t := by
  cases hg : get t k with
  | some m => have := mem_wt (get_mem hg); show m.2.length ≤ _; simp only at this; omega
  | none => exact Nat.zero_le _
theorem dget_encT (b : Bool) (t : Tbl) (k : Str) : (dget (encT b t) k).getD (encE b zeroE) = encE b ((get t k).getD zeroE) := by
  rw [dget_enc]; cases get t k <;> rfl
theorem putAll_ok {b : Bool} {acc t : Tbl} (h : OkT b acc) (ht : ∀ p ∈ t, OkE b p.2) : OkT b (putAll acc t) := by
  induction t generalizing acc with
  | nil => exact h
  | cons p t ih => exact ih (h.put (ht p List.mem_cons_self)) fun q hq => ht q (List.mem_cons_of_mem _ hq)
theorem putAll_wt {b : Bool} {acc t : Tbl} (h : OkT b acc) (ht : ∀ p ∈ t, OkE b p.2) : wt (putAll acc t) ≤ wt acc + wt t := by
  induction t generalizing acc with
  | nil => exact Nat.le_refl _
  | cons p t ih =>
    have h1 := ih (h.put (k := p.1) (ht p List.mem_cons_self)) fun q hq => ht q (List.mem_cons_of_mem _ hq)
    have h2 := wt_ups (k := p.1) (e := p.2) h.nd
    show wt (putAll (putE acc p.1 p.2) t) ≤ _
    simp only [wt, List.map_cons, List.sum_cons] at h1 h2 ⊢
    omega

theorem cal_join {X : Wd} (W : Wok X) {k : Nat} {b : Bool} {ts : List Tbl} (h : ∀ t ∈ ts, OkT b t) (hl : wts ts ≤ 200) :
    Cal X (k + 3) "_law_joined" [.list (ts.map fun t => .dict (encT b t))] (.dict (encT b (joinT ts))) := by
  refine Cal.of (k := k + 2) (r := recAt 11) (names := ["tables"]) (W.recs 11 (by decide)) ?_ (by decide) rfl ?_ ?_ rfl rfl rfl ?_
  · intro pm cd doc vs h
    obtain ⟨v, rfl⟩ := List.length_eq_one_iff.mp h
    rfl
  · intro x hx; simp at hx; subst hx; exact .inl rfl
  · decide
  · refine Does.cons (Do1.newDict (.inl rfl)) ?_
    refine Does.sub (ρ' := [("joined", .odict (encT b [])), ("tables", .val (.list (ts.map fun t => .dict (encT b t))))]) (.cons rfl (.cons rfl .nil)) ?_
    refine Does.cons (Do1.for_ (EvIt.list (Ev.name rfl)) (out := .next [("joined", .odict (encT b (joinT ts))), ("tables", .val (.list (ts.map fun t => .dict (encT b t))))]) ?_) (Does.freezeD (x := "joined") rfl (Does.ret (Do1.ret (Ev.name rfl))))
    refine Lp.foldTo (fun t : Tbl => D.dict (encT b t)) (fun acc : Tbl => [("joined", .odict (encT b acc)), ("tables", .val (.list (ts.map fun t => .dict (encT b t))))]) putAll (fun acc r => OkT b acc ∧ (∀ t ∈ r, OkT b t) ∧ wt acc + wts r ≤ 200) ts [] (joinT ts) ⟨⟨.nil, fun _ h => (nomatch h)⟩, h, by simpa [wt] using hl⟩ rfl rfl rfl ?_
    rintro acc t r ⟨h1, h2, h3⟩
    have ht := h2 t List.mem_cons_self
    have h3' : wt acc + (wt t + wts r) ≤ 200 := h3
    refine ⟨⟨putAll_ok h1 ht.ok, fun q hq => h2 q (List.mem_cons_of_mem _ hq), by have := putAll_wt h1 ht.ok; omega⟩, _, Asg.name (.inl rfl), ?_⟩
    refine Does.out (ρ' := [("joined", .odict (encT b (putAll acc t))), ("tables", .val (.list (ts.map fun t => .dict (encT b t))))]) (Does.one ?_) (.cons rfl (.cons rfl .nil))
    refine Do1.sub (ρ' := [("joined", .odict (encT b acc)), ("table", .val (.dict (encT b t))), ("tables", .val (.list (ts.map fun t => .dict (encT b t))))]) (.cons rfl (.cons rfl (.cons rfl .nil))) ?_
    refine Do1.out (ρ' := [("joined", .odict (encT b (putAll acc t))), ("table", .val (.dict (encT b t))), ("tables", .val (.list (ts.map fun t => .dict (encT b t))))]) (Do1.for_ (EvIt.items (Ev.name rfl)) ?_) (.cons rfl (.cons rfl .nil))
    rw [items_enc]
    refine Lp.foldTo (fun p : Str × Ent => D.tuple [.str p.1, encE b p.2]) (fun a : Tbl => [("joined", .odict (encT b a)), ("table", .val (.dict (encT b t))), ("tables", .val (.list (ts.map fun t => .dict (encT b t))))]) (fun a p => putE a p.1 p.2) (fun a q => OkT b a ∧ (∀ p ∈ q, OkE b p.2) ∧ wt a + wt q ≤ 200) t acc _ ⟨h1, ht.ok, by omega⟩ rfl rfl rfl ?_
    rintro a ⟨x, e⟩ q ⟨g1, g2, g3⟩
    have he : OkE b e := g2 (x, e) List.mem_cons_self
    have hw := wt_ups (k := x) (e := e) g1.nd
    have g3' : wt a + (e.2.length + 1 + wt q) ≤ 200 := g3
    refine ⟨⟨g1.put he, fun p hp => g2 p (List.mem_cons_of_mem _ hp), by show wt (putE a x e) + wt q ≤ 200; omega⟩, _, Asg.tuple (.cons (Asg.name (.inl rfl)) (fun _ => rfl) (.cons (Asg.name (.inl rfl)) (fun _ => rfl) .nil)), ?_⟩
    have hlen : (encT b a).length ≤ 1000 := by have := len_wt (t := a); simp [encTb]; omega
    have hgl := getD_len (t := a) (k := x)
    refine Does.out (Does.one (Do1.setItem (d := encE b (addE ((get a x).getD zeroE) e)) rfl (Ev.call (.cons (Ev.dictGet2 (d := encE b zeroE) (EvD.own rfl) (Ev.name rfl) (Ev.tuple (.cons Ev.int (.cons Ev.int (.cons Ev.int (.cons Ev.int (.cons Ev.emptyDict .nil))))) (by simp [zeroE]))) (.cons (Ev.name rfl) .nil)) ?_) (Ev.name rfl) hlen)) (.cons ?_ (.cons rfl (.cons rfl .nil)))
    · show Cal X (k + 2) _ [(dget (encT b a) x).getD (encE b zeroE), encE b e] _
      rw [dget_encT]; exact cal_addE W g1.getD he (by show ((get a x).getD zeroE).2.length + e.2.length ≤ 500; omega)
    · show some _ = some _
      congr 2
      exact dset_put g1 he
end Mine
end

section
set_option linter.unusedVariables false
set_option maxRecDepth 100000
namespace Mine

noncomputable def gatC (β : Str → Str) (c : Calls) : Calls := c.foldl (fun acc p => addC acc [(β p.1, p.2)]) []
noncomputable def gatT (β : Str → Str) (t : Tbl) : Tbl := t.foldl (fun acc p => putE acc (β p.1) (p.2.1, gatC β p.2.2)) []

theorem gatC_go {β : Str → Str} {b : Bool} (c acc : Calls) (h : (keys acc).Nodup) (ha : OkC b acc) (hc : OkC b c) :
    (keys (c.foldl (fun acc p => addC acc [(β p.1, p.2)]) acc)).Nodup ∧ OkC b (c.foldl (fun acc p => addC acc [(β p.1, p.2)]) acc) ∧ (c.foldl (fun acc p => addC acc [(β p.1, p.2)]) acc).length ≤ acc.length + c.length := by
  induction c generalizing acc with
  | nil => exact ⟨h, ha, Nat.le_refl _⟩
  | cons p c ih =>
    have hp : OkC b [(β p.1, p.2)] := fun q hq => by simp at hq; subst hq; exact hc p List.mem_cons_self
    obtain ⟨h1, h2, h3⟩ := ih (addC acc [(β p.1, p.2)]) (addC_nodup _ h) (addC_ok ha hp) fun q hq => hc q (List.mem_cons_of_mem _ hq)
    refine ⟨h1, h2, Nat.le_trans h3 ?_⟩
    have := addC_len (t := acc) (s := [(β p.1, p.2)])
    simp at this ⊢; omega
theorem gatE_ok {β : Str → Str} {b : Bool} {e : Ent} (h : OkE b e) : OkE b (e.1, gatC β e.2) :=
  let ⟨h1, h2, _⟩ := gatC_go (β := β) e.2 [] .nil (fun _ h => (nomatch h)) h.ok
  ⟨h.four, h1, h2⟩
theorem gatC_len {β : Str → Str} {b : Bool} {c : Calls} (h : OkC b c) : (gatC β c).length ≤ c.length := by
  obtain ⟨_, _, h3⟩ := gatC_go (β := β) (b := b) c [] .nil (fun _ h => (nomatch h)) h
  unfold gatC; simpa using h3

/-- texts of a table, short enough -/
noncomputable def Shrt (t : Tbl) : Prop := ∀ p ∈ t, p.1.length ≤ 100 ∧ ∀ q ∈ p.2.2, q.1.length ≤ 100

theorem cal_gat {X : Wd} (W : Wok X) {k : Nat} {b : Bool} {β : Str → Str} (hβ : ∀ x : Str, x.length ≤ 100 → Cal X (k + 2) "_strip_exception_details" [.str x] (.str (β x))) {t : Tbl} (h : OkT b t) (hsh : Shrt t) (hl : wt t ≤ 200) :
    Cal X (k + 3) "_law_gathered" [.dict (encT b t)] (.dict (encT b (gatT β t))) := by
  refine Cal.of (k := k + 2) (r := recAt 12) (names := ["table"]) (W.recs 12 (by decide)) ?_ (by decide) rfl ?_ ?_ rfl rfl rfl ?_
  · intro pm cd doc vs h
    obtain ⟨v, rfl⟩ := List.length_eq_one_iff.mp h
    rfl
  · intro x hx; simp at hx; subst hx; exact .inl rfl
  · decide
  · refine Does.cons (Do1.newDict (.inl rfl)) ?_
    refine Does.sub (ρ' := [("gathered", .odict (encT b [])), ("table", .val (.dict (encT b t)))]) (.cons rfl (.cons rfl .nil)) ?_
    refine Does.cons (Do1.for_ (EvIt.items (Ev.name rfl)) (out := .next [("gathered", .odict (encT b (gatT β t))), ("table", .val (.dict (encT b t)))]) ?_) (Does.freezeD (x := "gathered") rfl (Does.ret (Do1.ret (Ev.name rfl))))
    rw [items_enc]
    refine Lp.foldTo (fun p : Str × Ent => D.tuple [.str p.1, encE b p.2]) (fun a : Tbl => [("gathered", .odict (encT b a)), ("table", .val (.dict (encT b t)))]) (fun a p => putE a (β p.1) (p.2.1, gatC β p.2.2)) (fun a q => OkT b a ∧ (∀ p ∈ q, OkE b p.2) ∧ Shrt q ∧ wt a + wt q ≤ 200) t [] _ ⟨⟨.nil, fun _ h => (nomatch h)⟩, h.ok, hsh, by simpa [wt] using hl⟩ rfl rfl rfl ?_
    rintro a ⟨x, e⟩ q ⟨g1, g2, gs, g3⟩
    have he : OkE b e := g2 (x, e) List.mem_cons_self
    have he' : OkE b (e.1, gatC β e.2) := gatE_ok he
    have hcl : (gatC β e.2).length ≤ e.2.length := gatC_len he.ok
    have hw := wt_ups (k := β x) (e := (e.1, gatC β e.2)) g1.nd
    have g3' : wt a + (e.2.length + 1 + wt q) ≤ 200 := g3
    have hx : x.length ≤ 100 := (gs (x, e) List.mem_cons_self).1
    have hcs : ∀ p ∈ e.2, p.1.length ≤ 100 := (gs (x, e) List.mem_cons_self).2
    refine ⟨⟨g1.put he', fun p hp => g2 p (List.mem_cons_of_mem _ hp), fun p hp => gs p (List.mem_cons_of_mem _ hp), by show wt (putE a (β x) (e.1, gatC β e.2)) + wt q ≤ 200; simp only at hw; omega⟩, _, Asg.tuple (.cons (Asg.name (.inl rfl)) (fun _ => rfl) (.cons (Asg.name (.inl rfl)) (fun _ => rfl) .nil)), ?_⟩
    obtain ⟨e1, ec⟩ := e
    obtain ⟨c1, c2, c3, c4, rfl⟩ := len_four (show e1.length = 4 from he.four)
    refine Does.sub (ρ' := [("name", .val (.str x)), ("entry", .val (.tuple [.int c1, .int c2, .int c3, .int c4, .dict (encC b ec)])), ("gathered", .odict (encT b a)), ("table", .val (.dict (encT b t)))]) (.cons rfl (.cons rfl (.cons rfl (.cons rfl .nil)))) ?_
    refine Does.cons (Do1.assign (.inl rfl) Ev.emptyDict) ?_
    refine Does.sub (ρ' := [("callers", .val (.dict (encC b []))), ("name", .val (.str x)), ("entry", .val (.tuple [.int c1, .int c2, .int c3, .int c4, .dict (encC b ec)])), ("gathered", .odict (encT b a)), ("table", .val (.dict (encT b t)))]) (.cons rfl (.cons rfl (.cons rfl (.cons rfl (.cons rfl .nil))))) ?_
    refine Does.cons (Do1.for_ (EvIt.items (Ev.tupItem (Ev.name rfl) Ev.int (by decide) rfl)) (out := .next [("callers", .val (.dict (encC b (gatC β ec)))), ("name", .val (.str x)), ("entry", .val (.tuple [.int c1, .int c2, .int c3, .int c4, .dict (encC b ec)])), ("gathered", .odict (encT b a)), ("table", .val (.dict (encT b t)))]) ?_) ?_
    · rw [items_enc]
      refine Lp.foldTo (fun p : Str × List Int => D.tuple [.str p.1, encV b p.2]) (fun acc : Calls => [("callers", .val (.dict (encC b acc))), ("name", .val (.str x)), ("entry", .val (.tuple [.int c1, .int c2, .int c3, .int c4, .dict (encC b ec)])), ("gathered", .odict (encT b a)), ("table", .val (.dict (encT b t)))]) (fun acc p => addC acc [(β p.1, p.2)])
        (fun acc r => (keys acc).Nodup ∧ OkC b acc ∧ OkC b r ∧ (∀ p ∈ r, p.1.length ≤ 100) ∧ acc.length + r.length ≤ 200) ec [] _ ⟨.nil, fun _ h => (nomatch h), he.ok, hcs, by simp at g3' ⊢; omega⟩ rfl rfl rfl ?_
      rintro acc ⟨y, v⟩ r ⟨h1, h2, h3, h4, h5⟩
      have hv : OkC b [(β y, v)] := fun p hp => by simp at hp; subst hp; exact h3 (y, v) List.mem_cons_self
      have hl5 := addC_len (t := acc) (s := [(β y, v)])
      simp at h5 hl5
      refine ⟨⟨addC_nodup _ h1, addC_ok h2 hv, fun p hp => h3 p (List.mem_cons_of_mem _ hp), fun p hp => h4 p (List.mem_cons_of_mem _ hp), by show (addC acc [(β y, v)]).length + r.length ≤ 200; omega⟩, _, Asg.tuple (.cons (Asg.name (.inl rfl)) (fun _ => rfl) (.cons (Asg.name (.inl rfl)) (fun _ => rfl) .nil)), ?_⟩
      refine Does.out (Does.one (Do1.assign (d := .dict (encC b (addC acc [(β y, v)]))) (.inl rfl) (Ev.call (.cons (Ev.name rfl) (.cons (Ev.dict1 (Ev.call (.cons (Ev.name rfl) .nil) (hβ y (h4 (y, v) List.mem_cons_self))) (Ev.name rfl)) .nil)) (cal_addC (k := k + 1) W (s := [(β y, v)]) h1 h2 hv (by simp; omega))))) (.cons rfl (.cons rfl (.cons rfl (.cons rfl (.cons rfl .nil)))))
    · refine Does.cons (Do1.assign (.inl rfl) (Ev.call (.cons (Ev.name rfl) .nil) (hβ x hx))) ?_
      have hlen : (encT b a).length ≤ 1000 := by have := len_wt (t := a); simp [encTb]; omega
      have hgl := getD_len (t := a) (k := β x)
      refine Does.out (Does.one (Do1.setItem (d := encE b (addE ((get a (β x)).getD zeroE) ([c1, c2, c3, c4], gatC β ec))) rfl (Ev.call (.cons (Ev.dictGet2 (d := encE b zeroE) (EvD.own rfl) (Ev.name rfl) (Ev.tuple (.cons Ev.int (.cons Ev.int (.cons Ev.int (.cons Ev.int (.cons Ev.emptyDict .nil))))) (by simp [zeroE])))
        (.cons (Ev.binop (d := encE b ([c1, c2, c3, c4], gatC β ec)) (Ev.tupUpto (b := 4) (Ev.name rfl) Ev.int (by simp) (by simp)) (Ev.tuple (ds := [.dict (encC b (gatC β ec))]) (.cons (Ev.name rfl) .nil) (by simp)) (op_add_tuple (by simp) (by simp) (by simp))) .nil)) ?_) (Ev.name rfl) hlen)) (.cons ?_ (.cons rfl .nil))
      · show Cal X (k + 2) _ [(dget (encT b a) (β x)).getD (encE b zeroE), encE b ([c1, c2, c3, c4], gatC β ec)] _
        rw [dget_encT]; exact cal_addE W g1.getD he' (by show ((get a (β x)).getD zeroE).2.length + (gatC β ec).length ≤ 500; simp only at hcl g3'; omega)
      · show some _ = some _
        congr 2
        exact dset_put g1 he'
end Mine
end

section
set_option linter.unusedVariables false
set_option maxRecDepth 100000
namespace Mine

/-- x, y = (a, b): the stores go from right to left -/
theorem Do1.unpackSw {c : Cx} {ρ : AEnv} {x y : Str} {xp yp tp pos : Pos} {kt : Nat} {e : PySem.Expr} {d₁ d₂ : D} (hx : c.sto x) (hy : c.sto y) (h : Ev c ρ e (.tuple [d₁, d₂]))
    (hs : ∀ env, EnvOk c.sc env → swapsWithSole [.Tuple [.Name x xp, .Name y yp] kt tp] e pos.line env = pure false)
    (hw : ∀ env, EnvOk c.sc env → swappedStores [.Tuple [.Name x xp, .Name y yp] kt tp] e env = pure (some [x, y])) :
    Do1 c ρ (.Assign [.Tuple [.Name x xp, .Name y yp] kt tp] e pos) (.next ((x, .val d₁) :: (y, .val d₂) :: ρ)) := fun env A B G s Q he hr F hq => by
  show wpAny c.X.M A (standAt pos >>= fun _ => swapsWithSole [.Tuple [.Name x xp, .Name y yp] kt tp] e pos.line env >>= fun b => if b then _ else _) Q NoE s
  refine wpAny_bind (wpAny_standAt (wpAny_bind (wpAny_of_eq (hs env he) ?_)))
  show wpAny c.X.M A (eval e env >>= fun v => swappedStores [.Tuple [.Name x xp, .Name y yp] kt tp] e env >>= fun sw => assignStores env v sw ((assignEach [.Tuple [.Name x xp, .Name y yp] kt tp] env).map (·.2))) Q NoE s
  refine wpAny_bind (h env A B G s he hr F _ fun v s₁ G₁ st₁ g₁ r₁ => wpAny_bind (wpAny_of_eq (hw env he) ?_))
  have F₁ := F.grow st₁.heap g₁
  cases r₁ with
  | @tuple a o vs _ h1 h2 h3 =>
    obtain ⟨v1, v2, rfl, w1, w2⟩ : ∃ v1 v2, vs = [v1, v2] ∧ Rel c.X G₁ v1 d₁ ∧ Rel c.X G₁ v2 d₂ := by
      cases h3 with | cons a q3 => cases q3 with | cons b q3 => cases q3; exact ⟨_, _, rfl, a, b⟩
    show wpAny c.X.M A (rule "assign.swapped-stores" >>= fun _ => unpackItems (.ref a) 2 none >>= fun items => assignInOrder (([x, y] : List Str).reverse.map fun n => bindName env n) items.reverse >>= fun _ => pure .next) Q NoE s₁
    have hu : ∀ {Q' : List Value → Shared → Prop}, (∀ h', Heap.ExtBut s₁.heap.objs.size s₁.heap h' → Q' [v1, v2] { s₁ with heap := h' }) → wpAny c.X.M A (unpackItems (.ref a) 2 none) Q' NoE s₁ := fun {Q'} hq' => by
      have := wpAny_unpackItems_tuple (prog := c.X.prog) (w := c.X.w) (A := A) (E := NoE) (s := s₁) (Q := Q') (items := [v1, v2].toArray) hr.hd (h2.isTuple (g₁.hold.get _ _ h1)) (by simpa using hq')
      exact this
    refine wpAny_bind (wpAny_rule (wpAny_bind (hu fun h' hx' => ?_)))
    have hk : Kp c.X s₁.heap h' := .of fun b o e => hx' b o (Nat.ne_of_lt (Heap.lt_size e)) e
    have F₂ := F₁.grow hk (.same F₁.hold hk)
    show wpAny c.X.M A ((holding [v1] (bindName env y v2) >>= fun _ => (holding [] (bindName env x v1) >>= fun _ => pure ())) >>= fun _ => pure .next) Q NoE { s₁ with heap := h' }
    refine wpAny_bind (wpAny_bind (wpAny_holding (wpAny_bindName (F₂.store (s := { s₁ with heap := h' }) he hy (sl := .val d₂) w2 (fun e => by cases e) fun s₃ st₃ F₃ => ?_))))
    refine wpAny_bind (wpAny_holding (wpAny_bindName (F₃.store he hx (sl := .val d₁) w1 (fun e => by cases e) fun s₄ st₄ F₄ => wpAny_pure (wpAny_pure ?_))))
    exact hq s₄ G₁ (st₁.s.trans (SStp.trans (s' := { s₁ with heap := h' }) ⟨hk.tab, id, rfl, rfl⟩ (st₃.trans st₄))) (g₁.b F.keep) F₄

/-! ## the bare name, as doctest tells it -/
noncomputable def endN (x : Str) : Int := if 0 ≤ Txt.find x "\n" then Txt.find x "\n" else x.length
noncomputable def endC (x : Str) : Int := if 0 ≤ find3 x ":" 0 (endN x) then find3 x ":" 0 (endN x) else endN x
noncomputable def stS (x : Str) : Int := if 0 ≤ rfind3 x "." 0 (endC x) then rfind3 x "." 0 (endC x) + 1 else 0
noncomputable def stripF (x : Str) : Str := Txt.slice x (some (stS x)) (some (endC x))

theorem cal_strip {X : Wd} (W : Wok X) {k : Nat} {x : Str} (hx : x.length ≤ 100) : Cal X (k + 1) "_strip_exception_details" [.str x] (.str (stripF x)) := by
  refine Cal.of (r := recAt 6) (names := ["msg"]) (W.recs 6 (by decide)) ?_ (by decide) rfl ?_ ?_ rfl rfl rfl ?_
  · intro pm cd doc vs h
    obtain ⟨v, rfl⟩ := List.length_eq_one_iff.mp h
    rfl
  · intro x hx; simp at hx; subst hx; exact .inl rfl
  · decide
  · refine Does.cons (Do1.unpackSw (.inl rfl) (.inl rfl) (Ev.tuple (.cons Ev.int (.cons (Ev.bcall rfl (W.fn "len").1 (W.fn "len").2 (.cons (Ev.name rfl) .nil) (op_len_str (by omega))) .nil)) (by simp)) (fun env he => rfl) (fun env he => ?_)) ?_
    · have hsc := he.is
      obtain ⟨scope, locals, globals, cells, qual, func, code, frame, builtins⟩ := env
      subst hsc
      rfl
    refine Does.cons (Do1.assign (.inl rfl) (Ev.find1 (y := "\n") (Ev.name rfl) Ev.str (by intro _; rfl) (by rfl) (by intro _; rfl))) ?_
    refine Does.cons (ρ' := [("end", .val (.int (endN x))), ("start", .val (.int 0)), ("msg", .val (.str x))]) (Do1.if_ (Tst.cmp (Ev.name rfl) Ev.int op_ge_int) (fun hb => ?_) fun hb => ?_) ?_
    · have e : endN x = Txt.find x "\n" := if_pos (of_decide_eq_true hb)
      rw [e]
      exact Does.out (Does.one (Do1.assign (.inl rfl) (Ev.name rfl))) (.cons rfl (.cons rfl (.cons rfl .nil)))
    · have e : endN x = x.length := if_neg (of_decide_eq_false hb)
      rw [e]
      exact Does.out Does.nil (.cons rfl (.cons rfl (.cons rfl .nil)))
    refine Does.cons (Do1.assign (.inl rfl) (Ev.find3 (y := ":") (Ev.name rfl) Ev.str Ev.int (Ev.name rfl) (by intro _; rfl) (by rfl) (by intro _; rfl))) ?_
    refine Does.cons (ρ' := [("end", .val (.int (endC x))), ("start", .val (.int 0)), ("msg", .val (.str x))]) (Do1.if_ (Tst.cmp (Ev.name rfl) Ev.int op_ge_int) (fun hb => ?_) fun hb => ?_) ?_
    · have e : endC x = Mine.find3 x ":" 0 (endN x) := if_pos (of_decide_eq_true hb)
      rw [e]
      exact Does.out (Does.one (Do1.assign (.inl rfl) (Ev.name rfl))) (.cons rfl (.cons rfl (.cons rfl .nil)))
    · have e : endC x = endN x := if_neg (of_decide_eq_false hb)
      rw [e]
      exact Does.out Does.nil (.cons rfl (.cons rfl (.cons rfl .nil)))
    refine Does.cons (Do1.assign (.inl rfl) (Ev.rfind3 (y := ".") (Ev.name rfl) Ev.str Ev.int (Ev.name rfl) (by intro _; rfl) (by rfl) (by intro _; rfl))) ?_
    refine Does.cons (ρ' := [("start", .val (.int (stS x))), ("end", .val (.int (endC x))), ("msg", .val (.str x))]) (Do1.if_ (Tst.cmp (Ev.name rfl) Ev.int op_ge_int) (fun hb => ?_) fun hb => ?_) ?_
    · have e : stS x = Mine.rfind3 x "." 0 (endC x) + 1 := if_pos (of_decide_eq_true hb)
      rw [e]
      exact Does.out (Does.one (Do1.assign (.inl rfl) (Ev.binop (Ev.name rfl) Ev.int op_add_int))) (.cons rfl (.cons rfl (.cons rfl .nil)))
    · have e : stS x = 0 := if_neg (of_decide_eq_false hb)
      rw [e]
      exact Does.out Does.nil (.cons rfl (.cons rfl (.cons rfl .nil)))
    exact Does.ret (Do1.ret (Ev.strSlice (Ev.name rfl) (EvP.some (Ev.name rfl)) (EvP.some (Ev.name rfl)) (by omega)))

/-! ## the bare name, sign by sign -/
noncomputable def scanB (w : List Nat) : List Nat → Bool × List Nat
  | [] => (false, w)
  | ch :: r => if ch = 58 ∨ ch = 10 then (true, w) else scanB (if ch = 46 then [] else w ++ [ch]) r
noncomputable def bareF (x : Str) : Str := ⟨(scanB [] x.cps.toList).2.toArray⟩

theorem eq_sign (ch : Nat) (y : Str) (n : Nat) (hy : y = ⟨#[n]⟩) : ((⟨#[ch]⟩ : Str) == y) = decide (ch = n) := by
  subst hy
  by_cases h : ch = n
  · subst h; simp
  · have : (⟨#[ch]⟩ : Str) ≠ ⟨#[n]⟩ := fun e => h (by injection e with e; simpa using e)
    simp [h, this]

theorem Lp.scan {c : Cx} {tgt : PySem.Expr} {body : List Stmt} (P : List Nat → AEnv)
    (hA : ∀ (ch : Nat) (w : List Nat), w.length + 1 ≤ 100 → (ch = 58 ∨ ch = 10) → ∃ ρ₁, Asg c (P w) tgt (signD ch) ρ₁ ∧ Does c ρ₁ body (.ret (.str ⟨w.toArray⟩)))
    (hB : ∀ (ch : Nat) (w : List Nat), w.length + 1 ≤ 100 → ¬ (ch = 58 ∨ ch = 10) → ∃ ρ₁, Asg c (P w) tgt (signD ch) ρ₁ ∧ Does c ρ₁ body (.next (P (if ch = 46 then [] else w ++ [ch])))) :
    ∀ (l w : List Nat), w.length + l.length ≤ 100 → Lp c tgt body (P w) (l.map signD) (if (scanB w l).1 = true then .ret (.str ⟨(scanB w l).2.toArray⟩) else .next (P (scanB w l).2)) := by
  intro l
  induction l with
  | nil => intro w _; exact .nil
  | cons ch r ih =>
    intro w hw
    simp only [List.length_cons] at hw
    by_cases hc : ch = 58 ∨ ch = 10
    · obtain ⟨ρ₁, a1, a2⟩ := hA ch w (by omega) hc
      have e : scanB w (ch :: r) = (true, w) := by rw [scanB, if_pos hc]
      rw [e]
      exact .ret a1 a2
    · obtain ⟨ρ₁, a1, a2⟩ := hB ch w (by omega) hc
      have e : scanB w (ch :: r) = scanB (if ch = 46 then [] else w ++ [ch]) r := by rw [scanB, if_neg hc]
      rw [e]
      refine .next a1 a2 (ih _ ?_)
      split
      · simp; omega
      · simp; omega

theorem Does.scan {c : Cx} {tgt iter : PySem.Expr} {body ss : List Stmt} {pos : Pos} {l w : List Nat} (P : List Nat → AEnv) (hi : EvIt c (P w) tgt iter (l.map signD)) (hw : w.length + l.length ≤ 100)
    (hA : ∀ (ch : Nat) (w : List Nat), w.length + 1 ≤ 100 → (ch = 58 ∨ ch = 10) → ∃ ρ₁, Asg c (P w) tgt (signD ch) ρ₁ ∧ Does c ρ₁ body (.ret (.str ⟨w.toArray⟩)))
    (hB : ∀ (ch : Nat) (w : List Nat), w.length + 1 ≤ 100 → ¬ (ch = 58 ∨ ch = 10) → ∃ ρ₁, Asg c (P w) tgt (signD ch) ρ₁ ∧ Does c ρ₁ body (.next (P (if ch = 46 then [] else w ++ [ch]))))
    (hret : ∀ w, Does c (P w) ss (.ret (.str ⟨w.toArray⟩))) (hs : ∀ env x, foldedSetIterable iter env x = pure x := by intro _ _; rfl) : Does c (P w) (.For tgt iter body [] pos :: ss) (.ret (.str ⟨(scanB w l).2.toArray⟩)) := by
  have L := Lp.scan P hA hB l w hw
  cases h : (scanB w l).1 with
  | true => rw [h, if_pos rfl] at L; exact Does.ret (Do1.for_ hi L hs)
  | false => rw [h, if_neg (by decide)] at L; exact Does.cons (Do1.for_ hi L hs) (hret _)

theorem or_sign (ch : Nat) : (((⟨#[ch]⟩ : Str) == Str.ofString ":") || ((⟨#[ch]⟩ : Str) == Str.ofString "\n")) = decide (ch = 58 ∨ ch = 10) := by
  rw [eq_sign _ _ 58 (by decide +kernel), eq_sign _ _ 10 (by decide +kernel), Bool.decide_or]

theorem cal_bare {X : Wd} (W : Wok X) {k : Nat} {x : Str} (hx : x.length ≤ 100) : Cal X (k + 1) "_law_bare" [.str x] (.str (bareF x)) := by
  refine Cal.of (r := recAt 13) (names := ["text"]) (W.recs 13 (by decide)) ?_ (by decide) rfl ?_ ?_ rfl rfl rfl ?_
  · intro pm cd doc vs h
    obtain ⟨v, rfl⟩ := List.length_eq_one_iff.mp h
    rfl
  · intro x hx; simp at hx; subst hx; exact .inl rfl
  · decide
  · refine Does.cons (Do1.assign (.inl rfl) (Ev.str (x := ⟨([] : List Nat).toArray⟩))) ?_
    refine Does.sub (ρ' := [("word", .val (.str ⟨([] : List Nat).toArray⟩)), ("text", .val (.str x))]) (.cons rfl (.cons rfl .nil)) ?_
    unfold bareF
    refine Does.scan (w := []) (fun w => [("word", .val (.str ⟨w.toArray⟩)), ("text", .val (.str x))]) (EvIt.str (Ev.name rfl)) (by simpa [Str.length] using hx) (fun ch w hw hc => ⟨_, Asg.name (.inl rfl), ?_⟩) (fun ch w hw hc => ⟨_, Asg.name (.inl rfl), ?_⟩) fun w => Does.ret (Do1.ret (Ev.name rfl))
    · exact Does.ret (Do1.if_ (Tst.or2 (Tst.cmp (Ev.name rfl) Ev.str op_eq_str) fun _ => Tst.cmp (Ev.name rfl) Ev.str op_eq_str) (fun _ => Does.ret (Do1.ret (Ev.name rfl))) fun h => by
        rw [or_sign] at h; exact absurd hc (of_decide_eq_false h))
    · refine Does.cons (Do1.if_ (Tst.or2 (Tst.cmp (Ev.name rfl) Ev.str op_eq_str) fun _ => Tst.cmp (Ev.name rfl) Ev.str op_eq_str) (fun h => by rw [or_sign] at h; exact absurd (of_decide_eq_true h) hc) fun _ => Does.nil) ?_
      refine Does.out (Does.one (Do1.assign (d := .str ⟨(if ch = 46 then [] else w ++ [ch]).toArray⟩) (.inl rfl) (Ev.ifexp (Tst.cmp (Ev.name rfl) Ev.str op_eq_str) (fun h => ?_) fun h => ?_))) (.cons rfl (.cons rfl .nil))
      · rw [eq_sign _ _ 46 (by decide +kernel)] at h
        rw [if_pos (of_decide_eq_true h)]
        exact Ev.str (x := ⟨([] : List Nat).toArray⟩)
      · rw [eq_sign _ _ 46 (by decide +kernel)] at h
        rw [if_neg (of_decide_eq_false h)]
        have e : (⟨(w ++ [ch]).toArray⟩ : Str) = (⟨w.toArray⟩ : Str) ++ (⟨#[ch]⟩ : Str) := by
          show Str.mk _ = Str.mk (w.toArray ++ #[ch]); simp
        rw [e]
        exact Ev.binop (Ev.name rfl) (Ev.name rfl) (op_add_str (by show w.toArray.size ≤ 1000; simp; omega) (by show (#[ch] : Array Nat).size ≤ 1000; simp))
end Mine
end

section
set_option linter.unusedVariables false
set_option maxRecDepth 100000
set_option maxHeartbeats 4000000
namespace Mine

theorem Does.asg {c : Cx} {ρ : AEnv} {x : Str} {e : PySem.Expr} {xpos pos : Pos} {d : D} {ss : List Stmt} {o : Out} (h : Ev c ρ e d) (h₂ : Does c ((x, .val d) :: ρ) ss o) (hx : c.sc.names.lookup x = some .local := by rfl) (hs : ∀ env, EnvOk c.sc env → swapsWith e (some (.Name x xpos)) pos.line env = pure false := by intro _ _; rfl) :
    Does c ρ (.Assign [.Name x xpos] e pos :: ss) o := .cons (.assign (.inl hx) h hs) h₂
theorem Does.ifNo {c : Cx} {ρ : AEnv} {e : PySem.Expr} {x : List Stmt} {pos : Pos} {b : Bool} {ss : List Stmt} {o : Out} (ht : Tst c ρ e b) (hb : b = false) (h : Does c ρ ss o) : Does c ρ (.If e x [] pos :: ss) o :=
  .cons (.if_ ht (fun h' => by rw [hb] at h'; cases h') fun _ => .nil) h
theorem Does.ifYes {c : Cx} {ρ : AEnv} {e : PySem.Expr} {x y : List Stmt} {pos : Pos} {b : Bool} {ss : List Stmt} {d : D} (ht : Tst c ρ e b) (hb : b = true) (h : Does c ρ x (.ret d)) : Does c ρ (.If e x y pos :: ss) (.ret d) :=
  .ret (.if_ ht (fun _ => h) fun h' => by rw [hb] at h'; cases h')
theorem sub_bin {a b : PySem.Expr} {o : Operator} {p : Pos} (x v : Value) : ∃ l, subscripted (.BinOp a o b p) false x v = operate l (getItem x v) := ⟨_, rfl⟩

/-! ## func_std_string -/
noncomputable def stdF (a : Str) (l : Int) (n : Str) : Str :=
  if (a == Str.ofString "~" && l == 0) = true then
    (if (Txt.startswith n "<" && Txt.endswith n ">") = true then Str.ofString "{" ++ Txt.slice n (some 1) (some (-1)) ++ Str.ofString "}" else n)
  else a ++ Str.ofString ":" ++ Str.ofString (toString l) ++ Str.ofString "(" ++ n ++ Str.ofString ")"

theorem cal_std {X : Wd} (W : Wok X) {k : Nat} {a n : Str} {l : Int} (ha : a.length ≤ 50) (hn : n.length ≤ 50) (h0 : 0 ≤ l) (h1 : l < 100) : Cal X (k + 1) "func_std_string" [.tuple [.str a, .int l, .str n]] (.str (stdF a l n)) := by
  refine Cal.of (r := recAt 1) (names := ["func_name"]) (W.recs 1 (by decide)) ?_ (by decide) rfl ?_ ?_ rfl rfl rfl ?_
  · intro pm cd doc vs h
    obtain ⟨v, rfl⟩ := List.length_eq_one_iff.mp h
    rfl
  · intro x hx; simp at hx; subst hx; exact .inl rfl
  · decide
  · refine Does.ret (Do1.if_ (Tst.cmp (Ev.tupUpto (b := 2) (Ev.name rfl) Ev.int (by simp) (by simp)) (Ev.tuple (.cons Ev.str (.cons Ev.int .nil)) (by simp)) op_eq_pair) (fun hb => ?_) fun hb => ?_)
    · refine Does.cons (Do1.assign (.inl rfl) (Ev.tupItem (Ev.name rfl) Ev.int (by decide) rfl)) ?_
      refine Does.ret (Do1.if_ (Tst.and2 (Tst.bool (Ev.startswith (Ev.name rfl) Ev.str (by intro _; rfl) (by rfl) (by intro _; rfl))) fun _ => Tst.bool (Ev.endswith (Ev.name rfl) Ev.str (by intro _; rfl) (by rfl) (by intro _; rfl))) (fun hb2 => ?_) fun hb2 => ?_)
      · have e : stdF a l n = Str.ofString "{" ++ Txt.slice n (some 1) (some (-1)) ++ Str.ofString "}" := by unfold stdF; rw [if_pos hb, if_pos hb2]
        rw [e]
        exact Does.ret (Do1.ret (Ev.binop Ev.str (Ev.strSlice (Ev.name rfl) (EvP.some Ev.int) (EvP.some (Ev.unary Ev.int op_neg_int)) (by omega)) (op_fmt1 (Nat.le_trans (Txt.slice_le _ _ _) (by omega)))))
      · have e : stdF a l n = n := by unfold stdF; rw [if_pos hb, if_neg (by rw [hb2]; decide)]
        rw [e]
        exact Does.ret (Do1.ret (Ev.name rfl))
    · have e : stdF a l n = a ++ Str.ofString ":" ++ Str.ofString (toString l) ++ Str.ofString "(" ++ n ++ Str.ofString ")" := by unfold stdF; rw [if_neg (by rw [hb]; decide)]
      rw [e]
      exact Does.ret (Do1.ret (Ev.binop Ev.str (Ev.name rfl) (op_fmt3 (by omega) (by omega) h0 (by omega))))

theorem lenA {x y : Str} {a b : Nat} (hx : x.length ≤ a) (hy : y.length ≤ b) : (x ++ y).length ≤ a + b := by rw [Str.length_append]; exact Nat.add_le_add hx hy
theorem op_addL {X : Wd} {k : Nat} {x y : Str} {a b : Nat} (hx : x.length ≤ a) (hy : y.length ≤ b) (ha : a ≤ 1000 := by decide) (hb : b ≤ 1000 := by decide) : Op2 X k (binaryOp .Add) (.str x) (.str y) (.str (x ++ y)) := op_add_str (Nat.le_trans hx ha) (Nat.le_trans hy hb)

/-! ## _law_function -/
noncomputable def markD (d : Int) : Str := ([".", ".", ".", ":", ".", "\n", ".", "."] : List Str).getD ((d.fdiv 96).fmod 8).toNat ""
noncomputable def letD (d : Int) (p : Nat) : Str := ⟨#[if ((d.fdiv 12).fdiv (2 ^ p)).fmod 2 = 0 then 120 else 121]⟩
noncomputable def pathN (d : Int) : Nat → Str
  | 0 => ""
  | n + 1 => pathN d n ++ ((["", markD d, "."] : List Str).getD n "" ++ letD d n)
noncomputable def pathD (d : Int) : Str := pathN d ((d.fdiv 4).fmod 3 + 1).toNat
noncomputable def lineD (d : Int) : Int := (d.fdiv 768).fmod 2
noncomputable def nameD (d : Int) : Str := if d.fmod 4 = 0 then Str.ofString "f.g" else Str.ofString "<h>"
/-- a function: file, line, name, what is written of it -/
structure Fn where
  a : Str
  l : Int
  n : Str
  t : Str
noncomputable def encFn (f : Fn) : D := .tuple [.tuple [.str f.a, .int f.l, .str f.n], .str f.t]
noncomputable def fnD (d : Int) : Fn :=
  if d.fmod 4 = 2 then ⟨"~", 0, Str.ofString "<" ++ pathD d ++ Str.ofString ">", Str.ofString "{" ++ pathD d ++ Str.ofString "}"⟩
  else if d.fmod 4 = 3 then ⟨"~", 0, pathD d, pathD d⟩
  else ⟨pathD d, lineD d, nameD d, pathD d ++ Str.ofString ":" ++ Str.ofString (toString (lineD d)) ++ Str.ofString "(" ++ (nameD d) ++ Str.ofString ")"⟩

theorem fmod_range {a b : Int} (hb : 0 < b) : 0 ≤ a.fmod b ∧ a.fmod b < b := ⟨Int.fmod_nonneg_of_pos a hb, Int.fmod_lt_of_pos a hb⟩

theorem nat8 : ∀ n : Nat, n < 8 → n = 0 ∨ n = 1 ∨ n = 2 ∨ n = 3 ∨ n = 4 ∨ n = 5 ∨ n = 6 ∨ n = 7 := by decide
theorem mod8 (x : Int) : (x.fmod 8).toNat = 0 ∨ (x.fmod 8).toNat = 1 ∨ (x.fmod 8).toNat = 2 ∨ (x.fmod 8).toNat = 3 ∨ (x.fmod 8).toNat = 4 ∨ (x.fmod 8).toNat = 5 ∨ (x.fmod 8).toNat = 6 ∨ (x.fmod 8).toNat = 7 := nat8 _ (by have := fmod_range (a := x) (b := 8) (by decide); omega)
theorem nat3 {j : Nat} (h : j ≤ 2) : j = 0 ∨ j = 1 ∨ j = 2 := by omega
theorem bit2 {x : Int} (h : 0 ≤ x ∧ x < 2) : x = 0 ∨ x = 1 := by omega
theorem markD_len (d : Int) : (markD d).length ≤ 1 := by
  unfold markD
  obtain h | h | h | h | h | h | h | h := mod8 (d.fdiv 96)
  all_goals rw [h]; decide +kernel
theorem marks_len (d : Int) (n : Nat) : ((["", markD d, "."] : List Str).getD n "").length ≤ 1 := by
  match n with
  | 0 => show (Str.ofString "").length ≤ 1; decide +kernel
  | 1 => exact markD_len d
  | 2 => show (Str.ofString ".").length ≤ 1; decide +kernel
  | n + 3 => show (Str.ofString "").length ≤ 1; decide +kernel
theorem pathN_len (d : Int) (n : Nat) : (pathN d n).length ≤ 2 * n := by
  induction n with
  | zero => show (Str.ofString "").length ≤ 0; decide +kernel
  | succ n ih =>
    unfold pathN
    rw [Str.length_append, Str.length_append]
    have h1 := marks_len d n
    have h2 : (letD d n).length = 1 := rfl
    omega
theorem pathD_len (d : Int) : (pathD d).length ≤ 6 := by
  have h := fmod_range (a := d.fdiv 4) (b := 3) (by decide)
  have := pathN_len d ((d.fdiv 4).fmod 3 + 1).toNat
  unfold pathD; omega

theorem cal_fn {X : Wd} (W : Wok X) {k : Nat} {d : Int} : Cal X (k + 1) "_law_function" [.int d] (encFn (fnD d)) := by
  refine Cal.of (r := recAt 8) (names := ["drawn"]) (W.recs 8 (by decide)) ?_ (by decide) rfl ?_ ?_ rfl rfl rfl ?_
  · intro pm cd doc vs h
    obtain ⟨v, rfl⟩ := List.length_eq_one_iff.mp h
    rfl
  · intro x hx; simp at hx; subst hx; exact .inl rfl
  · decide
  · have h8 := fmod_range (a := d.fdiv 96) (b := 8) (by decide)
    have h3 := fmod_range (a := d.fdiv 4) (b := 3) (by decide)
    have h4 := fmod_range (a := d) (b := 4) (by decide)
    have h2 := fmod_range (a := d.fdiv 768) (b := 2) (by decide)
    have hpl := pathD_len d
    refine Does.asg (d := .list [.str "", .str (markD d), .str "."]) ?_ ?_
    · refine Ev.list ?_ ?_
      · refine Evs.cons ?_ ?_ ?_
        · exact Ev.str
        · refine Evs.cons ?_ ?_ ?_
          · refine Ev.listItem (n := (d.fdiv 96).fmod 8) (ds := [.str ".", .str ".", .str ".", .str ":", .str ".", .str "\n", .str ".", .str "."]) ?_ ?_ h8.1 ?_ (by omega) sub_bin
            · refine EvL.of (Ev.list ?_ ?_)
              · refine Evs.cons ?_ ?_ ?_
                · exact Ev.str
                · exact Evs.cons Ev.str (Evs.cons Ev.str (Evs.cons Ev.str (Evs.cons Ev.str (Evs.cons Ev.str (Evs.cons Ev.str (Evs.cons Ev.str Evs.nil))))))
                · intro env; exact star_of rfl
              · simp
            · exact Ev.binop (Ev.binop (Ev.name rfl) Ev.int (op_div_int (by decide) (by decide))) Ev.int (op_mod_int (by decide))
            · unfold markD
              obtain h | h | h | h | h | h | h | h := mod8 (d.fdiv 96)
              all_goals rw [h]; rfl
          · refine Evs.cons ?_ Evs.nil ?_
            · exact Ev.str
            · intro env; exact star_of rfl
          · intro env; exact star_of rfl
        · intro env; exact star_of rfl
      · simp
    refine Does.cons (Do1.assign (.inl rfl) Ev.str) ?_
    refine Does.sub (ρ' := [("path", .val (.str (pathN d 0))), ("marks", .val (.list [.str "", .str (markD d), .str "."])), ("drawn", .val (.int d))]) (.cons rfl (.cons rfl (.cons rfl .nil))) ?_
    refine Does.cons (Do1.for_ (EvIt.range1 (W.ty "range").1 (W.ty "range").2 (Ev.binop (Ev.binop (Ev.binop (Ev.name rfl) Ev.int (op_div_int (by decide) (by decide))) Ev.int (op_mod_int (by decide))) Ev.int op_add_int) (by omega) (by omega)) (out := .next [("path", .val (.str (pathD d))), ("marks", .val (.list [.str "", .str (markD d), .str "."])), ("drawn", .val (.int d))]) ?_) ?_
    · refine Lp.foldTo (fun j : Nat => D.int (j : Nat)) (fun i : Nat => [("path", .val (.str (pathN d i))), ("marks", .val (.list [.str "", .str (markD d), .str "."])), ("drawn", .val (.int d))]) (fun i _ => i + 1) (fun i r => r = List.range' i (((d.fdiv 4).fmod 3 + 1).toNat - i)) _ 0 ((d.fdiv 4).fmod 3 + 1).toNat (by simp [List.range_eq_range']) ?_ rfl rfl ?_
      · have : ∀ (l : List Nat) (s : Nat), l.foldl (fun i _ => i + 1) s = s + l.length := by
          intro l; induction l with
          | nil => simp
          | cons a l ih => intro s; simp [ih]; omega
        rw [this]; simp
      · intro i j r hr
        have hm : ((d.fdiv 4).fmod 3 + 1).toNat ≤ 3 := by omega
        have hlt : i < ((d.fdiv 4).fmod 3 + 1).toNat := by
          by_cases q : i < ((d.fdiv 4).fmod 3 + 1).toNat
          · exact q
          · rw [Nat.sub_eq_zero_of_le (by omega)] at hr; cases hr
        rw [show ((d.fdiv 4).fmod 3 + 1).toNat - i = (((d.fdiv 4).fmod 3 + 1).toNat - (i + 1)) + 1 by omega, List.range'_succ] at hr
        injection hr with hj hr
        subst hj
        refine ⟨hr, _, Asg.name (.inl rfl), ?_⟩
        have hi : j ≤ 2 := by omega
        have hpn := pathN_len d j
        have hml := marks_len d j
        have hb2 := fmod_range (a := (d.fdiv 12).fdiv (2 ^ j)) (b := 2) (by decide)
        refine Does.out (Does.one (Do1.aug (d₀ := .str (pathN d j)) (d₁ := .str ((["", markD d, "."] : List Str).getD j "" ++ letD d j)) (d := .str (pathN d (j + 1))) (.inl rfl) rfl
          (Ev.binop (Ev.listItem (d := .str ((["", markD d, "."] : List Str).getD j "")) (n := (j : Int)) (EvL.of (Ev.name rfl)) (Ev.name rfl) (Int.natCast_nonneg j) ?_ (by omega))
            (Ev.strItem (n := ((d.fdiv 12).fdiv (2 ^ j)).fmod 2) (ch := if ((d.fdiv 12).fdiv (2 ^ j)).fmod 2 = 0 then 120 else 121) Ev.str (Ev.binop (Ev.binop (Ev.binop (Ev.name rfl) Ev.int (op_div_int (by decide) (by decide))) (Ev.binop (d := .int (2 ^ j)) Ev.int (Ev.name rfl) (op_pow_int (a := 2) (n := (j : Int)) (by omega) (by omega) (by decide))) (op_div_int ?_ ?_)) Ev.int (op_mod_int (by decide))) hb2.1 (by omega) ?_) (op_add_str (by omega) ?_)) (op_iadd_str (by omega) ?_))) (.cons rfl (.cons rfl (.cons rfl .nil)))
        · obtain rfl | rfl | rfl := nat3 hi
          all_goals rfl
        · obtain rfl | rfl | rfl := nat3 hi
          all_goals decide
        · obtain rfl | rfl | rfl := nat3 hi
          all_goals decide
        · obtain h | h := bit2 hb2
          · rw [h]; rfl
          · rw [h]; rfl
        · show (letD d j).length ≤ 1000
          rw [show (letD d j).length = 1 from rfl]; omega
        · rw [Str.length_append, show (letD d j).length = 1 from rfl]; omega
    · have s1 : (Str.ofString "<").length ≤ 3 := by decide +kernel
      have s2 : (Str.ofString ">").length ≤ 3 := by decide +kernel
      have s3 : (Str.ofString "{").length ≤ 3 := by decide +kernel
      have s4 : (Str.ofString "}").length ≤ 3 := by decide +kernel
      have s5 : (Str.ofString ":").length ≤ 3 := by decide +kernel
      have s6 : (Str.ofString "(").length ≤ 3 := by decide +kernel
      have s7 : (Str.ofString ")").length ≤ 3 := by decide +kernel
      have s8 : (Str.ofString "f.g").length ≤ 3 := by decide +kernel
      have s9 : (Str.ofString "<h>").length ≤ 3 := by decide +kernel
      by_cases c2 : d.fmod 4 = 2
      · have e : encFn (fnD d) = .tuple [.tuple [.str "~", .int 0, .str (Str.ofString "<" ++ pathD d ++ Str.ofString ">")], .str (Str.ofString "{" ++ pathD d ++ Str.ofString "}")] := by unfold fnD; rw [if_pos c2]; rfl
        rw [e]
        refine Does.ifYes (b := (d.fmod 4 == 2)) ?_ ?_ ?_
        · exact Tst.cmp (Ev.binop (Ev.name rfl) Ev.int (op_mod_int (by decide))) Ev.int op_eq_int
        · exact beq_iff_eq.mpr c2
        exact Does.ret (Do1.ret (Ev.tuple (.cons (Ev.tuple (.cons Ev.str (.cons Ev.int (.cons (Ev.binop (Ev.binop Ev.str (Ev.name rfl) (op_addL s1 hpl)) Ev.str (op_addL (lenA s1 hpl) s2)) .nil))) (by simp)) (.cons (Ev.binop (Ev.binop Ev.str (Ev.name rfl) (op_addL s3 hpl)) Ev.str (op_addL (lenA s3 hpl) s4)) .nil)) (by simp)))
      refine Does.ifNo (b := (d.fmod 4 == 2)) ?_ ?_ ?_
      · exact Tst.cmp (Ev.binop (Ev.name rfl) Ev.int (op_mod_int (by decide))) Ev.int op_eq_int
      · exact beq_eq_false_iff_ne.mpr c2
      by_cases c3 : d.fmod 4 = 3
      · have e : encFn (fnD d) = .tuple [.tuple [.str "~", .int 0, .str (pathD d)], .str (pathD d)] := by unfold fnD; rw [if_neg c2, if_pos c3]; rfl
        rw [e]
        refine Does.ifYes (b := (d.fmod 4 == 3)) ?_ ?_ ?_
        · exact Tst.cmp (Ev.binop (Ev.name rfl) Ev.int (op_mod_int (by decide))) Ev.int op_eq_int
        · exact beq_iff_eq.mpr c3
        exact Does.ret (Do1.ret (Ev.tuple (.cons (Ev.tuple (.cons Ev.str (.cons Ev.int (.cons (Ev.name rfl) .nil))) (by simp)) (.cons (Ev.name rfl) .nil)) (by simp)))
      refine Does.ifNo (b := (d.fmod 4 == 3)) ?_ ?_ ?_
      · exact Tst.cmp (Ev.binop (Ev.name rfl) Ev.int (op_mod_int (by decide))) Ev.int op_eq_int
      · exact beq_eq_false_iff_ne.mpr c3
      refine Does.asg (d := .int (lineD d)) (Ev.binop (Ev.binop (Ev.name rfl) Ev.int (op_div_int (by decide) (by decide))) Ev.int (op_mod_int (by decide))) ?_
      refine Does.asg (d := .str (nameD d)) ?_ ?_
      · refine Ev.listItem (n := d.fmod 4) (ds := [.str "f.g", .str "<h>"]) ?_ (Ev.binop (Ev.name rfl) Ev.int (op_mod_int (by decide))) h4.1 ?_ (by omega) sub_bin
        · refine EvL.of (Ev.list ?_ ?_)
          · refine Evs.cons ?_ ?_ ?_
            · exact Ev.str
            · refine Evs.cons ?_ Evs.nil ?_
              · exact Ev.str
              · intro env; exact star_of rfl
            · intro env; exact star_of rfl
          · simp
        unfold nameD
        obtain h | h : d.fmod 4 = 0 ∨ d.fmod 4 = 1 := by omega
        · rw [h]; rfl
        · rw [h]; rfl
      have e : encFn (fnD d) = .tuple [.tuple [.str (pathD d), .int (lineD d), .str (nameD d)], .str (pathD d ++ Str.ofString ":" ++ Str.ofString (toString (lineD d)) ++ Str.ofString "(" ++ (nameD d) ++ Str.ofString ")")] := by unfold fnD; rw [if_neg c2, if_neg c3]; rfl
      rw [e]
      have hn : (nameD d).length ≤ 3 := by unfold nameD; split <;> assumption
      have hl : (Str.ofString (toString (lineD d))).length ≤ 3 := by
        obtain h | h : lineD d = 0 ∨ lineD d = 1 := bit2 h2
        · rw [h]; decide +kernel
        · rw [h]; decide +kernel
      have hld : 0 ≤ lineD d ∧ lineD d < 1000 := by unfold lineD; omega
      generalize nameD d = N at hn ⊢
      have l1 := lenA hpl s5
      have l2 := lenA l1 hl
      have l3 := lenA l2 s6
      have l4 := lenA l3 hn
      refine Does.ret (Do1.ret (Ev.tuple (.cons (Ev.tuple (.cons (Ev.name rfl) (.cons (Ev.name rfl) (.cons (Ev.name rfl) .nil))) (by simp)) (.cons ?_ .nil)) (by simp)))
      refine Ev.binop ?_ Ev.str (op_addL (x := pathD d ++ Str.ofString ":" ++ Str.ofString (toString (lineD d)) ++ Str.ofString "(" ++ N) (y := Str.ofString ")") l4 s7)
      refine Ev.binop ?_ (Ev.name rfl) (op_addL (x := pathD d ++ Str.ofString ":" ++ Str.ofString (toString (lineD d)) ++ Str.ofString "(") (y := N) l3 hn)
      refine Ev.binop ?_ Ev.str (op_addL (x := pathD d ++ Str.ofString ":" ++ Str.ofString (toString (lineD d))) (y := Str.ofString "(") l2 s6)
      refine Ev.binop ?_ ?_ (op_addL (x := pathD d ++ Str.ofString ":") (y := Str.ofString (toString (lineD d))) l1 hl)
      · exact Ev.binop (Ev.name rfl) Ev.str (op_addL hpl s5)
      · exact Ev.tcall (W.ty "str").1 (W.ty "str").2 (.cons (Ev.name rfl) .nil) (op_str_int hld.1 hld.2)
end Mine
end

section
set_option linter.unusedVariables false
set_option maxRecDepth 100000
set_option maxHeartbeats 4000000
namespace Mine

/-! ## a run's entry -/
structure Row where
  f : Fn
  s : List Int
  c : List (Fn × List Int)
noncomputable def encP (b : Bool) (p : Fn × List Int) : D := .tuple [encFn p.1, encV b p.2]
noncomputable def encR (b : Bool) (r : Row) : D := .tuple [encFn r.f, .tuple (r.s.map D.int), .list (r.c.map (encP b))]
structure OkF (f : Fn) : Prop where
  a : f.a.length ≤ 50
  n : f.n.length ≤ 50
  l0 : 0 ≤ f.l
  l1 : f.l < 100
structure OkR (b : Bool) (r : Row) : Prop where
  f : OkF r.f
  s : r.s.length = 4
  c : ∀ p ∈ r.c, OkF p.1 ∧ OkV b p.2
  n : r.c.length ≤ 10
noncomputable def stdO (f : Fn) : Str := stdF f.a f.l f.n
noncomputable def oneC (c : List (Fn × List Int)) : Calls := c.foldl (fun acc p => addC acc [(stdO p.1, p.2)]) []
noncomputable def oneT (r : Row) : Tbl := [(stdO r.f, (r.s, oneC r.c))]

theorem cal_single {X : Wd} (W : Wok X) {k : Nat} {b : Bool} {r : Row} (h : OkR b r) : Cal X (k + 2) "_law_single" [encR b r] (.dict (encT b (oneT r))) := by
  obtain ⟨f, s, c⟩ := r
  obtain ⟨a1, a2, a3, a4, rfl⟩ := len_four (show s.length = 4 from h.s)
  refine Cal.of (k := k + 1) (r := recAt 10) (names := ["entry"]) (W.recs 10 (by decide)) ?_ (by decide) rfl ?_ ?_ rfl rfl rfl ?_
  · intro pm cd doc vs h
    obtain ⟨v, rfl⟩ := List.length_eq_one_iff.mp h
    rfl
  · intro x hx; simp at hx; subst hx; exact .inl rfl
  · decide
  · refine Does.cons (Do1.unpack (ds := [encFn f, .tuple [.int a1, .int a2, .int a3, .int a4], .list (c.map (encP b))]) (Ev.name rfl) (.cons (Asg.name (.inl rfl)) (fun _ => rfl) (.cons (Asg.name (.inl rfl)) (fun _ => rfl) (.cons (Asg.name (.inl rfl)) (fun _ => rfl) .nil)))) ?_
    refine Does.cons (Do1.assign (.inl rfl) Ev.emptyDict) ?_
    refine Does.sub (ρ' := [("table", .val (.dict (encC b []))), ("function", .val (encFn f)), ("sums", .val (.tuple [.int a1, .int a2, .int a3, .int a4])), ("callers", .val (.list (c.map (encP b))))]) (.cons rfl (.cons rfl (.cons rfl (.cons rfl .nil)))) ?_
    refine Does.cons (Do1.for_ (EvIt.list (Ev.name rfl)) (out := .next [("table", .val (.dict (encC b (oneC c)))), ("function", .val (encFn f)), ("sums", .val (.tuple [.int a1, .int a2, .int a3, .int a4])), ("callers", .val (.list (c.map (encP b))))]) ?_) ?_
    · refine Lp.foldTo (encP b) (fun acc : Calls => [("table", .val (.dict (encC b acc))), ("function", .val (encFn f)), ("sums", .val (.tuple [.int a1, .int a2, .int a3, .int a4])), ("callers", .val (.list (c.map (encP b))))]) (fun acc p => addC acc [(stdO p.1, p.2)])
        (fun acc r => (keys acc).Nodup ∧ OkC b acc ∧ (∀ p ∈ r, OkF p.1 ∧ OkV b p.2) ∧ acc.length + r.length ≤ 10) c [] _ ⟨.nil, fun _ h => (nomatch h), h.c, by have := h.n; simp at this ⊢; exact this⟩ rfl rfl rfl ?_
      rintro acc ⟨g, v⟩ r ⟨h1, h2, h3, h4⟩
      obtain ⟨hg, hv'⟩ := h3 (g, v) List.mem_cons_self
      have hv : OkC b [(stdO g, v)] := fun p hp => by simp at hp; subst hp; exact hv'
      have hl5 := addC_len (t := acc) (s := [(stdO g, v)])
      simp at h4 hl5
      refine ⟨⟨addC_nodup _ h1, addC_ok h2 hv, fun p hp => h3 p (List.mem_cons_of_mem _ hp), by show (addC acc [(stdO g, v)]).length + r.length ≤ 10; omega⟩, _, Asg.tuple (.cons (Asg.name (.inl rfl)) (fun _ => rfl) (.cons (Asg.name (.inl rfl)) (fun _ => rfl) .nil)), ?_⟩
      refine Does.out (Does.one (Do1.assign (d := .dict (encC b (addC acc [(stdO g, v)]))) (.inl rfl) (Ev.call (.cons (Ev.name rfl) (.cons (Ev.dict1 (x := stdO g) (Ev.call (.cons (Ev.tupItem (d := .tuple [.str g.a, .int g.l, .str g.n]) (Ev.name rfl) Ev.int (by decide) rfl) .nil) (cal_std (k := k) W hg.a hg.n hg.l0 hg.l1)) (Ev.name rfl)) .nil)) (cal_addC (k := k) W (s := [(stdO g, v)]) h1 h2 hv (by simp; omega))))) (.cons rfl (.cons rfl (.cons rfl (.cons rfl .nil))))
    · have hf := h.f
      exact Does.ret (Do1.ret (Ev.dict1 (x := stdO f) (d := encE b ([a1, a2, a3, a4], oneC c)) (Ev.call (.cons (Ev.tupItem (d := .tuple [.str f.a, .int f.l, .str f.n]) (Ev.name rfl) Ev.int (by decide) rfl) .nil) (cal_std (k := k) W hf.a hf.n hf.l0 hf.l1))
        (Ev.binop (d₁ := .tuple [.int a1, .int a2, .int a3, .int a4]) (Ev.name rfl) (Ev.tuple (ds := [.dict (encC b (oneC c))]) (.cons (Ev.name rfl) .nil) (by simp)) (op_add_tuple (by simp) (by simp) (by simp)))))
end Mine
end

section
set_option linter.unusedVariables false
set_option maxRecDepth 100000
set_option maxHeartbeats 4000000
namespace Mine

theorem CpIn.of {c : Cx} {scope : Scope} {ρ : AEnv} (l : AEnv) (h : ∀ p ∈ l, (∃ d, p.2 = .val d) ∧ ρ.lookup p.1 = some p.2 ∧ (c.sc.names.lookup p.1 = some .cell ∨ c.sc.names.lookup p.1 = some .free) ∧ ((relab scope c.sc).names.lookup p.1 = some .cell ∨ (relab scope c.sc).names.lookup p.1 = some .free) ∧ (p.1, NameKind.free) ∈ scope.names ∧ p.1 ∉ ownCells scope)
    (hall : (scope.names.all fun q => q.2 != .free || (l.map (·.1)).contains q.1) = true := by rfl) : CpIn c scope ρ l := by
  refine ⟨fun x sl e => h (x, sl) (mem_of_lookup e), fun x hx => ?_⟩
  replace hall : ∀ q ∈ scope.names, q.2 = .free → q.1 ∈ l.map (·.1) := fun q hq e => by
    have := List.all_eq_true.mp hall q hq
    rw [e] at this
    simpa using this
  obtain ⟨p, hp, e⟩ := List.mem_map.mp (hall (x, .free) hx rfl)
  obtain ⟨b, hb⟩ := lookup_of_mem (l := l) (x := p.1) (a := p.2) hp
  have e' : p.1 = x := e
  exact ⟨b, by rw [← e']; exact hb⟩

/-- a comprehension that maps -/
theorem Cp.map {c : Cx} {elt tgt iter : PySem.Expr} {ρ : AEnv} {α : Type} (enc : α → D) (g : α → D) (as : List α) (h : ∀ a ∈ as, ∃ ρ₁, Asg c ρ tgt (enc a) ρ₁ ∧ Ev c ρ₁ elt (g a) ∧ AEnv.Sub ρ ρ₁) :
    Cp c elt [⟨tgt, iter, [], 0⟩] ρ (as.map enc) (as.map g) ρ := by
  induction as with
  | nil => exact .nil fun _ _ e => e
  | cons a as ih =>
    obtain ⟨ρ₁, h1, h2, h3⟩ := h a List.mem_cons_self
    exact .one h1 .nil h2 h3 (ih fun b hb => h b (List.mem_cons_of_mem _ hb))
theorem AEnv.Sub.skip {ρ : AEnv} {x : Str} {sl : Slot} (h : ρ.lookup x = none) : AEnv.Sub ρ ((x, sl) :: ρ) := fun y s e => by
  by_cases hy : y = x
  · subst hy; rw [h] at e; cases e
  · rw [lookup_cons_ne hy]; exact e

/-! ## _law_run -/
noncomputable def ownL : List Int := [0, 17, 3, 16, 2, 304, 1536, 17, 560, 18, 4, 15]
noncomputable def everyI (ns : List Int) (i : Nat) : List Int :=
  (sliceRange (sliceBounds (some (i : Int)) none (some 12) ns.length).1 (sliceBounds (some (i : Int)) none (some 12) ns.length).2.1 (sliceBounds (some (i : Int)) none (some 12) ns.length).2.2).filterMap (ns[·]?)
theorem pick_ints (ns : List Int) (i : Nat) : pick (ns.map D.int) (some (i : Int)) none (some 12) = (everyI ns i).map D.int := by
  unfold pick everyI
  rw [List.length_map, List.map_filterMap]
  congr 1
  funext j
  rw [List.getElem?_map]
noncomputable def drawI (ns : List Int) (i : Nat) : Int := ownL.getD i 0 + (everyI ns i).sum
noncomputable def callD (b : Bool) (d : Int) : List Int := match b with | true => [d, 1, -d, d.fmod 3] | false => [d]
noncomputable def rowD (b : Bool) (d e f : Int) : Row := ⟨fnD d, [d.fmod 5, d.fmod 7, d, d.fdiv 2], [(fnD e, callD b e), (fnD f, callD b f)]⟩
noncomputable def oddI (ns : List Int) : Bool := !(ns.sum.fmod 2 == 0)
noncomputable def runD (ns : List Int) : List Row := [0, 3, 6, 9].map fun i => rowD (oddI ns) (drawI ns i) (drawI ns (i + 1)) (drawI ns (i + 2))

/-- a row of whole numbers -/
inductive IntLits : List PySem.Expr → List Int → Prop
  | nil : IntLits [] []
  | cons {i : Int} {k : Nat} {p : Pos} {es : List PySem.Expr} {ns : List Int} : IntLits es ns → IntLits (.Constant (.int i) k p :: es) (i :: ns)
theorem Evs.lits {c : Cx} {ρ : AEnv} {es : List PySem.Expr} {ns : List Int} (h : IntLits es ns) : Evs c ρ es (ns.map D.int) := by
  induction h with
  | nil => exact .nil
  | cons h ih => exact .cons Ev.int ih fun _ => star_of rfl

theorem cal_run {X : Wd} (W : Wok X) {k : Nat} {ns : List Int} (hl : ns.length ≤ 63) : Cal X (k + 2) "_law_run" [.list (ns.map D.int)] (.list ((runD ns).map (encR (oddI ns)))) := by
  refine Cal.of (k := k + 1) (r := recAt 9) (names := ["script"]) (W.recs 9 (by decide)) ?_ (by decide) rfl ?_ ?_ rfl rfl rfl ?_
  · intro pm cd doc vs h
    obtain ⟨v, rfl⟩ := List.length_eq_one_iff.mp h
    rfl
  · intro x hx; simp at hx; subst hx; exact .inr rfl
  · decide
  · refine Does.cons (ρ' := ("own", .val (.list (ownL.map D.int))) :: argEnv ["script"] [.list (ns.map D.int)]) ?_ ?_
    · refine Do1.assign ?_ ?_ ?_
      · exact .inr (show Str.ofString "own" ∈ ownCells (recAt 9).scope by decide)
      · refine Ev.list ?_ ?_
        · exact Evs.lits (.cons (.cons (.cons (.cons (.cons (.cons (.cons (.cons (.cons (.cons (.cons (.cons .nil))))))))))))
        · simp [ownL]
      · intro _ _; rfl
    refine Does.cons (Do1.comp1 (es := (List.range 12).map fun i => D.int (drawI ns i)) (ds := (List.range 12).map fun j => D.int (j : Nat)) (ρ₀ := [("own", .val (.list (ownL.map D.int))), ("script", .val (.list (ns.map D.int)))]) (ρ' := [("own", .val (.list (ownL.map D.int))), ("script", .val (.list (ns.map D.int)))]) ?_ ?_ ?_ ?_ ?_ ?_ (hoc := fun x hx => by cases (show x ∈ ([] : List Str) from hx))) ?_
    · exact .inl rfl
    · refine CpIn.of _ ?_
      intro p hp
      simp only [List.mem_cons, List.not_mem_nil, or_false] at hp
      rcases hp with rfl | rfl
      · exact ⟨⟨_, rfl⟩, rfl, .inl rfl, .inl rfl, by simp, by rintro h; cases (show _ ∈ ([] : List Str) from h)⟩
      · exact ⟨⟨_, rfl⟩, rfl, .inl rfl, .inl rfl, by simp, by rintro h; cases (show _ ∈ ([] : List Str) from h)⟩
    · exact EvIt.range1 (n := 12) (W.ty "range").1 (W.ty "range").2 Ev.int (by decide) (by decide)
    · refine Cp.map (fun j : Nat => D.int (j : Nat)) (fun i => D.int (drawI ns i)) (List.range 12) fun i hi => ⟨_, Asg.name (.inl rfl), ?_, AEnv.Sub.skip rfl⟩
      have hi' : i < 12 := List.mem_range.mp hi
      refine Ev.binop (d₁ := .int (ownL.getD i 0)) (d₂ := .int (everyI ns i).sum) ?_ ?_ op_add_int
      · refine Ev.listItem (n := (i : Int)) (EvL.of (Ev.name rfl)) (Ev.name rfl) (by omega) ?_ (by omega)
        rw [Int.toNat_natCast, List.getElem?_map, List.getElem?_eq_getElem (show i < ownL.length from hi')]
        simp [List.getElem?_eq_getElem (show i < ownL.length from hi')]
      · refine Ev.bcall rfl (W.fn "sum").1 (W.fn "sum").2 (ds := [.list ((everyI ns i).map D.int)]) (.cons ?_ .nil) op_sum_list
        rw [← pick_ints]
        exact Ev.listSliceStep (EvL.of (Ev.name rfl)) (EvP.some (Ev.name rfl)) EvP.none Ev.int (by decide) (by simp; omega)
    · simp
    · intro env he
      have hsc := he.is
      obtain ⟨scope, locals, globals, cells, qual, func, code, frame, builtins⟩ := env
      subst hsc
      rfl
    · have hdr : ((List.range 12).map fun i => D.int (drawI ns i)) = ((List.range 12).map (drawI ns)).map D.int := by rw [List.map_map]; rfl
      rw [hdr]
      generalize hDr : (List.range 12).map (drawI ns) = Dr
      refine Does.cons (Do1.newList (.inl rfl) .nil (by simp)) ?_
      refine Does.sub (ρ' := [("run", .olist []), ("draws", .val (.list (Dr.map D.int))), ("script", .val (.list (ns.map D.int)))]) (.cons rfl (.cons rfl (.cons rfl .nil))) ?_
      refine Does.cons (Do1.for_ (EvIt.range12 (W.ty "range").1 (W.ty "range").2 Ev.int Ev.int Ev.int (by rfl) (by intro _; exact star_all rfl) (by intro _; exact star_of rfl) (by intro _; exact star_of rfl) (by intro _; exact star_of rfl)) (out := .next [("run", .olist ((runD ns).map (encR (oddI ns)))), ("draws", .val (.list (Dr.map D.int))), ("script", .val (.list (ns.map D.int)))]) ?_) (Does.freezeL (x := "run") rfl (Does.ret (Do1.ret (Ev.name rfl))))
      have hpk : ∀ j ∈ [0, 3, 6, 9], pick (Dr.map D.int) (some ((j : Nat) + 1 : Int)) (some ((j : Nat) + 3 : Int)) none = [drawI ns (j + 1), drawI ns (j + 2)].map D.int ∧ (Dr.map D.int)[j]? = some (.int (drawI ns j)) := by
        intro j hj
        rw [← hDr]
        simp only [List.mem_cons, List.not_mem_nil, or_false] at hj
        rcases hj with rfl | rfl | rfl | rfl <;> exact ⟨rfl, rfl⟩
      have hDl : (Dr.map D.int).length ≤ 100000 := by rw [← hDr]; simp
      generalize hb : oddI ns = b
      refine Lp.foldTo (fun j : Nat => D.int (j : Nat)) (fun l : List Nat => [("run", .olist ((l.map fun i => rowD b (drawI ns i) (drawI ns (i + 1)) (drawI ns (i + 2))).map (encR b))), ("draws", .val (.list (Dr.map D.int))), ("script", .val (.list (ns.map D.int)))]) (fun l j => l ++ [j])
        (fun l r => l ++ r = [0, 3, 6, 9]) [0, 3, 6, 9] [] [0, 3, 6, 9] rfl rfl rfl (by rw [runD, hb]) ?_
      intro l j r hlr
      have hj : j ∈ [0, 3, 6, 9] := by rw [← hlr]; simp
      obtain ⟨hp1, hp2⟩ := hpk j hj
      have hll : l.length ≤ 4 := by have := congrArg List.length hlr; simp at this; omega
      have hj9 : j ≤ 9 := by simp only [List.mem_cons, List.not_mem_nil, or_false] at hj; omega
      refine ⟨by simpa using hlr, _, Asg.name (.inl rfl), ?_⟩
      refine Does.asg (d := .int (drawI ns j)) (Ev.listItem (n := (j : Int)) (EvL.of (Ev.name rfl)) (Ev.name rfl) (by omega) hp2 (by omega)) ?_
      refine Does.cons (Do1.newList (.inl rfl) .nil (by simp)) ?_
      refine Does.sub (ρ' := [("callers", .olist []), ("drawn", .val (.int (drawI ns j))), ("place", .val (.int (j : Nat))), ("run", .olist ((l.map fun i => rowD b (drawI ns i) (drawI ns (i + 1)) (drawI ns (i + 2))).map (encR b))), ("draws", .val (.list (Dr.map D.int))), ("script", .val (.list (ns.map D.int)))]) (.cons rfl (.cons rfl (.cons rfl (.cons rfl (.cons rfl (.cons rfl .nil)))))) ?_
      refine Does.cons (Do1.for_ (ds := [drawI ns (j + 1), drawI ns (j + 2)].map D.int) (EvIt.list ?_) (out := .next [("callers", .olist ([drawI ns (j + 1), drawI ns (j + 2)].map fun e => encP b (fnD e, callD b e))), ("drawn", .val (.int (drawI ns j))), ("place", .val (.int (j : Nat))), ("run", .olist ((l.map fun i => rowD b (drawI ns i) (drawI ns (i + 1)) (drawI ns (i + 2))).map (encR b))), ("draws", .val (.list (Dr.map D.int))), ("script", .val (.list (ns.map D.int)))]) ?_) ?_
      · rw [← hp1]
        exact Ev.listSlice (EvL.of (Ev.name rfl)) (EvP.some (Ev.binop (Ev.name rfl) Ev.int op_add_int)) (EvP.some (Ev.binop (Ev.name rfl) Ev.int op_add_int)) hDl
      · refine Lp.foldTo D.int (fun l' : List Int => [("callers", .olist (l'.map fun e => encP b (fnD e, callD b e))), ("drawn", .val (.int (drawI ns j))), ("place", .val (.int (j : Nat))), ("run", .olist ((l.map fun i => rowD b (drawI ns i) (drawI ns (i + 1)) (drawI ns (i + 2))).map (encR b))), ("draws", .val (.list (Dr.map D.int))), ("script", .val (.list (ns.map D.int)))]) (fun l' e => l' ++ [e])
          (fun l' r => l'.length + r.length ≤ 2) _ [] _ (by simp) rfl rfl rfl ?_
        intro l' e r hl'
        simp only [List.length_cons] at hl'
        refine ⟨by simp; omega, _, Asg.name (.inl rfl), ?_⟩
        refine Does.asg (d := encV b (callD b e)) (Ev.ifexp (b := (ns.sum.fmod 2 == 0)) ?_ (fun h => ?_) fun h => ?_) ?_
        · exact Tst.cmp (Ev.binop (Ev.bcall rfl (W.fn "sum").1 (W.fn "sum").2 (.cons (Ev.name rfl) .nil) op_sum_list) Ev.int (op_mod_int (by decide))) Ev.int op_eq_int
        · have : b = false := by rw [← hb, oddI, h]; rfl
          subst this
          exact Ev.name rfl
        · have : b = true := by rw [← hb, oddI, h]; rfl
          subst this
          exact Ev.tuple (.cons (Ev.name rfl) (.cons Ev.int (.cons (Ev.unary (Ev.name rfl) op_neg_int) (.cons (Ev.binop (Ev.name rfl) Ev.int (op_mod_int (by decide))) .nil)))) (by simp [callD])
        · refine Does.out (Does.one (Do1.append (d := encP b (fnD e, callD b e)) rfl (Ev.tuple (.cons (Ev.call (.cons (Ev.name rfl) .nil) (cal_fn (k := k) W)) (.cons (Ev.name rfl) .nil)) (by simp)) (by simp; omega))) (.cons ?_ (.cons rfl (.cons rfl (.cons rfl (.cons rfl (.cons rfl .nil))))))
          simp
      · refine Does.freezeL (x := "callers") rfl ?_
        refine Does.out (Does.one (Do1.append (d := encR b (rowD b (drawI ns j) (drawI ns (j + 1)) (drawI ns (j + 2)))) rfl (Ev.tuple (.cons (Ev.call (.cons (Ev.name rfl) .nil) (cal_fn (k := k) W)) (.cons (Ev.tuple (.cons (Ev.binop (Ev.name rfl) Ev.int (op_mod_int (by decide))) (.cons (Ev.binop (Ev.name rfl) Ev.int (op_mod_int (by decide))) (.cons (Ev.name rfl) (.cons (Ev.binop (Ev.name rfl) Ev.int (op_div_int (by decide) (by decide))) .nil)))) (by simp [rowD])) (.cons (Ev.name rfl) .nil))) (by simp)) (by simp; omega))) (.cons ?_ (.cons rfl (.cons rfl .nil)))
        simp
end Mine
end

section
set_option linter.unusedVariables false
set_option maxRecDepth 100000
set_option maxHeartbeats 4000000
namespace Mine

/-! ## _law_total -/
noncomputable def tot : List (List Int) → List Int
  | [] => []
  | l :: ls => ls.foldl zadd l
noncomputable def wid (b : Bool) : Nat := match b with | true => 4 | false => 1
theorem zadd_getD {a b : List Int} {m : Nat} (ha : a.length = m) (hb : b.length = m) (j : Nat) : (zadd a b).getD j 0 = a.getD j 0 + b.getD j 0 := by
  unfold zadd
  by_cases hj : j < m
  · rw [List.getD_eq_getElem?_getD, List.getD_eq_getElem?_getD, List.getD_eq_getElem?_getD, List.getElem?_zipWith, List.getElem?_eq_getElem (by omega), List.getElem?_eq_getElem (by omega)]
    rfl
  · rw [List.getD_eq_getElem?_getD, List.getD_eq_getElem?_getD, List.getD_eq_getElem?_getD, List.getElem?_eq_none (by rw [List.length_zipWith]; omega), List.getElem?_eq_none (by omega), List.getElem?_eq_none (by omega)]
    rfl
theorem foldz {m : Nat} : ∀ (ls : List (List Int)) (l : List Int), l.length = m → (∀ x ∈ ls, x.length = m) → (ls.foldl zadd l).length = m ∧ ∀ j, (ls.foldl zadd l).getD j 0 = l.getD j 0 + (ls.map (·.getD j 0)).sum
  | [], l, h, _ => ⟨h, fun j => by simp⟩
  | x :: ls, l, h, hs => by
    have hx : x.length = m := hs x List.mem_cons_self
    obtain ⟨h1, h2⟩ := foldz ls (zadd l x) (by unfold zadd; rw [List.length_zipWith, h, hx]; exact Nat.min_self _) fun y hy => hs y (List.mem_cons_of_mem _ hy)
    refine ⟨h1, fun j => ?_⟩
    rw [List.foldl_cons, h2 j, zadd_getD h hx, List.map_cons, List.sum_cons]
    omega
theorem tot_spec {m : Nat} {ls : List (List Int)} (hne : ls ≠ []) (h : ∀ l ∈ ls, l.length = m) : (tot ls).length = m ∧ ∀ j, (tot ls).getD j 0 = (ls.map (·.getD j 0)).sum := by
  cases ls with
  | nil => exact absurd rfl hne
  | cons l ls =>
    obtain ⟨h1, h2⟩ := foldz ls l (h l List.mem_cons_self) fun y hy => h y (List.mem_cons_of_mem _ hy)
    exact ⟨h1, fun j => by show (ls.foldl zadd l).getD j 0 = _; rw [h2 j, List.map_cons, List.sum_cons]⟩
theorem tot_ok {b : Bool} {ls : List (List Int)} (hne : ls ≠ []) (h : ∀ l ∈ ls, OkV b l) : OkV b (tot ls) := (tot_spec hne h).1
theorem tot_four {ls : List (List Int)} (hne : ls ≠ []) (h : ∀ l ∈ ls, l.length = 4) : (tot ls).map D.int = (List.range 4).map fun j => D.int (ls.map (·.getD j 0)).sum := by
  obtain ⟨h1, h2⟩ := tot_spec hne h
  obtain ⟨a, b, c, d, e⟩ := len_four h1
  rw [e] at h2 ⊢
  rw [← show (List.range 4).map (fun j => D.int ([a, b, c, d].getD j 0)) = [a, b, c, d].map D.int from rfl]
  apply List.map_congr_left
  intro j _
  rw [h2 j]

theorem cal_total {X : Wd} (W : Wok X) {k : Nat} {b : Bool} {ls : List (List Int)} (hne : ls ≠ []) (h : ∀ l ∈ ls, OkV b l) (hl : ls.length ≤ 100) : Cal X (k + 1) "_law_total" [.list (ls.map (encV b))] (encV b (tot ls)) := by
  refine Cal.of (r := recAt 14) (names := ["numbers"]) (W.recs 14 (by decide)) ?_ (by decide) rfl ?_ ?_ rfl rfl rfl ?_
  · intro pm cd doc vs h
    obtain ⟨v, rfl⟩ := List.length_eq_one_iff.mp h
    rfl
  · intro x hx; simp at hx; subst hx; exact .inr rfl
  · decide
  · obtain ⟨l0, ls', e0⟩ : ∃ l0 ls', ls = l0 :: ls' := by
      cases ls with
      | nil => exact absurd rfl hne
      | cons a r => exact ⟨a, r, rfl⟩
    have h0 : (ls.map (encV b))[(0 : Int).toNat]? = some (encV b l0) := by rw [e0]; rfl
    have hisi : (∃ ds, encV b l0 = .tuple ds ∧ b = true) ∨ (∃ i, encV b l0 = .int i ∧ b = false) := by
      cases b with
      | true => exact .inl ⟨_, rfl, rfl⟩
      | false => exact .inr ⟨_, rfl, rfl⟩
    cases b with
    | true =>
      refine Does.ifYes (b := true) (Tst.bool (Ev.isiTuple (W.fn "isinstance").1 (W.fn "isinstance").2 (W.ty "tuple").1 (W.ty "tuple").2 (Ev.listItem (n := 0) (EvL.of (Ev.name rfl)) Ev.int (by decide) h0) hisi)) rfl ?_
      show Does _ _ _ (.ret (.tuple ((tot ls).map D.int)))
      rw [tot_four hne h]
      refine Does.ret (Do1.ret (Ev.tcall (W.ty "tuple").1 (W.ty "tuple").2 (.cons ?_ .nil) (op_tuple_list (by simp))))
      refine Ev.comp1 (ds := (List.range 4).map fun j => D.int (j : Nat)) (ρ₀ := [("numbers", .val (.list (ls.map (encV true))))]) (ρ' := [("numbers", .val (.list (ls.map (encV true))))]) ?_ ?_ ?_ (by simp) (hoc := fun x hx => by
        have hx' : x ∈ ([Str.ofString "place"] : List Str) := hx
        rw [List.mem_singleton] at hx'; subst hx'; rfl)
      · refine CpIn.of _ ?_
        intro p hp
        simp only [List.mem_cons, List.not_mem_nil, or_false] at hp
        subst hp
        exact ⟨⟨_, rfl⟩, rfl, .inl rfl, .inl rfl, by simp, fun hx => absurd (show Str.ofString "numbers" ∈ ([Str.ofString "place"] : List Str) from hx) (by decide)⟩
      · exact EvIt.range1 (n := 4) (W.ty "range").1 (W.ty "range").2 Ev.int (by decide) (by decide)
      · refine Cp.map (fun j : Nat => D.int (j : Nat)) (fun j => D.int (ls.map (·.getD j 0)).sum) (List.range 4) fun j hj => ⟨_, Asg.name (.inr ?_), ?_, ?_⟩
        · exact (List.mem_singleton.mpr rfl : Str.ofString "place" ∈ ([Str.ofString "place"] : List Str))
        rotate_left
        · exact AEnv.Sub.skip rfl
        have hj' : j < 4 := List.mem_range.mp hj
        refine Ev.bcall rfl (W.fn "sum").1 (W.fn "sum").2 (ds := [.list ((ls.map (·.getD j 0)).map D.int)]) (.cons ?_ .nil) op_sum_list
        rw [List.map_map]
        refine Ev.comp1 (ds := ls.map (encV true)) (ρ₀ := [("place", .val (.int (j : Nat)))]) (ρ' := [("place", .val (.int (j : Nat)))]) ?_ (EvIt.list (Ev.name rfl)) ?_ (by simp; omega) (hoc := fun x hx => by cases (show x ∈ ([] : List Str) from hx))
        · refine CpIn.of _ ?_
          intro p hp
          simp only [List.mem_cons, List.not_mem_nil, or_false] at hp
          subst hp
          exact ⟨⟨_, rfl⟩, rfl, .inl rfl, .inl rfl, by simp, fun hx => by cases (show _ ∈ ([] : List Str) from hx)⟩
        · refine Cp.map (encV true) (fun l => D.int (l.getD j 0)) ls fun l hl' => ⟨_, Asg.name (.inl rfl), ?_, AEnv.Sub.skip rfl⟩
          refine Ev.tupItem (n := (j : Int)) (ds := l.map D.int) (Ev.name rfl) (Ev.name rfl) (by omega) ?_ (by omega)
          have hll : l.length = 4 := h l hl'
          rw [Int.toNat_natCast, List.getElem?_map, List.getElem?_eq_getElem (by omega)]
          simp [List.getD_eq_getElem?_getD, List.getElem?_eq_getElem (show j < l.length by omega)]
    | false =>
      refine Does.ifNo (b := false) (Tst.bool (Ev.isiTuple (W.fn "isinstance").1 (W.fn "isinstance").2 (W.ty "tuple").1 (W.ty "tuple").2 (Ev.listItem (n := 0) (EvL.of (Ev.name rfl)) Ev.int (by decide) h0) hisi)) rfl ?_
      have e1 : encV false (tot ls) = .int (ls.map (·.headD 0)).sum := by
        have h1 := (tot_spec hne h).2 0
        show D.int ((tot ls).headD 0) = _
        have hg : ∀ l : List Int, l.headD 0 = l.getD 0 0 := fun l => by cases l <;> rfl
        rw [hg, h1]
        congr 2
        apply List.map_congr_left
        intro l _; exact (hg l).symm
      rw [e1]
      have e2 : ls.map (encV false) = (ls.map (·.headD 0)).map D.int := by rw [List.map_map]; rfl
      rw [e2]
      exact Does.ret (Do1.ret (Ev.bcall rfl (W.fn "sum").1 (W.fn "sum").2 (.cons (Ev.name rfl) .nil) op_sum_list))
end Mine
end

section
set_option linter.unusedVariables false
set_option maxRecDepth 100000
set_option maxHeartbeats 4000000
namespace Mine

/-! ## comprehensions: with a test; with two clauses -/
theorem AEnv.Sub.trans {a b c : AEnv} (h : AEnv.Sub a b) (k : AEnv.Sub b c) : AEnv.Sub a c := fun x sl e => k x sl (h x sl e)
theorem Cp.weak {c : Cx} {elt : PySem.Expr} {gs : List Comprehension} {ρ ρ' ρ'' : AEnv} {ds es : List D} (h : Cp c elt gs ρ ds es ρ') (hs : AEnv.Sub ρ'' ρ') : Cp c elt gs ρ ds es ρ'' := by
  induction h with
  | nil h => exact .nil (hs.trans h)
  | skip a b d _ ih => exact .skip a b d (ih hs)
  | one a b d e _ ih => exact .one a b d e (ih hs)
  | deep a b d e _ _ ih => exact .deep a b d e (ih hs)
theorem Cp.filt {c : Cx} {elt tgt iter : PySem.Expr} {ifs : List PySem.Expr} {ρ : AEnv} {α : Type} (enc : α → D) (g : α → D) (p : α → Bool) (as : List α)
    (h : ∀ a ∈ as, ∃ ρ₁, Asg c ρ tgt (enc a) ρ₁ ∧ Tsts c ρ₁ ifs (p a) ∧ (p a = true → Ev c ρ₁ elt (g a)) ∧ AEnv.Sub ρ ρ₁) :
    Cp c elt [⟨tgt, iter, ifs, 0⟩] ρ (as.map enc) ((as.filter p).map g) ρ := by
  induction as with
  | nil => exact .nil fun _ _ e => e
  | cons a as ih =>
    obtain ⟨ρ₁, h1, h2, h3, h4⟩ := h a List.mem_cons_self
    have ih' := ih fun b hb => h b (List.mem_cons_of_mem _ hb)
    rw [List.filter_cons]
    cases hp : p a with
    | true => rw [hp] at h2; exact .one h1 h2 (h3 hp) h4 ih'
    | false => rw [hp] at h2; exact .skip h1 h2 h4 ih'
theorem Cp.map2 {c : Cx} {elt tgt iter tgt' iter' : PySem.Expr} {ρ : AEnv} {α β : Type} (enc : α → D) (inner : α → List β) (enc' : β → D) (g : β → D) (as : List α)
    (h : ∀ a ∈ as, ∃ ρ₁, Asg c ρ tgt (enc a) ρ₁ ∧ EvIt c ρ₁ tgt' iter' ((inner a).map enc') ∧ AEnv.Sub ρ ρ₁ ∧ ∀ x ∈ inner a, ∃ ρ₂, Asg c ρ₁ tgt' (enc' x) ρ₂ ∧ Ev c ρ₂ elt (g x) ∧ AEnv.Sub ρ₁ ρ₂) :
    Cp c elt [⟨tgt, iter, [], 0⟩, ⟨tgt', iter', [], 0⟩] ρ (as.map enc) ((as.flatMap inner).map g) ρ := by
  induction as with
  | nil => exact .nil fun _ _ e => e
  | cons a as ih =>
    obtain ⟨ρ₁, h1, h2, h3, h4⟩ := h a List.mem_cons_self
    have ih' := ih fun b hb => h b (List.mem_cons_of_mem _ hb)
    rw [List.flatMap_cons, List.map_append]
    exact .deep h1 .nil h2 ((Cp.map enc' g (inner a) h4).weak h3) ih'
theorem Do1.comp2 {c : Cx} {ρ ρ₀ ρ' : AEnv} {elt tgt iter tgt' iter' : PySem.Expr} {ifs ifs' : List PySem.Expr} {scope : Scope} {pos xpos spos : Pos} {x : Str} {ds es : List D} (hx : c.sto x) (hin : CpIn c scope ρ ρ₀) (hi : EvIt c ρ tgt iter ds) (hp : Cp (c.comp scope) elt [⟨tgt, iter, ifs, 0⟩, ⟨tgt', iter', ifs', 0⟩] ρ₀ ds es ρ') (hlen : es.length ≤ 1000)
    (hsw : ∀ env, EnvOk c.sc env → swapsWith (.ListComp elt [⟨tgt, iter, ifs, 0⟩, ⟨tgt', iter', ifs', 0⟩] scope pos) (some (.Name x xpos)) spos.line env = pure true)
    (hs : ∀ env x, foldedSetIterable iter env x = pure x) (hs' : ∀ env x, foldedSetIterable iter' env x = pure x) (hkind : scope.kind = .function) (hnames : ∀ x ∈ scope.names, x.2 = .local → scope.names.lookup x.1 = some .local) (hoc : ∀ x ∈ ownCells scope, (relab scope c.sc).names.lookup x = some .cell) :
    Do1 c ρ (.Assign [.Name x xpos] (.ListComp elt [⟨tgt, iter, ifs, 0⟩, ⟨tgt', iter', ifs', 0⟩] scope pos) spos) (.next ((x, .val (.list es)) :: ρ)) :=
  Cp.asg (fun he hr F hq => Cp.run hin hi (fun H W P k => Cp.code2 hs' H W hp (by simpa using hlen) P (by simpa using k)) hs hkind hnames hoc he hr F hq) hx hsw

/-! ## _law_ledger -/
noncomputable def bareR (r : Row) : Str := bareF r.f.t
noncomputable def mineL (run : List Row) (k : Str) : List Row := run.filter fun r => bareR r == k
noncomputable def callsL (rs : List Row) : Calls := (rs.flatMap (·.c)).map fun p => (bareF p.1.t, p.2)
noncomputable def oneL (cs : Calls) (k : Str) : List (List Int) := (cs.filter fun p => p.1 == k).map (·.2)
noncomputable def ledC (cs : Calls) : Calls := cs.foldl (fun acc p => ups (fun _ v => v) acc p.1 (tot (oneL cs p.1))) []
noncomputable def ledE (run : List Row) (k : Str) : Ent := (tot ((mineL run k).map (·.s)), ledC (callsL (mineL run k)))
noncomputable def ledStep (run : List Row) (acc : Tbl) (j : Nat) : Tbl :=
  if !((run.map bareR).take j).contains ((run.map bareR).getD j "") then acc ++ [((run.map bareR).getD j "", ledE run ((run.map bareR).getD j ""))] else acc
noncomputable def ledT (run : List Row) : Tbl := (List.range run.length).foldl (ledStep run) []
noncomputable def encI (b : Bool) (p : Str × Ent) : D := .tuple [.str p.1, encE b p.2]
/-- what the ledger needs of an entry -/
structure OkL (b : Bool) (r : Row) : Prop where
  ok : OkR b r
  t : r.f.t.length ≤ 100
  c : ∀ p ∈ r.c, p.1.t.length ≤ 100

theorem range_getD {α : Type} (d : α) (l : List α) : (List.range l.length).map (fun j => l.getD j d) = l := by
  apply List.ext_getElem
  · simp
  · intro i h1 h2; simp [List.getElem?_eq_getElem h2]
theorem filter_range {α β : Type} (d : α) (p : α → Bool) (f : α → β) (l : List α) : ((List.range l.length).filter fun j => p (l.getD j d)).map (fun j => f (l.getD j d)) = (l.filter p).map f := by
  conv => rhs; rw [← range_getD d l, List.filter_map, List.map_map]
  rfl
theorem pick4 {l : List D} (h : l.length = 4) {j : Nat} (hj : j < 4) : pick l none (some (j : Int)) none = l.take j := by
  obtain ⟨a, b, c, d, rfl⟩ := len_four h
  match j, hj with
  | 0, _ | 1, _ | 2, _ | 3, _ => rfl
end Mine
end

section
set_option linter.unusedVariables false
set_option maxRecDepth 100000
set_option maxHeartbeats 4000000
namespace Mine

theorem lt63 {j : Nat} (h : j < 4) : (j : Int) < 2 ^ 63 := by omega
theorem no_mem {x : Str} {sc : Scope} (h : ownCells sc = []) : x ∉ ownCells sc := by rw [h]; exact List.not_mem_nil
theorem oneL_ne {cs : Calls} {p : Str × List Int} (h : p ∈ cs) : oneL cs p.1 ≠ [] := by
  intro e
  have : p.2 ∈ oneL cs p.1 := List.mem_map.mpr ⟨p, List.mem_filter.mpr ⟨h, by simp⟩, rfl⟩
  rw [e] at this; cases this
theorem oneL_ok {b : Bool} {cs : Calls} (h : OkC b cs) (k : Str) : ∀ l ∈ oneL cs k, OkV b l := by
  intro l hl
  obtain ⟨p, hp, rfl⟩ := List.mem_map.mp hl
  exact h p (List.mem_filter.mp hp).1
theorem oneL_len (cs : Calls) (k : Str) : (oneL cs k).length ≤ cs.length := by
  unfold oneL; rw [List.length_map]; exact List.length_filter_le _ _

theorem dset_set {b : Bool} {t : Calls} {x : Str} {v : List Int} (hn : (keys t).Nodup) : dset (encC b t) x (encV b v) = encC b (ups (fun _ v => v) t x v) := by
  cases hg : get t x with
  | some m => exact dset_hit (op := fun _ v => v) (enc := encV b) hn hg
  | none => exact dset_miss (op := fun _ v => v) (enc := encV b) hg
noncomputable def encK (b : Bool) (p : Str × List Int) : D := .tuple [.str p.1, encV b p.2]
theorem callsL_ok {b : Bool} {M : List Row} (h : ∀ r ∈ M, OkL b r) : OkC b (callsL M) := by
  intro p hp
  obtain ⟨q, hq, rfl⟩ := List.mem_map.mp hp
  obtain ⟨r, hr, hq⟩ := List.mem_flatMap.mp hq
  exact ((h r hr).ok.c q hq).2
theorem callsL_len {b : Bool} {M : List Row} (h : ∀ r ∈ M, OkL b r) : (callsL M).length ≤ 10 * M.length := by
  unfold callsL
  rw [List.length_map]
  induction M with
  | nil => simp
  | cons r M ih =>
    rw [List.flatMap_cons, List.length_append, List.length_cons]
    have h1 := (h r List.mem_cons_self).ok.n
    have h2 := ih fun q hq => h q (List.mem_cons_of_mem _ hq)
    omega

theorem cal_ledger {X : Wd} (W : Wok X) {k : Nat} {b : Bool} {run : List Row} (h4 : run.length = 4) (h : ∀ r ∈ run, OkL b r) : Cal X (k + 2) "_law_ledger" [.list (run.map (encR b))] (.list ((ledT run).map (encI b))) := by
  refine Cal.of (k := k + 1) (r := recAt 15) (names := ["run"]) (W.recs 15 (by decide)) ?_ (by decide) rfl ?_ ?_ rfl rfl rfl ?_
  · intro pm cd doc vs h
    obtain ⟨v, rfl⟩ := List.length_eq_one_iff.mp h
    rfl
  · intro x hx; simp at hx; subst hx; exact .inr rfl
  · decide
  · generalize hbs : run.map bareR = bs
    have hbl : bs.length = 4 := by rw [← hbs, List.length_map, h4]
    refine Does.cons (ρ' := ("bares", .val (.list (bs.map D.str))) :: argEnv ["run"] [.list (run.map (encR b))]) ?_ ?_
    · refine Do1.assign ?_ ?_ ?_
      · exact .inr (show Str.ofString "bares" ∈ ownCells (recAt 15).scope by decide)
      · rw [← hbs, List.map_map]
        refine Ev.comp1 (ds := run.map (encR b)) (ρ₀ := []) (ρ' := []) (CpIn.of [] (fun p hp => by cases hp)) (EvIt.list (Ev.name rfl)) ?_ (by simp [h4]) (hoc := fun x hx => by cases (show x ∈ ([] : List Str) from hx))
        refine Cp.map (encR b) (D.str ∘ bareR) run fun r hr => ⟨_, Asg.tuple (.cons (Asg.name (.inl rfl)) (fun _ => rfl) (.cons (Asg.name (.inl rfl)) (fun _ => rfl) (.cons (Asg.name (.inl rfl)) (fun _ => rfl) .nil))), ?_, AEnv.Sub.nil⟩
        exact Ev.call (.cons (Ev.tupItem (d := .str r.f.t) (Ev.name rfl) Ev.int (by decide) rfl) .nil) (cal_bare (k := k) W (h r hr).t)
      · intro env he
        have hsc := he.is
        obtain ⟨scope, locals, globals, cells, qual, func, code, frame, builtins⟩ := env
        subst hsc
        rfl
    refine Does.cons (Do1.newList (.inl rfl) .nil (by simp)) ?_
    refine Does.sub (ρ' := [("ledger", .olist []), ("bares", .val (.list (bs.map D.str))), ("run", .val (.list (run.map (encR b))))]) (.cons rfl (.cons rfl (.cons rfl .nil))) ?_
    refine Does.cons (Do1.for_ (ds := (List.range 4).map fun j => D.int (j : Nat)) (out := .next [("ledger", .olist ((ledT run).map (encI b))), ("bares", .val (.list (bs.map D.str))), ("run", .val (.list (run.map (encR b))))]) ?_ ?_) (Does.freezeL (x := "ledger") rfl (Does.ret (Do1.ret (Ev.name rfl))))
    · exact EvIt.range1 (n := 4) (W.ty "range").1 (W.ty "range").2 (Ev.bcall (d := .int (4 : Nat)) rfl (W.fn "len").1 (W.fn "len").2 (.cons (Ev.name rfl) .nil) (by have := op_len_list (X := X) (k := k + 1) (ds := run.map (encR b)) (by simp [h4]); rw [List.length_map, h4] at this; exact this)) (by decide) (by decide)
    refine Lp.foldTo (fun j : Nat => D.int (j : Nat)) (fun acc : Tbl => [("ledger", .olist (acc.map (encI b))), ("bares", .val (.list (bs.map D.str))), ("run", .val (.list (run.map (encR b))))]) (ledStep run) (fun acc r => acc.length + r.length ≤ 4 ∧ ∀ j ∈ r, j < 4) (List.range 4) [] _ ⟨by simp, fun j hj => List.mem_range.mp hj⟩ rfl rfl (by rw [ledT, h4]) ?_
    rintro acc j r ⟨g1, g2⟩
    have hj : j < 4 := g2 j List.mem_cons_self
    simp only [List.length_cons] at g1
    have hlen : (ledStep run acc j).length ≤ acc.length + 1 := by unfold ledStep; split <;> simp
    refine ⟨⟨by omega, fun i hi => g2 i (List.mem_cons_of_mem _ hi)⟩, _, Asg.name (.inr (show Str.ofString "place" ∈ ownCells (recAt 15).scope by decide)), ?_⟩
    have hat : ∀ i : Nat, i < 4 → (bs.map D.str)[(i : Int).toNat]? = some (.str (bs.getD i "")) := by
      intro i hi
      rw [Int.toNat_natCast, List.getElem?_map, List.getElem?_eq_getElem (by omega)]
      simp [List.getElem?_eq_getElem (show i < bs.length by omega)]
    have hgb : bs.getD j "" = (run.map bareR).getD j "" := by rw [hbs]
    unfold ledStep
    rw [hbs]
    generalize hkb : bs.getD j "" = kb
    have hrow : ∃ r ∈ run, bareR r = kb := by
      have : kb ∈ run.map bareR := by
        rw [hbs, ← hkb, List.getD_eq_getElem?_getD, List.getElem?_eq_getElem (show j < bs.length by omega)]
        exact List.getElem_mem _
      simpa using this
    refine Does.one (Do1.if_ (b := !(bs.take j).contains kb) (Tst.cmp (Ev.listItem (d := .str kb) (n := (j : Int)) (EvL.of (Ev.name rfl)) (Ev.name rfl) (Int.natCast_nonneg j) (by rw [hat j hj, hkb]) (lt63 hj)) (Ev.listSlice (EvL.of (Ev.name rfl)) EvP.none (EvP.some (Ev.name rfl)) (by simp [hbl])) (by rw [pick4 (by simp [hbl]) hj, ← List.map_take]; exact op_notIn_strs)) (fun hb => ?_) fun hb => ?_)
    · rw [if_pos hb]
      obtain ⟨r0, hr0, hr0k⟩ := hrow
      have hbr : ∀ i : Nat, i < 4 → bs.getD i "" = bareR (run.getD i r0) := by
        intro i hi
        rw [← hbs, List.getD_eq_getElem?_getD, List.getD_eq_getElem?_getD, List.getElem?_map, List.getElem?_eq_getElem (show i < run.length by omega)]
        rfl
      have hrr : ∀ i : Nat, i < 4 → (run.map (encR b))[(i : Int).toNat]? = some (encR b (run.getD i r0)) := by
        intro i hi
        rw [Int.toNat_natCast, List.getElem?_map, List.getD_eq_getElem?_getD, List.getElem?_eq_getElem (show i < run.length by omega)]
        rfl
      have hmine : ((List.range 4).filter fun i => bareR (run.getD i r0) == kb).map (fun i => encR b (run.getD i r0)) = (mineL run kb).map (encR b) := by
        rw [← h4]; exact filter_range r0 (fun r => bareR r == kb) (encR b) run
      have hmm : ∀ r ∈ mineL run kb, r ∈ run := fun r hr => (List.mem_filter.mp hr).1
      have hmne : mineL run kb ≠ [] := fun e => by
        have : r0 ∈ mineL run kb := List.mem_filter.mpr ⟨hr0, by simp [hr0k]⟩
        rw [e] at this; cases this
      have hml : (mineL run kb).length ≤ 4 := by rw [← h4]; exact List.length_filter_le _ _
      generalize hM : mineL run kb = M at hmine hmm hmne hml
      refine Does.cons (Do1.comp1 (es := M.map (encR b)) (ds := (List.range 4).map fun j => D.int (j : Nat)) (ρ₀ := [("bares", .val (.list (bs.map D.str))), ("place", .val (.int (j : Nat))), ("run", .val (.list (run.map (encR b))))]) (ρ' := [("bares", .val (.list (bs.map D.str))), ("place", .val (.int (j : Nat))), ("run", .val (.list (run.map (encR b))))]) (.inl rfl) ?_ ?_ ?_ (by simp; omega) ?_ (hoc := fun x hx => by cases (show x ∈ ([] : List Str) from hx))) ?_
      · refine CpIn.of _ ?_
        intro p hp
        simp only [List.mem_cons, List.not_mem_nil, or_false] at hp
        rcases hp with rfl | rfl | rfl
        all_goals exact ⟨⟨_, rfl⟩, rfl, .inl rfl, .inl rfl, by simp, no_mem rfl⟩
      · exact EvIt.range1 (n := 4) (W.ty "range").1 (W.ty "range").2 (Ev.bcall (d := .int (4 : Nat)) rfl (W.fn "len").1 (W.fn "len").2 (.cons (Ev.name rfl) .nil) (by have := op_len_list (X := X) (k := k + 1) (ds := run.map (encR b)) (by simp [h4]); rw [List.length_map, h4] at this; exact this)) (by decide) (by decide)
      · rw [← hmine]
        refine Cp.filt (fun j : Nat => D.int (j : Nat)) (fun i => encR b (run.getD i r0)) (fun i => bareR (run.getD i r0) == kb) (List.range 4) fun i hi => ?_
        have hi' : i < 4 := List.mem_range.mp hi
        refine ⟨_, Asg.name (.inl rfl), .one ?_, fun _ => ?_, AEnv.Sub.skip rfl⟩
        · rw [← hbr i hi']
          exact Tst.cmp (Ev.listItem (n := (i : Int)) (EvL.of (Ev.name rfl)) (Ev.name rfl) (Int.natCast_nonneg i) (hat i hi') (lt63 hi')) (Ev.listItem (d := .str kb) (n := (j : Int)) (EvL.of (Ev.name rfl)) (Ev.name rfl) (Int.natCast_nonneg j) (by rw [hat j hj, hkb]) (lt63 hj)) op_eq_str
        · exact Ev.listItem (n := (i : Int)) (EvL.of (Ev.name rfl)) (Ev.name rfl) (Int.natCast_nonneg i) (hrr i hi') (lt63 hi')
      · intro env he
        have hsc := he.is
        obtain ⟨scope, locals, globals, cells, qual, func, code, frame, builtins⟩ := env
        subst hsc
        rfl
      refine Does.sub (ρ' := [("mine", .val (.list (M.map (encR b)))), ("place", .val (.int (j : Nat))), ("ledger", .olist (acc.map (encI b))), ("bares", .val (.list (bs.map D.str))), ("run", .val (.list (run.map (encR b))))]) (.cons rfl (.cons rfl (.cons rfl (.cons rfl (.cons rfl .nil))))) ?_
      have hcl := callsL_len fun r hr => h r (hmm r hr)
      have hcok := callsL_ok fun r hr => h r (hmm r hr)
      refine Does.cons (Do1.comp2 (es := (callsL M).map (encK b)) (ds := M.map (encR b)) (ρ₀ := []) (ρ' := []) (.inl rfl) (CpIn.of [] (fun p hp => by cases hp)) (EvIt.list (Ev.name rfl)) ?_ (by rw [List.length_map]; omega) ?_ (by intro _ _; rfl) (by intro _ _; rfl) (by rfl) (by decide) (hoc := fun x hx => by cases (show x ∈ ([] : List Str) from hx))) ?_
      · unfold callsL
        rw [List.map_map]
        refine Cp.map2 (encR b) (·.c) (encP b) (encK b ∘ fun p : Fn × List Int => (bareF p.1.t, p.2)) M fun r hr => ⟨_, Asg.tuple (.cons (Asg.name (.inl rfl)) (fun _ => rfl) (.cons (Asg.name (.inl rfl)) (fun _ => rfl) (.cons (Asg.name (.inl rfl)) (fun _ => rfl) .nil))), EvIt.list (Ev.name rfl), AEnv.Sub.nil, fun p hp => ⟨_, Asg.tuple (.cons (Asg.name (.inl rfl)) (fun _ => rfl) (.cons (Asg.name (.inl rfl)) (fun _ => rfl) .nil)), ?_, ?_⟩⟩
        · exact Ev.tuple (.cons (Ev.call (.cons (Ev.tupItem (d := .str p.1.t) (Ev.name rfl) Ev.int (by decide) rfl) .nil) (cal_bare (k := k) W ((h r (hmm r hr)).c p hp))) (.cons (Ev.name rfl) .nil)) (by simp)
        · exact AEnv.Sub.trans (AEnv.Sub.skip rfl) (AEnv.Sub.skip rfl)
      · intro env he
        have hsc := he.is
        obtain ⟨scope, locals, globals, cells, qual, func, code, frame, builtins⟩ := env
        subst hsc
        rfl
      generalize hcs : callsL M = cs at hcl hcok
      refine Does.cons (Do1.newDict (.inl rfl)) ?_
      refine Does.sub (ρ' := [("table", .odict (encC b [])), ("calls", .val (.list (cs.map (encK b)))), ("mine", .val (.list (M.map (encR b)))), ("place", .val (.int (j : Nat))), ("ledger", .olist (acc.map (encI b))), ("bares", .val (.list (bs.map D.str))), ("run", .val (.list (run.map (encR b))))]) (.cons rfl (.cons rfl (.cons rfl (.cons rfl (.cons rfl (.cons rfl (.cons rfl .nil))))))) ?_
      refine Does.cons (Do1.for_ (EvIt.list (Ev.name rfl)) (out := .next [("table", .odict (encC b (ledC cs))), ("calls", .val (.list (cs.map (encK b)))), ("mine", .val (.list (M.map (encR b)))), ("place", .val (.int (j : Nat))), ("ledger", .olist (acc.map (encI b))), ("bares", .val (.list (bs.map D.str))), ("run", .val (.list (run.map (encR b))))]) ?_) ?_
      · refine Lp.foldTo (encK b) (fun t : Calls => [("table", .odict (encC b t)), ("calls", .val (.list (cs.map (encK b)))), ("mine", .val (.list (M.map (encR b)))), ("place", .val (.int (j : Nat))), ("ledger", .olist (acc.map (encI b))), ("bares", .val (.list (bs.map D.str))), ("run", .val (.list (run.map (encR b))))]) (fun t p => ups (fun _ v => v) t p.1 (tot (oneL cs p.1)))
          (fun t r => (keys t).Nodup ∧ (∀ p ∈ r, p ∈ cs) ∧ t.length + r.length ≤ 40) cs [] _ ⟨.nil, fun _ hp => hp, by simp; omega⟩ rfl rfl rfl ?_
        rintro t ⟨x, v⟩ r ⟨t1, t2, t3⟩
        have hp : (x, v) ∈ cs := t2 _ List.mem_cons_self
        have hlu := len_ups (op := fun _ v => v) (t := t) (k := x) (v := tot (oneL cs x))
        simp only [List.length_cons] at t3
        refine ⟨⟨nodup_ups t1, fun p hp => t2 p (List.mem_cons_of_mem _ hp), by show (ups (fun _ v => v) t x (tot (oneL cs x))).length + r.length ≤ 40; omega⟩, _, Asg.tuple (.cons (Asg.name (.inr (show Str.ofString "bare" ∈ ownCells (recAt 15).scope by decide))) (fun _ => rfl) (.cons (Asg.name (.inl rfl)) (fun _ => rfl) .nil)), ?_⟩
        refine Does.out (Does.one (Do1.setItem (d := encV b (tot (oneL cs x))) rfl (Ev.call (.cons ?_ .nil) (cal_total (k := k) W (oneL_ne hp) (oneL_ok hcok x) (by have := oneL_len cs x; omega))) (Ev.name rfl) (by simp [encTb]; omega))) (.cons ?_ (.cons rfl (.cons rfl (.cons rfl (.cons rfl (.cons rfl (.cons rfl .nil)))))))
        · unfold oneL
          rw [List.map_map]
          refine Ev.comp1 (ds := cs.map (encK b)) (ρ₀ := [("bare", .val (.str x))]) (ρ' := [("bare", .val (.str x))]) ?_ (EvIt.list (Ev.name rfl)) ?_ (by rw [List.length_map]; have := List.length_filter_le (fun p : Str × List Int => p.1 == x) cs; omega) (hoc := fun x hx => by cases (show x ∈ ([] : List Str) from hx))
          · refine CpIn.of _ ?_
            intro p hp
            simp only [List.mem_cons, List.not_mem_nil, or_false] at hp
            subst hp
            exact ⟨⟨_, rfl⟩, rfl, .inl rfl, .inl rfl, by simp, no_mem rfl⟩
          · refine Cp.filt (encK b) (encV b ∘ fun p : Str × List Int => p.2) (fun p => p.1 == x) cs fun p hp => ⟨_, Asg.tuple (.cons (Asg.name (.inl rfl)) (fun _ => rfl) (.cons (Asg.name (.inl rfl)) (fun _ => rfl) .nil)), .one ?_, fun _ => ?_, ?_⟩
            · exact Tst.cmp (Ev.name rfl) (Ev.name rfl) op_eq_str
            · exact Ev.name rfl
            · exact AEnv.Sub.trans (AEnv.Sub.skip rfl) (AEnv.Sub.skip rfl)
        · show some _ = some _
          congr 2
          exact dset_set t1
      · refine Does.freezeD (x := "table") rfl ?_
        have hs4 : ∀ l ∈ M.map (·.s), OkV true l := by
          intro l hl
          obtain ⟨r, hr, rfl⟩ := List.mem_map.mp hl
          exact (h r (hmm r hr)).ok.s
        have hsne : M.map (·.s) ≠ [] := by simpa using hmne
        have htl : (tot (M.map (·.s))).length = 4 := tot_ok (b := true) hsne hs4
        refine Does.out (Does.one (Do1.append (d := encI b (kb, ledE run kb)) rfl (Ev.tuple (.cons (Ev.listItem (d := .str kb) (n := (j : Int)) (EvL.of (Ev.name rfl)) (Ev.name rfl) (Int.natCast_nonneg j) (by rw [hat j hj, hkb]) (lt63 hj)) (.cons ?_ .nil)) (by simp)) (by simp; omega))) (.cons ?_ (.cons rfl (.cons rfl .nil)))
        · have e : encE b (ledE run kb) = .tuple ((tot (M.map (·.s))).map D.int ++ [.dict (encC b (ledC cs))]) := by rw [ledE, hM, hcs]; rfl
          rw [e]
          refine Ev.binop (d₁ := encV true (tot (M.map (·.s)))) (d₂ := .tuple [.dict (encC b (ledC cs))]) (Ev.call (.cons ?_ .nil) (cal_total (k := k) (b := true) W hsne hs4 (by simp; omega))) (Ev.tuple (.cons (Ev.name rfl) .nil) (by simp)) (op_add_tuple ?_ (by simp) (by simp [htl]))
          · rw [List.map_map]
            refine Ev.comp1 (ds := M.map (encR b)) (ρ₀ := []) (ρ' := []) (CpIn.of [] (fun p hp => by cases hp)) (EvIt.list (Ev.name rfl)) ?_ (by simp; omega) (hoc := fun x hx => by cases (show x ∈ ([] : List Str) from hx))
            refine Cp.map (encR b) (encV true ∘ fun r : Row => r.s) M fun r hr => ⟨_, Asg.tuple (.cons (Asg.name (.inl rfl)) (fun _ => rfl) (.cons (Asg.name (.inl rfl)) (fun _ => rfl) (.cons (Asg.name (.inl rfl)) (fun _ => rfl) .nil))), Ev.name rfl, AEnv.Sub.nil⟩
          · intro e; have := congrArg List.length e; simp [htl] at this
        · show some _ = some _
          simp
    · rw [hb, if_neg (by decide)]
      exact Does.out Does.nil (.cons rfl (.cons rfl (.cons rfl .nil)))
end Mine
end

section
set_option linter.unusedVariables false
set_option maxRecDepth 100000
set_option maxHeartbeats 4000000
namespace Mine

/-! ## tables that are short enough -/
theorem keys_ups_all {M : Type} {op : M → M → M} {t : List (Str × M)} {k : Str} {v : M} {S : Str → Prop} (h : ∀ x ∈ keys t, S x) (hk : S k) : ∀ x ∈ keys (ups op t k v), S x := by
  rw [keys_ups]
  intro x hx
  split at hx
  · exact h x hx
  · rcases List.mem_append.mp hx with hx | hx
    · exact h x hx
    · simp at hx; subst hx; exact hk
theorem addC_all {t s : Calls} {S : Str → Prop} (h : ∀ x ∈ keys t, S x) (hs : ∀ x ∈ keys s, S x) : ∀ x ∈ keys (addC t s), S x := by
  induction s generalizing t with
  | nil => exact h
  | cons p s ih => exact ih (t := ups zadd t p.1 p.2) (keys_ups_all h (hs p.1 (by simp))) fun x hx => hs x (by simp at hx ⊢; exact .inr hx)
theorem gatC_all {β : Str → Str} {c : Calls} {S : Str → Prop} (hs : ∀ x ∈ keys c, S (β x)) : ∀ x ∈ keys (gatC β c), S x := by
  unfold gatC
  have : ∀ (c acc : Calls), (∀ x ∈ keys acc, S x) → (∀ x ∈ keys c, S (β x)) → ∀ x ∈ keys (c.foldl (fun acc p => addC acc [(β p.1, p.2)]) acc), S x := by
    intro c
    induction c with
    | nil => intro acc h _; exact h
    | cons p c ih => intro acc h hs; exact ih _ (addC_all h (by intro x hx; simp at hx; subst hx; exact hs p.1 (by simp))) fun x hx => hs x (by simp at hx ⊢; exact .inr hx)
  exact this c [] (by simp) hs
noncomputable def Sh (x : Str) : Prop := x.length ≤ 100
/-- a table that the defs may be given -/
structure Gd (b : Bool) (n : Nat) (t : Tbl) : Prop where
  ok : OkT b t
  ks : ∀ x ∈ keys t, Sh x
  cs : ∀ p ∈ t, ∀ x ∈ keys p.2.2, Sh x
  wt : wt t ≤ n
theorem Gd.shrt {b : Bool} {n : Nat} {t : Tbl} (h : Gd b n t) : Shrt t := fun p hp => ⟨h.ks p.1 (List.mem_map.mpr ⟨p, hp, rfl⟩), fun q hq => h.cs p hp q.1 (List.mem_map.mpr ⟨q, hq, rfl⟩)⟩
theorem Gd.mono {b : Bool} {n m : Nat} {t : Tbl} (h : Gd b n t) (hm : n ≤ m) : Gd b m t := ⟨h.ok, h.ks, h.cs, Nat.le_trans h.wt hm⟩
theorem Gd.nil {b : Bool} : Gd b 0 [] := ⟨⟨.nil, fun _ h => (nomatch h)⟩, by simp, fun _ h => (nomatch h), by simp [Mine.wt]⟩
theorem Gd.put {b : Bool} {n m : Nat} {t : Tbl} {k : Str} {e : Ent} (h : Gd b n t) (he : OkE b e) (hk : Sh k) (hc : ∀ x ∈ keys e.2, Sh x) (hm : e.2.length + 1 ≤ m) : Gd b (n + m) (putE t k e) := by
  refine ⟨h.ok.put he, keys_ups_all h.ks hk, fun p hp => ?_, ?_⟩
  · unfold putE ups at hp
    split at hp
    · obtain ⟨q, hq, rfl⟩ := List.mem_map.mp hp
      split
      · exact addC_all (h.cs q hq) hc
      · exact h.cs q hq
    · rcases List.mem_append.mp hp with hp | hp
      · exact h.cs p hp
      · simp at hp; subst hp; exact hc
  · have h1 := wt_ups (k := k) (e := e) h.ok.nd
    have h2 := h.wt
    omega
theorem Gd.putAll {b : Bool} {n : Nat} {acc t : Tbl} (h : Gd b n acc) (ht : ∀ p ∈ t, OkE b p.2 ∧ Sh p.1 ∧ ∀ x ∈ keys p.2.2, Sh x) : Gd b (n + Mine.wt t) (Mine.putAll acc t) := by
  induction t generalizing acc n with
  | nil => exact h.mono (Nat.le_add_right _ _)
  | cons p t ih =>
    obtain ⟨h1, h2, h3⟩ := ht p List.mem_cons_self
    have := ih (h.put h1 h2 h3 (Nat.le_refl _)) fun q hq => ht q (List.mem_cons_of_mem _ hq)
    have e : n + Mine.wt (p :: t) = n + (p.2.2.length + 1) + Mine.wt t := by simp [Mine.wt]; omega
    rw [e]; exact this
theorem Gd.mem {b : Bool} {n : Nat} {t : Tbl} (h : Gd b n t) : ∀ p ∈ t, OkE b p.2 ∧ Sh p.1 ∧ ∀ x ∈ keys p.2.2, Sh x := fun p hp => ⟨h.ok.ok p hp, h.ks p.1 (List.mem_map.mpr ⟨p, hp, rfl⟩), h.cs p hp⟩
theorem Gd.join {b : Bool} {n : Nat} {ts : List Tbl} (h : ∀ t ∈ ts, Gd b n t) : Gd b (ts.length * n) (joinT ts) := by
  unfold joinT
  have : ∀ (ts : List Tbl) (acc : Tbl) (m : Nat), Gd b m acc → (∀ t ∈ ts, Gd b n t) → Gd b (m + ts.length * n) (ts.foldl Mine.putAll acc) := by
    intro ts
    induction ts with
    | nil => intro acc m h _; simpa using h
    | cons t ts ih =>
      intro acc m h hs
      have ht := hs t List.mem_cons_self
      have h1 := (h.putAll ht.mem).mono (m := m + n) (by have := ht.wt; omega)
      have h2 := ih _ _ h1 fun u hu => hs u (List.mem_cons_of_mem _ hu)
      have e : m + (t :: ts).length * n = m + n + ts.length * n := by rw [List.length_cons, Nat.succ_mul]; omega
      rw [e]; exact h2
  simpa using this ts [] 0 .nil h
theorem Gd.gat {b : Bool} {n : Nat} {β : Str → Str} {t : Tbl} (hβ : ∀ x, Sh x → Sh (β x)) (h : Gd b n t) : Gd b n (gatT β t) := by
  unfold gatT
  have : ∀ (t : Tbl) (acc : Tbl) (m : Nat), Gd b m acc → (∀ p ∈ t, OkE b p.2 ∧ Sh p.1 ∧ ∀ x ∈ keys p.2.2, Sh x) → Gd b (m + Mine.wt t) (t.foldl (fun acc p => putE acc (β p.1) (p.2.1, gatC β p.2.2)) acc) := by
    intro t
    induction t with
    | nil => intro acc m h _; simpa [Mine.wt] using h
    | cons p t ih =>
      intro acc m h ht
      obtain ⟨h1, h2, h3⟩ := ht p List.mem_cons_self
      have h5 : (gatC β p.2.2).length ≤ p.2.2.length := gatC_len h1.ok
      have := ih _ _ (h.put (k := β p.1) (gatE_ok (β := β) h1) (hβ _ h2) (gatC_all fun x hx => hβ _ (h3 x hx)) (m := p.2.2.length + 1) (by simpa using h5)) fun q hq => ht q (List.mem_cons_of_mem _ hq)
      have e : m + Mine.wt (p :: t) = m + (p.2.2.length + 1) + Mine.wt t := by simp [Mine.wt]; omega
      rw [e]; exact this
  have h1 := this t [] 0 .nil h.mem
  exact h1.mono (by have := h.wt; omega)
theorem wts_le {b : Bool} {n : Nat} : ∀ {ts : List Tbl}, (∀ t ∈ ts, Gd b n t) → wts ts ≤ ts.length * n
  | [], _ => Nat.zero_le _
  | t :: ts, h => by
    have h1 := (h t List.mem_cons_self).wt
    have h2 := wts_le (ts := ts) fun u hu => h u (List.mem_cons_of_mem _ hu)
    rw [List.length_cons, Nat.succ_mul]
    show wt t + wts ts ≤ _
    omega

theorem stripF_len (x : Str) : (stripF x).length ≤ x.length := Txt.slice_le _ _ _
theorem Sh.strip (x : Str) (h : Sh x) : Sh (stripF x) := Nat.le_trans (stripF_len x) h
theorem stdF_len {a n : Str} {l : Int} (ha : a.length ≤ 10) (hn : n.length ≤ 10) (hl : (Str.ofString (toString l)).length ≤ 10) : Sh (stdF a l n) := by
  have s1 : (Str.ofString "{").length ≤ 3 := by decide +kernel
  have s2 : (Str.ofString "}").length ≤ 3 := by decide +kernel
  have s3 : (Str.ofString ":").length ≤ 3 := by decide +kernel
  have s4 : (Str.ofString "(").length ≤ 3 := by decide +kernel
  have s5 : (Str.ofString ")").length ≤ 3 := by decide +kernel
  unfold stdF Sh
  split
  · split
    · have := Txt.slice_le n (some 1) (some (-1))
      simp only [Str.length_append]; omega
    · omega
  · simp only [Str.length_append]; omega
/-- a function of the law's own making -/
structure GdF (f : Fn) : Prop where
  ok : OkF f
  t : f.t.length ≤ 100
  s : Sh (stdO f)
theorem lineD_len (d : Int) : (Str.ofString (toString (lineD d))).length ≤ 3 := by
  have h2 := fmod_range (a := d.fdiv 768) (b := 2) (by decide)
  obtain h | h : lineD d = 0 ∨ lineD d = 1 := bit2 h2
  · rw [h]; decide +kernel
  · rw [h]; decide +kernel
theorem GdF.fn (d : Int) : GdF (fnD d) := by
  have hp := pathD_len d
  have s1 : (Str.ofString "{").length ≤ 3 := by decide +kernel
  have s2 : (Str.ofString "}").length ≤ 3 := by decide +kernel
  have s3 : (Str.ofString ":").length ≤ 3 := by decide +kernel
  have s4 : (Str.ofString "(").length ≤ 3 := by decide +kernel
  have s5 : (Str.ofString ")").length ≤ 3 := by decide +kernel
  have s6 : (Str.ofString "<").length ≤ 1 := by decide +kernel
  have s7 : (Str.ofString ">").length ≤ 1 := by decide +kernel
  have s8 : (Str.ofString "f.g").length ≤ 3 := by decide +kernel
  have s9 : (Str.ofString "<h>").length ≤ 3 := by decide +kernel
  have s10 : (Str.ofString "~").length ≤ 3 := by decide +kernel
  have s11 : (Str.ofString (toString (0 : Int))).length ≤ 3 := by decide +kernel
  have hl := lineD_len d
  have h2 := fmod_range (a := d.fdiv 768) (b := 2) (by decide)
  have hn : (nameD d).length ≤ 3 := by unfold nameD; split <;> assumption
  have w : ∀ {x : Str} {a : Nat} (b : Nat), x.length ≤ a → a ≤ b → x.length ≤ b := fun b h h' => Nat.le_trans h h'
  have l2 := lenA (lenA s6 hp) s7
  have l5 := lenA (lenA (lenA (lenA (lenA hp s3) hl) s4) hn) s5
  unfold fnD
  split
  · exact ⟨⟨w 50 s10 (by decide), w 50 l2 (by decide), Int.le_refl _, (by decide : (0 : Int) < 100)⟩, w 100 (lenA (lenA s1 hp) s2) (by decide), stdF_len (w 10 s10 (by decide)) (w 10 l2 (by decide)) (w 10 s11 (by decide))⟩
  · split
    · exact ⟨⟨w 50 s10 (by decide), w 50 hp (by decide), Int.le_refl _, (by decide : (0 : Int) < 100)⟩, w 100 hp (by decide), stdF_len (w 10 s10 (by decide)) (w 10 hp (by decide)) (w 10 s11 (by decide))⟩
    · exact ⟨⟨w 50 hp (by decide), w 50 hn (by decide), h2.1, Int.lt_trans h2.2 (by decide)⟩, w 100 l5 (by decide), stdF_len (w 10 hp (by decide)) (w 10 hn (by decide)) (w 10 hl (by decide))⟩
theorem OkL.row (b : Bool) (d e f : Int) : OkL b (rowD b d e f) := by
  have hc : ∀ x, OkV b (callD b x) := fun x => by cases b <;> rfl
  refine ⟨⟨(GdF.fn d).ok, rfl, ?_, (by decide : 2 ≤ 10)⟩, (GdF.fn d).t, ?_⟩
  · intro p hp
    simp only [rowD, List.mem_cons, List.not_mem_nil, or_false] at hp
    rcases hp with rfl | rfl
    · exact ⟨(GdF.fn e).ok, hc e⟩
    · exact ⟨(GdF.fn f).ok, hc f⟩
  · intro p hp
    simp only [rowD, List.mem_cons, List.not_mem_nil, or_false] at hp
    rcases hp with rfl | rfl
    · exact (GdF.fn e).t
    · exact (GdF.fn f).t
theorem oneC_eq (c : List (Fn × List Int)) : oneC c = gatC id (c.map fun p => (stdO p.1, p.2)) := by
  unfold oneC gatC; rw [List.foldl_map]; rfl
theorem Gd.row (b : Bool) (d e f : Int) : Gd b 3 (oneT (rowD b d e f)) := by
  have hok := (OkL.row b d e f).ok
  have hco : OkC b ((rowD b d e f).c.map fun p => (stdO p.1, p.2)) := by
    intro p hp
    obtain ⟨q, hq, rfl⟩ := List.mem_map.mp hp
    exact (hok.c q hq).2
  obtain ⟨g1, g2, g3⟩ := gatC_go (β := id) (b := b) ((rowD b d e f).c.map fun p => (stdO p.1, p.2)) [] .nil (fun _ h => (nomatch h)) hco
  have he : OkE b ((rowD b d e f).s, oneC (rowD b d e f).c) := ⟨hok.s, by rw [oneC_eq]; exact g1, by rw [oneC_eq]; exact g2⟩
  have hk : ∀ x ∈ keys (oneC (rowD b d e f).c), Sh x := by
    rw [oneC_eq]
    refine gatC_all ?_
    intro x hx
    simp only [keys, List.map_map, List.mem_map] at hx
    obtain ⟨p, hp, rfl⟩ := hx
    simp only [rowD, List.mem_cons, List.not_mem_nil, or_false] at hp
    rcases hp with rfl | rfl
    · exact (GdF.fn e).s
    · exact (GdF.fn f).s
  have := (Gd.nil (b := b)).put (k := stdO (rowD b d e f).f) he (GdF.fn d).s hk (m := 3) (by
    rw [oneC_eq]
    have h3 : (gatC id ((rowD b d e f).c.map fun p => (stdO p.1, p.2))).length ≤ 0 + 2 := g3
    show (gatC id ((rowD b d e f).c.map fun p => (stdO p.1, p.2))).length + 1 ≤ 3
    omega)
  exact this
end Mine
end

section
set_option linter.unusedVariables false
set_option maxRecDepth 100000
set_option maxHeartbeats 4000000
namespace Mine

/-! ## law -/
noncomputable def sing (run : List Row) : List Tbl := run.map oneT
noncomputable def told0 (run : List Row) : Tbl := joinT ((sing run).map (gatT stripF))
noncomputable def partsL (run : List Row) (m : Nat) : List Tbl := [(sing run).take m, (sing run).drop m].map fun ts => gatT stripF (joinT ts)
noncomputable def toldC (run : List Row) (m : Nat) : Tbl := joinT (partsL run m)
noncomputable def cutI (ns : List Int) : Nat := (1 + ns.sum.fmod 3).toNat
noncomputable def toldL (run : List Row) (m : Nat) : List Tbl := [told0 run, toldC run 0, toldC run m, gatT stripF (told0 run)]
noncomputable abbrev encX (b : Bool) (t : Tbl) : D := .dict (encT b t)

theorem pickTo {l : List D} (h : l.length = 4) {j : Nat} (hj : j < 4) : pick l (some (j : Int)) none none = l.drop j := by
  obtain ⟨a, b, c, d, rfl⟩ := len_four h
  have e : ∀ i : Nat, i < 4 → sliceRange (sliceBounds (some (i : Int)) none none 4).1 (sliceBounds (some (i : Int)) none none 4).2.1 (sliceBounds (some (i : Int)) none none 4).2.2 = List.range' i (4 - i) := by decide +kernel
  show (sliceRange (sliceBounds (some (j : Int)) none none 4).1 (sliceBounds (some (j : Int)) none none 4).2.1 (sliceBounds (some (j : Int)) none none 4).2.2).filterMap ([a, b, c, d][·]?) = _
  rw [e j hj]
  match j, hj with
  | 0, _ | 1, _ | 2, _ | 3, _ => rfl

/-- what the pure part owes -/
structure Owed (b : Bool) (run : List Row) (m : Nat) : Prop where
  eq : ∀ t ∈ toldL run m, DEqs 20 (t.map (encI b)) ((ledT run).map (encI b))
  four : ∀ p ∈ ledT run, p.2.1.length = 4
  cnt : b = false → (told0 run).map (fun p => (p.2.2.map (·.2.headD 0)).foldl (· + ·) 0) = (ledT run).map fun p => (p.2.2.map (·.2.headD 0)).sum
  len : (ledT run).length ≤ 4

theorem DEqs.ints (n : Nat) : ∀ l : List Int, DEqs n (l.map D.int) (l.map D.int)
  | [] => .nil n
  | a :: l => .cons (.int n a) (DEqs.ints n l)

theorem DEqs.len {n : Nat} : ∀ {ds es : List D}, DEqs n ds es → ds.length = es.length
  | _, _, .nil _ => rfl
  | _, _, .cons _ h => by rw [List.length_cons, List.length_cons, DEqs.len h]

theorem runD_mem {ns : List Int} {r : Row} (h : r ∈ runD ns) : ∃ d e f, r = rowD (oddI ns) d e f := by
  obtain ⟨i, _, rfl⟩ := List.mem_map.mp h
  exact ⟨_, _, _, rfl⟩

theorem cal_law {X : Wd} (W : Wok X) {k : Nat} {ns : List Int} (hl : ns.length ≤ 63) (O : Owed (oddI ns) (runD ns) (cutI ns)) : Cal X (k + 4) "law" [.list (ns.map D.int)] (.bool true) := by
  refine Cal.of (k := k + 3) (r := recAt 16) (names := ["script"]) (W.recs 16 (by decide)) ?_ (by decide) rfl ?_ ?_ rfl rfl rfl ?_
  · intro pm cd doc vs h
    obtain ⟨v, rfl⟩ := List.length_eq_one_iff.mp h
    rfl
  · intro x hx; simp at hx; subst hx; exact .inl rfl
  · decide
  · have hm3 := fmod_range (a := ns.sum) (b := 3) (by decide)
    have hcut : cutI ns < 4 ∧ ((cutI ns : Nat) : Int) = 1 + ns.sum.fmod 3 := by unfold cutI; omega
    have hokl : ∀ r ∈ runD ns, OkL (oddI ns) r := fun r hr => by obtain ⟨d, e, f, rfl⟩ := runD_mem hr; exact OkL.row _ _ _ _
    have hgd : ∀ t ∈ sing (runD ns), Gd (oddI ns) 3 t := fun t ht => by
      obtain ⟨r, hr, rfl⟩ := List.mem_map.mp ht
      obtain ⟨d, e, f, rfl⟩ := runD_mem hr
      exact Gd.row _ _ _ _
    have hr4 : (runD ns).length = 4 := rfl
    refine Does.asg (d := .list ((runD ns).map (encR (oddI ns)))) (Ev.call (.cons (Ev.name rfl) .nil) (cal_run (k := k + 1) W hl)) ?_
    generalize hb : oddI ns = b at O hokl hgd ⊢
    generalize hrun : runD ns = run at O hokl hgd hr4 ⊢
    refine Does.asg (d := .list ((ledT run).map (encI b))) (Ev.call (.cons (Ev.name rfl) .nil) (cal_ledger (k := k + 1) W hr4 hokl)) ?_
    have hs4 : (sing run).length = 4 := by unfold sing; rw [List.length_map, hr4]
    refine Does.cons (Do1.comp1 (es := (sing run).map (encX b)) (ds := run.map (encR b)) (ρ₀ := []) (ρ' := []) (.inl rfl) (CpIn.of [] (fun p hp => by cases hp)) (EvIt.list (Ev.name rfl)) ?_ (by simp [hs4]) ?_ (hoc := fun x hx => by cases (show x ∈ ([] : List Str) from hx))) ?_
    · unfold sing
      rw [List.map_map]
      exact Cp.map (encR b) (encX b ∘ oneT) run fun r hr => ⟨_, Asg.name (.inl rfl), Ev.call (.cons (Ev.name rfl) .nil) (cal_single (k := k + 1) W (hokl r hr).ok), AEnv.Sub.nil⟩
    · intro env he
      have hsc := he.is
      obtain ⟨scope, locals, globals, cells, qual, func, code, frame, builtins⟩ := env
      subst hsc
      rfl
    have hgg : ∀ t ∈ (sing run).map (gatT stripF), Gd b 3 t := fun t ht => by
      obtain ⟨u, hu, rfl⟩ := List.mem_map.mp ht
      exact (hgd u hu).gat Sh.strip
    have hgj : ∀ ts : List Tbl, ts.length ≤ 4 → (∀ t ∈ ts, Gd b 3 t) → Gd b 12 (joinT ts) := fun ts hl h => (Gd.join h).mono (by omega)
    have hcj : ∀ ts : List Tbl, ts.length ≤ 4 → (∀ t ∈ ts, Gd b 12 t) → Cal X (k + 3) "_law_joined" [.list (ts.map (encX b))] (encX b (joinT ts)) := fun ts hl h => cal_join W (fun t ht => (h t ht).ok) (by have := wts_le h; omega)
    have hcg : ∀ t : Tbl, Gd b 12 t → Cal X (k + 3) "_law_gathered" [encX b t] (encX b (gatT stripF t)) := fun t h => cal_gat W (fun x hx => cal_strip (k := k + 1) W hx) h.ok h.shrt (by have := h.wt; omega)
    have ht0 : Gd b 12 (told0 run) := hgj _ (by simp [hs4]) hgg
    refine Does.cons (Do1.newList (ds := [encX b (told0 run)]) (.inl rfl) (.cons (Ev.call (.cons (d := .list (((sing run).map (gatT stripF)).map (encX b))) ?_ .nil) (hcj _ (by simp [hs4]) fun t ht => (hgg t ht).mono (by decide))) .nil) (by simp)) ?_
    · rw [List.map_map]
      refine Ev.comp1 (ds := (sing run).map (encX b)) (ρ₀ := []) (ρ' := []) (CpIn.of [] (fun p hp => by cases hp)) (EvIt.list (Ev.name rfl)) ?_ (by simp [hs4]) (hoc := fun x hx => by cases (show x ∈ ([] : List Str) from hx))
      exact Cp.map (encX b) (encX b ∘ gatT stripF) (sing run) fun t ht => ⟨_, Asg.name (.inl rfl), Ev.call (.cons (Ev.name rfl) .nil) (hcg t ((hgd t ht).mono (by decide))), AEnv.Sub.nil⟩
    refine Does.sub (ρ' := [("told", .olist ([told0 run].map (encX b))), ("singles", .val (.list ((sing run).map (encX b)))), ("due", .val (.list ((ledT run).map (encI b)))), ("script", .val (.list (ns.map D.int)))]) (.cons rfl (.cons rfl (.cons rfl (.cons rfl .nil)))) ?_
    refine Does.cons (Do1.for_ (ds := [0, cutI ns].map fun j => D.int (j : Nat)) (out := .next [("told", .olist ([told0 run, toldC run 0, toldC run (cutI ns)].map (encX b))), ("singles", .val (.list ((sing run).map (encX b)))), ("due", .val (.list ((ledT run).map (encI b)))), ("script", .val (.list (ns.map D.int)))]) ?_ ?_) ?_
    · refine EvIt.list (Ev.list (.cons Ev.int (.cons ?_ .nil)) (by simp))
      show Ev _ _ _ (D.int (cutI ns : Nat))
      rw [hcut.2]
      exact Ev.binop Ev.int (Ev.binop (Ev.bcall rfl (W.fn "sum").1 (W.fn "sum").2 (.cons (Ev.name rfl) .nil) op_sum_list) Ev.int (op_mod_int (by decide))) op_add_int
    · refine Lp.foldTo (fun j : Nat => D.int (j : Nat)) (fun l : List Tbl => [("told", .olist (l.map (encX b))), ("singles", .val (.list ((sing run).map (encX b)))), ("due", .val (.list ((ledT run).map (encI b)))), ("script", .val (.list (ns.map D.int)))]) (fun l m => l ++ [toldC run m]) (fun l r => l.length + r.length ≤ 3 ∧ ∀ j ∈ r, j < 4) [0, cutI ns] [told0 run] _ ⟨by simp, fun j hj => ?_⟩ rfl rfl rfl ?_
      · simp only [List.mem_cons, List.not_mem_nil, or_false] at hj
        rcases hj with rfl | rfl
        · decide
        · exact hcut.1
      rintro l m r ⟨g1, g2⟩
      have hm : m < 4 := g2 m List.mem_cons_self
      simp only [List.length_cons] at g1
      refine ⟨⟨by simp; omega, fun j hj => g2 j (List.mem_cons_of_mem _ hj)⟩, _, Asg.name (.inl rfl), ?_⟩
      have hpt : ∀ ts ∈ [(sing run).take m, (sing run).drop m], ts.length ≤ 4 ∧ ∀ t ∈ ts, Gd b 3 t := by
        intro ts hts
        simp only [List.mem_cons, List.not_mem_nil, or_false] at hts
        rcases hts with rfl | rfl
        · exact ⟨by rw [List.length_take]; omega, fun t ht => hgd t (List.mem_of_mem_take ht)⟩
        · exact ⟨by rw [List.length_drop]; omega, fun t ht => hgd t (List.mem_of_mem_drop ht)⟩
      refine Does.cons (Do1.comp1 (es := (partsL run m).map (encX b)) (ds := [(sing run).take m, (sing run).drop m].map fun ts => D.list (ts.map (encX b))) (ρ₀ := []) (ρ' := []) (.inl rfl) (CpIn.of [] (fun p hp => by cases hp)) ?_ ?_ (by simp [partsL]) ?_ (hoc := fun x hx => by cases (show x ∈ ([] : List Str) from hx))) ?_
      · have e1 : pick ((sing run).map (encX b)) none (some (m : Int)) none = ((sing run).take m).map (encX b) := by rw [pick4 (by simp [hs4]) hm, List.map_take]
        have e2 : pick ((sing run).map (encX b)) (some (m : Int)) none none = ((sing run).drop m).map (encX b) := by rw [pickTo (by simp [hs4]) hm, List.map_drop]
        show EvIt _ _ _ _ [D.list (((sing run).take m).map (encX b)), D.list (((sing run).drop m).map (encX b))]
        rw [← e1, ← e2]
        exact EvIt.list (Ev.list (.cons (Ev.listSlice (EvL.of (Ev.name rfl)) EvP.none (EvP.some (Ev.name rfl)) (by simp [hs4])) (.cons (Ev.listSlice (EvL.of (Ev.name rfl)) (EvP.some (Ev.name rfl)) EvP.none (by simp [hs4])) .nil)) (by simp))
      · unfold partsL
        rw [List.map_map]
        refine Cp.map (fun ts : List Tbl => D.list (ts.map (encX b))) (encX b ∘ fun ts => gatT stripF (joinT ts)) _ fun ts hts => ⟨_, Asg.name (.inl rfl), ?_, AEnv.Sub.nil⟩
        obtain ⟨q1, q2⟩ := hpt ts hts
        exact Ev.call (.cons (Ev.call (.cons (Ev.name rfl) .nil) (hcj ts q1 fun t ht => (q2 t ht).mono (by decide))) .nil) (hcg _ (hgj ts q1 q2))
      · intro env he
        have hsc := he.is
        obtain ⟨scope, locals, globals, cells, qual, func, code, frame, builtins⟩ := env
        subst hsc
        rfl
      refine Does.out (Does.one (Do1.append (d := encX b (toldC run m)) rfl (Ev.call (.cons (Ev.name rfl) .nil) (hcj (partsL run m) (by simp [partsL]) fun t ht => ?_)) (by simp; omega))) (.cons ?_ (.cons rfl (.cons rfl (.cons rfl .nil))))
      · obtain ⟨ts, hts, rfl⟩ := List.mem_map.mp ht
        obtain ⟨q1, q2⟩ := hpt ts hts
        exact (hgj ts q1 q2).gat Sh.strip
      · simp
    refine Does.cons (Do1.append (d := encX b (gatT stripF (told0 run))) rfl (Ev.call (.cons (Ev.listItem (n := 0) (d := encX b (told0 run)) (EvL.own rfl) Ev.int (by decide) rfl) .nil) (hcg _ ht0)) (by simp)) ?_
    refine Does.freezeL (x := "told") (ds := (toldL run (cutI ns)).map (encX b)) rfl ?_
    refine Does.sub (ρ' := [("told", .val (.list ((toldL run (cutI ns)).map (encX b)))), ("due", .val (.list ((ledT run).map (encI b)))), ("script", .val (.list (ns.map D.int)))]) (.cons rfl (.cons rfl (.cons rfl .nil))) ?_
    have hlen : ∀ t ∈ toldL run (cutI ns), t.length ≤ 1000 := by
      intro t ht
      have hq := O.len
      have hq2 := DEqs.len (O.eq t ht)
      simp at hq2; omega
    refine Does.ifNo (b := false) (Tst.cmp (d₁ := .list ((toldL run (cutI ns)).map fun t => .list (t.map (encI b)))) (d₂ := .list (List.replicate 4 (.list ((ledT run).map (encI b))))) ?_ ?_ (op_ne_lists (n := 21) ?_ (by decide))) rfl ?_
    · refine Ev.comp1 (ds := (toldL run (cutI ns)).map (encX b)) (ρ₀ := []) (ρ' := []) (CpIn.of [] (fun p hp => by cases hp)) (EvIt.list (Ev.name rfl)) ?_ (by simp [toldL]) (hoc := fun x hx => by cases (show x ∈ ([] : List Str) from hx))
      refine Cp.map (encX b) (fun t => .list (t.map (encI b))) _ fun t ht => ⟨_, Asg.name (.inl rfl), ?_, AEnv.Sub.nil⟩
      have e : t.map (encI b) = (encT b t).map itemD := (items_enc _ _).symm
      rw [e]
      exact Ev.listItems (W.ty "list").1 (W.ty "list").2 (Ev.name rfl) (by have := hlen t ht; simpa [encTb] using this) (by rfl) (by intro _; rfl) (by rfl)
    · exact Ev.binop (d₁ := .list [.list ((ledT run).map (encI b))]) (Ev.list (.cons (Ev.name rfl) .nil) (by simp)) Ev.int (op_mul_list (n := 4) (by decide) (by decide) (by simp) (by simp))
    · exact .cons (.list (O.eq _ (by simp [toldL]))) (.cons (.list (O.eq _ (by simp [toldL]))) (.cons (.list (O.eq _ (by simp [toldL]))) (.cons (.list (O.eq _ (by simp [toldL]))) (.nil _))))
    cases hb2 : (ns.sum.fmod 2 == 1) with
    | true => exact Does.ifYes (b := (ns.sum.fmod 2 == 1)) (Tst.cmp (Ev.binop (Ev.bcall rfl (W.fn "sum").1 (W.fn "sum").2 (.cons (Ev.name rfl) .nil) op_sum_list) Ev.int (op_mod_int (by decide))) Ev.int op_eq_int) hb2 (Does.ret (Do1.ret Ev.bool))
    | false =>
      refine Does.ifNo (b := (ns.sum.fmod 2 == 1)) (Tst.cmp (Ev.binop (Ev.bcall rfl (W.fn "sum").1 (W.fn "sum").2 (.cons (Ev.name rfl) .nil) op_sum_list) Ev.int (op_mod_int (by decide))) Ev.int op_eq_int) hb2 ?_
      have hb0 : b = false := by
        have h2 := fmod_range (a := ns.sum) (b := 2) (by decide)
        have h3 : ns.sum.fmod 2 ≠ 1 := by simpa using hb2
        have h4 : ns.sum.fmod 2 = 0 := by omega
        rw [← hb, oddI, h4]; rfl
      subst hb0
      refine Does.ret (Do1.ret (Ev.cmp (d₁ := .list (((told0 run).map (fun p => (p.2.2.map (·.2.headD 0)).foldl (· + ·) 0)).map D.int)) (d₂ := .list (((ledT run).map (fun p => (p.2.2.map (·.2.headD 0)).sum)).map D.int)) ?_ ?_ (op_eq_lists (n := 21) ?_ (by decide))))
      · rw [List.map_map]
        refine Ev.comp1 (ds := (told0 run).map fun p => encE false p.2) (ρ₀ := []) (ρ' := []) (CpIn.of [] (fun p hp => by cases hp)) ?_ ?_ (by have := hlen (told0 run) (by simp [toldL]); simpa using this) (hoc := fun x hx => by cases (show x ∈ ([] : List Str) from hx))
        · have e : (told0 run).map (fun p => encE false p.2) = (encT false (told0 run)).map (·.2) := by simp [encTb, Function.comp_def]
          rw [e]
          exact EvIt.values (kds := encT false (told0 run)) (Ev.listItem (n := 0) (d := encX false (told0 run)) (EvL.of (Ev.name rfl)) Ev.int (by decide) rfl)
        · refine Cp.map (fun p : Str × Ent => encE false p.2) _ (told0 run) fun p hp => ⟨_, Asg.name (.inl rfl), ?_, AEnv.Sub.nil⟩
          obtain ⟨x, e1, ec⟩ := p
          obtain ⟨c1, c2, c3, c4, rfl⟩ := len_four (show e1.length = 4 from (ht0.ok.ok _ hp).four)
          refine Ev.call (.cons (Ev.tupItem (d := .dict (encC false ec)) (Ev.name rfl) Ev.int (by decide) rfl) .nil) (cal_count (k := k + 2) W ?_)
          simp [encTb, Function.comp_def, encV]
      · rw [List.map_map]
        refine Ev.comp1 (ds := (ledT run).map (encI false)) (ρ₀ := []) (ρ' := []) (CpIn.of [] (fun p hp => by cases hp)) (EvIt.list (Ev.name rfl)) ?_ (by have := O.len; simp; omega) (hoc := fun x hx => by cases (show x ∈ ([] : List Str) from hx))
        refine Cp.map (encI false) _ (ledT run) fun p hp => ⟨_, Asg.tuple (.cons (Asg.name (.inl rfl)) (fun _ => rfl) (.cons (Asg.name (.inl rfl)) (fun _ => rfl) .nil)), ?_, AEnv.Sub.nil⟩
        have hp4 := O.four p hp
        obtain ⟨x, e1, ec⟩ := p
        obtain ⟨c1, c2, c3, c4, rfl⟩ := len_four (show e1.length = 4 from hp4)
        refine Ev.sumValues (kds := encC false ec) (W.fn "sum").1 (W.fn "sum").2 (Ev.tupItem (ds := [.int c1, .int c2, .int c3, .int c4, .dict (encC false ec)]) (Ev.name rfl) Ev.int (by decide) rfl) ?_ (by rfl) (by intro _; rfl) (by rfl)
        simp [encTb, Function.comp_def, encV]
      · rw [O.cnt rfl]; exact DEqs.ints _ _
end Mine
end

section
set_option linter.unusedVariables false
set_option maxRecDepth 100000
set_option maxHeartbeats 4000000
namespace Mine
open StrLaws Builtin.Str

/-! ## one sign sought in a text -/
noncomputable abbrev sgn (c : Nat) : Str := ⟨#[c]⟩
theorem at_one {x : Str} {c hi i : Nat} (hh : hi ≤ x.length) : At x (sgn c) hi i ↔ i < hi ∧ x.cps.toList[i]? = some c := by
  have h := subAt_one x c i
  have hl : (sgn c).length = 1 := rfl
  have hl' : (⟨#[c]⟩ : Str).length = 1 := rfl
  unfold At
  constructor
  · rintro ⟨h1, h2⟩
    exact ⟨by omega, h.mp ⟨by omega, h2⟩⟩
  · rintro ⟨h1, h2⟩
    exact ⟨by omega, (h.mpr h2).2⟩
theorem first_one {x : Str} {c hi : Nat} (hh : hi ≤ x.length) :
    (occurrences x (sgn c) 0 hi 1 = [] ∧ ∀ k, k < hi → x.cps.toList[k]? ≠ some c) ∨ ∃ i r, occurrences x (sgn c) 0 hi 1 = i :: r ∧ i < hi ∧ x.cps.toList[i]? = some c ∧ ∀ k, k < i → x.cps.toList[k]? ≠ some c := by
  rw [occ_eq]
  rcases occ_first x (sgn c) hi 1 (Nat.le_refl 1) (List.range' 0 (hi + 1 - 0)) 0 (fun _ _ => Nat.zero_le _) with ⟨h0, hn⟩ | ⟨pre, a, post, e, h0, ha, hn⟩
  · refine .inl ⟨by rw [h0], fun k hk e => hn k ?_ ((at_one hh).mpr ⟨hk, e⟩)⟩
    rw [List.mem_range'_1]; omega
  · obtain ⟨ha1, ha2⟩ := (at_one hh).mp ha
    refine .inr ⟨a, ((forIn (List.range' 0 (hi + 1 - 0)) ((#[] : Array Nat), 0) (occBody x (sgn c) hi 1)).run.fst.toList).tail, ?_, ha1, ha2, fun k hk e' => hn k (range'_split e k hk) ((at_one hh).mpr ⟨by omega, e'⟩)⟩
    generalize (forIn (List.range' 0 (hi + 1 - 0)) ((#[] : Array Nat), 0) (occBody x (sgn c) hi 1)).run.fst = arr at h0
    have h1 : arr.toList[0]? = some a := by simpa using h0
    cases hL : arr.toList with
    | nil => rw [hL] at h1; cases h1
    | cons b r => rw [hL] at h1; cases h1; rfl
theorem last_one {x : Str} {c hi : Nat} (hh : hi ≤ x.length) :
    (lastOccurrence x (sgn c) 0 hi = none ∧ ∀ k, k < hi → x.cps.toList[k]? ≠ some c) ∨ ∃ i, lastOccurrence x (sgn c) 0 hi = some i ∧ i < hi ∧ x.cps.toList[i]? = some c ∧ ∀ k, i < k → k < hi → x.cps.toList[k]? ≠ some c := by
  rw [last_eq]
  have key := last_run x (sgn c) hi (List.range' 0 (hi + 1 - 0)) [] none (fun _ h => nomatch h) (fun _ h => nomatch h) List.pairwise_lt_range'
  have mem : ∀ k, k < hi → k ∈ [] ++ List.range' 0 (hi + 1 - 0) := fun k hk => by rw [List.nil_append, List.mem_range'_1]; omega
  cases hr : (forIn (List.range' 0 (hi + 1 - 0)) none (lastBody x (sgn c) hi)).run with
  | none => rw [hr] at key; exact .inl ⟨rfl, fun k hk e => key k (mem k hk) ((at_one hh).mpr ⟨hk, e⟩)⟩
  | some a =>
    rw [hr] at key
    obtain ⟨ha1, ha2⟩ := (at_one hh).mp key.1
    exact .inr ⟨a, rfl, ha1, ha2, fun k hk hk' e => key.2 k (mem k hk') hk ((at_one hh).mpr ⟨hk', e⟩)⟩

theorem fromIndex_nat {len n : Nat} : fromIndex len (n : Int) = n := by unfold fromIndex; rw [if_neg (by omega)]; omega
theorem fromIndex_zero {len : Nat} : fromIndex len 0 = 0 := fromIndex_nat (n := 0)
theorem s_nl : Str.ofString "\n" = sgn 10 := by decide +kernel
theorem s_co : Str.ofString ":" = sgn 58 := by decide +kernel
theorem s_dot : Str.ofString "." = sgn 46 := by decide +kernel

theorem endN_spec (x : Str) : ∃ n : Nat, endN x = (n : Int) ∧ n ≤ x.length ∧ (∀ k, k < n → x.cps.toList[k]? ≠ some 10) ∧ (n = x.length ∨ x.cps.toList[n]? = some 10) := by
  unfold endN Txt.find
  rw [s_nl]
  rcases first_one (x := x) (c := 10) (Nat.le_refl x.length) with ⟨h0, hn⟩ | ⟨i, r, h0, h1, h2, h3⟩
  · rw [h0]; exact ⟨x.length, by simp, Nat.le_refl _, hn, .inl rfl⟩
  · rw [h0]; exact ⟨i, by simp, by omega, h3, .inr h2⟩
theorem endC_spec (x : Str) : ∃ m : Nat, endC x = (m : Int) ∧ m ≤ x.length ∧ (∀ k, k < m → x.cps.toList[k]? ≠ some 10 ∧ x.cps.toList[k]? ≠ some 58) ∧ (m = x.length ∨ x.cps.toList[m]? = some 10 ∨ x.cps.toList[m]? = some 58) := by
  obtain ⟨n, e, hn, h1, h2⟩ := endN_spec x
  unfold endC find3
  rw [e, s_co, fromIndex_zero, fromIndex_nat, Nat.min_eq_left hn]
  rcases first_one (x := x) (c := 58) hn with ⟨h0, h3⟩ | ⟨i, r, h0, h3, h4, h5⟩
  · rw [h0]
    exact ⟨n, by simp, hn, fun k hk => ⟨h1 k hk, h3 k hk⟩, h2.elim .inl fun h => .inr (.inl h)⟩
  · rw [h0]; exact ⟨i, by simp, by omega, fun k hk => ⟨h1 k (by omega), h5 k hk⟩, .inr (.inr h4)⟩
theorem stS_spec (x : Str) {m : Nat} (e : endC x = (m : Int)) (hm : m ≤ x.length) : ∃ s : Nat, stS x = (s : Int) ∧ s ≤ m ∧ (∀ k, s ≤ k → k < m → x.cps.toList[k]? ≠ some 46) ∧ (s = 0 ∨ ∃ s', s = s' + 1 ∧ x.cps.toList[s']? = some 46) := by
  unfold stS rfind3
  rw [e, s_dot, fromIndex_zero, fromIndex_nat, Nat.min_eq_left hm]
  rcases last_one (x := x) (c := 46) hm with ⟨h0, h3⟩ | ⟨i, h0, h3, h4, h5⟩
  · rw [h0]; exact ⟨0, by simp, by omega, fun k _ hk => h3 k hk, .inl rfl⟩
  · rw [h0]
    refine ⟨i + 1, ?_, by omega, fun k hk hk' => h5 k (by omega) hk', .inr ⟨i, rfl, h4⟩⟩
    show (if (0 : Int) ≤ (i : Int) then (i : Int) + 1 else 0) = _
    rw [if_pos (by omega)]; omega

/-! ## the scan -/
noncomputable def runW (w : List Nat) (l : List Nat) : List Nat := l.foldl (fun w ch => if ch = 46 then [] else w ++ [ch]) w
theorem scan_pre : ∀ (a r w : List Nat), (∀ c ∈ a, ¬ (c = 58 ∨ c = 10)) → (r = [] ∨ ∃ c r', r = c :: r' ∧ (c = 58 ∨ c = 10)) → (scanB w (a ++ r)).2 = runW w a
  | [], r, w, _, hr => by
    rcases hr with rfl | ⟨c, r', rfl, hc⟩
    · rfl
    · rw [List.nil_append, scanB, if_pos hc]; rfl
  | c :: a, r, w, ha, hr => by
    rw [List.cons_append, scanB, if_neg (ha c List.mem_cons_self), scan_pre a r _ (fun d hd => ha d (List.mem_cons_of_mem _ hd)) hr]
    rfl
theorem runW_clean : ∀ (b w : List Nat), (∀ c ∈ b, c ≠ 46) → runW w b = w ++ b
  | [], w, _ => by simp [runW]
  | c :: b, w, h => by
    show runW (if c = 46 then [] else w ++ [c]) b = _
    rw [if_neg (h c List.mem_cons_self), runW_clean b _ fun d hd => h d (List.mem_cons_of_mem _ hd)]
    simp
theorem runW_append (w a b : List Nat) : runW w (a ++ b) = runW (runW w a) b := List.foldl_append
theorem mem_seg {l : List Nat} {s m c : Nat} (h : c ∈ (l.drop s).take (m - s)) : ∃ k, s ≤ k ∧ k < m ∧ l[k]? = some c := by
  obtain ⟨i, hi⟩ := List.mem_iff_getElem?.mp h
  rw [List.getElem?_take] at hi
  split at hi
  · rw [List.getElem?_drop] at hi; exact ⟨s + i, by omega, by omega, hi⟩
  · cases hi

theorem strip_bare (x : Str) : stripF x = bareF x := by
  obtain ⟨m, em, hm, h1, h2⟩ := endC_spec x
  obtain ⟨s, es, hs, h3, h4⟩ := stS_spec x em hm
  have hlen : x.cps.toList.length = x.length := by simp [Str.length]
  unfold stripF bareF
  rw [em, es]
  have e1 : Txt.slice x (some (s : Int)) (some (m : Int)) = ⟨((x.cps.toList.drop s).take (m - s)).toArray⟩ := sliceText_nat x hs hm
  rw [e1]
  congr 2
  generalize x.cps.toList = l at *
  have e2 : l = l.take m ++ l.drop m := (List.take_append_drop m l).symm
  have e3 : (scanB [] l).2 = runW [] (l.take m) := by
    conv => lhs; rw [e2]
    refine scan_pre _ _ _ (fun c hc => ?_) ?_
    · have hc' : c ∈ (l.drop 0).take (m - 0) := by simpa using hc
      obtain ⟨k, _, hk, e⟩ := mem_seg hc'
      rintro (rfl | rfl)
      · exact (h1 k hk).2 e
      · exact (h1 k hk).1 e
    · rcases h2 with h2 | h2
      · exact .inl (List.drop_eq_nil_of_le (by omega))
      · have hc : ∃ c, l[m]? = some c ∧ (c = 58 ∨ c = 10) := h2.elim (fun e => ⟨10, e, .inr rfl⟩) fun e => ⟨58, e, .inl rfl⟩
        obtain ⟨c, e, hc⟩ := hc
        obtain ⟨hlt, e'⟩ := List.getElem?_eq_some_iff.mp e
        refine .inr ⟨c, l.drop (m + 1), ?_, hc⟩
        rw [List.drop_eq_getElem_cons hlt, e']
  rw [e3]
  have e4 : l.take m = l.take s ++ (l.drop s).take (m - s) := by
    rw [← List.take_append_drop s (l.take m), List.take_take, Nat.min_eq_left hs, List.drop_take]
  rw [e4, runW_append, runW_clean _ _ (fun c hc => ?_)]
  · have e5 : runW [] (l.take s) = [] := by
      rcases h4 with rfl | ⟨s', rfl, e⟩
      · rfl
      · obtain ⟨hlt, e'⟩ := List.getElem?_eq_some_iff.mp e
        rw [List.take_succ_eq_append_getElem hlt, e', runW_append]
        rfl
    rw [e5, List.nil_append]
  · obtain ⟨k, hk, hk', e⟩ := mem_seg hc
    rintro rfl
    exact h3 k hk hk' e

theorem scan_clean : ∀ (l w : List Nat), (∀ c ∈ w, c ≠ 58 ∧ c ≠ 10 ∧ c ≠ 46) → ∀ c ∈ (scanB w l).2, c ≠ 58 ∧ c ≠ 10 ∧ c ≠ 46
  | [], w, h => h
  | d :: l, w, h => by
    rw [scanB]
    split
    · exact h
    · rename_i hd
      refine scan_clean l _ ?_
      split
      · intro c hc; cases hc
      · rename_i hd'
        intro c hc
        rcases List.mem_append.mp hc with hc | hc
        · exact h c hc
        · simp at hc; subst hc; exact ⟨fun q => hd (.inl q), fun q => hd (.inr q), hd'⟩
theorem bare_bare (x : Str) : bareF (bareF x) = bareF x := by
  have hc := scan_clean x.cps.toList [] (fun c hc => by cases hc)
  unfold bareF
  generalize (scanB [] x.cps.toList).2 = b at hc ⊢
  have h1 := scan_pre b [] [] (fun c h q => q.elim (hc c h).1 (hc c h).2.1) (.inl rfl)
  rw [List.append_nil, runW_clean b [] (fun c h => (hc c h).2.2)] at h1
  show Str.mk _ = _
  rw [show (⟨b.toArray⟩ : Str).cps.toList = b by simp, h1]
  rfl

/-! ## what func_std_string writes of a function of the law's own making -/
theorem str_list (x : Str) : x = ⟨x.cps.toList.toArray⟩ := by cases x; simp
theorem app_list (x y : Str) : (x ++ y).cps.toList = x.cps.toList ++ y.cps.toList := by
  show (x.cps ++ y.cps).toList = _; simp
theorem pathN_head (d : Int) : ∀ n, ∃ r, (pathN d (n + 1)).cps.toList = (if ((d.fdiv 12).fdiv (2 ^ 0)).fmod 2 = 0 then 120 else 121) :: r
  | 0 => ⟨[], by
    show (Str.ofString "" ++ (Str.ofString "" ++ letD d 0)).cps.toList = _
    have e : Str.ofString "" = ⟨#[]⟩ := by decide +kernel
    rw [e, app_list, app_list]; rfl⟩
  | n + 1 => by
    obtain ⟨r, hr⟩ := pathN_head d n
    refine ⟨r ++ ((["", markD d, "."] : List Str).getD (n + 1) "" ++ letD d (n + 1)).cps.toList, ?_⟩
    show (pathN d (n + 1) ++ _).cps.toList = _
    rw [app_list, hr]; rfl
theorem pathD_head (d : Int) : ∃ c r, (pathD d).cps.toList = c :: r ∧ (c = 120 ∨ c = 121) := by
  have h := fmod_range (a := d.fdiv 4) (b := 3) (by decide)
  unfold pathD
  obtain ⟨n, hn⟩ : ∃ n, ((d.fdiv 4).fmod 3 + 1).toNat = n + 1 := ⟨((d.fdiv 4).fmod 3).toNat, by omega⟩
  rw [hn]
  obtain ⟨r, hr⟩ := pathN_head d n
  exact ⟨_, r, hr, by split <;> simp⟩
theorem s_lt : Str.ofString "<" = sgn 60 := by decide +kernel
theorem s_gt : Str.ofString ">" = sgn 62 := by decide +kernel
theorem s_ti : Str.ofString "~" = sgn 126 := by decide +kernel
theorem subAt_iff (x : Str) (c i : Nat) (h : i + 1 ≤ x.length) : subAt x (sgn c) i = true ↔ x.cps.toList[i]? = some c :=
  ⟨fun q => (subAt_one x c i).mp ⟨h, q⟩, fun q => ((subAt_one x c i).mpr q).2⟩
theorem slice_in (x : Str) (h : 2 ≤ x.length) : Txt.slice x (some 1) (some (-1)) = ⟨((x.cps.toList.drop 1).take (x.length - 2)).toArray⟩ := by
  have e : strSliceIndices (some 1) (some (-1)) 1 x.length = strSliceIndices (some 1) (some ((x.length - 1 : Nat) : Int)) 1 x.length := by
    have h1 : ¬ ((x.length : Int) - 1 < 0) := by omega
    have e1 : ((x.length - 1 : Nat) : Int) = (x.length : Int) - 1 := by omega
    have e2 : (-1 : Int) + x.length = (x.length : Int) - 1 := by omega
    simp [strSliceIndices, e1, h1, e2]
  have e' : Txt.slice x (some 1) (some (-1)) = sliceText x (some ((1 : Nat) : Int)) (some ((x.length - 1 : Nat) : Int)) := by
    unfold Txt.slice sliceText
    rw [e]; rfl
  rw [e', sliceText_nat x (by omega) (by omega)]
  rfl

theorem std_eq (d : Int) : stdO (fnD d) = (fnD d).t := by
  obtain ⟨c, r, hp, hc⟩ := pathD_head d
  have hlen : (pathD d).length = r.length + 1 := by
    have : (pathD d).cps.toList.length = (pathD d).length := by simp [Str.length]
    rw [← this, hp]; rfl
  unfold stdO fnD
  split
  · show stdF (Str.ofString "~") 0 (Str.ofString "<" ++ pathD d ++ Str.ofString ">") = Str.ofString "{" ++ pathD d ++ Str.ofString "}"
    have hl : (Str.ofString "<" ++ pathD d ++ Str.ofString ">").cps.toList = 60 :: ((pathD d).cps.toList ++ [62]) := by rw [app_list, app_list, s_lt, s_gt]; rfl
    have hll : (Str.ofString "<" ++ pathD d ++ Str.ofString ">").length = r.length + 3 := by
      rw [Str.length_append, Str.length_append, hlen, s_lt, s_gt]; show 1 + (r.length + 1) + 1 = _; omega
    have h1 : Txt.startswith (Str.ofString "<" ++ pathD d ++ Str.ofString ">") (Str.ofString "<") = true := by
      unfold Txt.startswith
      rw [hll, s_lt]
      simp only [Bool.and_eq_true, decide_eq_true_eq]
      refine ⟨by show 0 + 1 ≤ _; omega, (subAt_iff _ _ _ (by rw [← s_lt, hll]; omega)).mpr ?_⟩
      rw [← s_lt, hl]; rfl
    have h2 : Txt.endswith (Str.ofString "<" ++ pathD d ++ Str.ofString ">") (Str.ofString ">") = true := by
      unfold Txt.endswith
      rw [hll, s_gt]
      simp only [Bool.and_eq_true, decide_eq_true_eq]
      refine ⟨by show 0 + 1 ≤ _; omega, (subAt_iff _ _ _ (by rw [← s_gt, hll]; show r.length + 3 - 1 + 1 ≤ _; omega)).mpr ?_⟩
      rw [← s_gt, hl, hp, show r.length + 3 - (Str.ofString ">").length = r.length + 2 by rw [s_gt]; rfl]
      simp
    unfold stdF
    rw [if_pos (by simp), if_pos (by rw [h1, h2]; rfl), slice_in _ (by omega), hl, hll]
    congr 2
    have e : (List.drop 1 (60 :: ((pathD d).cps.toList ++ [62]))).take (r.length + 3 - 2) = (pathD d).cps.toList := by
      rw [List.drop_succ_cons, List.drop_zero, show r.length + 3 - 2 = (pathD d).cps.toList.length by rw [hp]; simp, List.take_left]
    rw [e, ← str_list]
  · split
    · show stdF (Str.ofString "~") 0 (pathD d) = pathD d
      have h1 : Txt.startswith (pathD d) (Str.ofString "<") = false := by
        unfold Txt.startswith
        rw [s_lt, Bool.and_eq_false_iff]
        refine .inr (Bool.eq_false_iff.mpr fun q => ?_)
        have := (subAt_iff _ _ _ (by omega)).mp q
        rw [hp] at this
        simp at this
        omega
      unfold stdF
      rw [if_pos (by simp), if_neg (by rw [h1]; simp)]
    · show stdF (pathD d) (lineD d) (nameD d) = _
      have h1 : (pathD d == Str.ofString "~") = false := by
        refine beq_eq_false_iff_ne.mpr fun q => ?_
        rw [q, s_ti] at hp
        have : [126] = c :: r := hp
        cases this
        omega
      unfold stdF
      rw [if_neg (by rw [h1]; simp)]
end Mine
end

section
set_option linter.unusedVariables false
set_option maxRecDepth 100000
set_option maxHeartbeats 4000000
namespace Mine

/-! ## sums that may be empty -/
noncomputable abbrev Os := Option (List Int)
noncomputable def oadd : Os → Os → Os
  | none, y => y
  | some a, none => some a
  | some a, some b => some (zadd a b)
theorem oadd_none (x : Os) : oadd x none = x := by cases x <;> rfl
theorem none_oadd (x : Os) : oadd none x = x := rfl
theorem oadd_comm (x y : Os) : oadd x y = oadd y x := by
  cases x <;> cases y <;> simp only [oadd]
  rw [zadd_comm]
theorem oadd_assoc (x y z : Os) : oadd (oadd x y) z = oadd x (oadd y z) := by
  cases x <;> cases y <;> cases z <;> simp only [oadd]
  rw [zadd_assoc]
theorem oadd_swap (x y z : Os) : oadd (oadd x y) z = oadd (oadd x z) y := by
  rw [oadd_assoc, oadd_comm y z, ← oadd_assoc]
noncomputable def osum (l : List Os) : Os := l.foldr oadd none
theorem osum_cons (x : Os) (l : List Os) : osum (x :: l) = oadd x (osum l) := rfl
theorem osum_append : ∀ (a b : List Os), osum (a ++ b) = oadd (osum a) (osum b)
  | [], b => rfl
  | x :: a, b => by rw [List.cons_append, osum_cons, osum_append a b, osum_cons, oadd_assoc]

/-- a sum over a table -/
noncomputable def lin {M : Type} (φ : Str → M → Os) (t : List (Str × M)) : Os := osum (t.map fun p => φ p.1 p.2)
section
variable {M : Type} {φ : Str → M → Os}
theorem lin_nil : lin φ [] = none := rfl
theorem lin_cons (p : Str × M) (t : List (Str × M)) : lin φ (p :: t) = oadd (φ p.1 p.2) (lin φ t) := rfl
theorem lin_append (a b : List (Str × M)) : lin φ (a ++ b) = oadd (lin φ a) (lin φ b) := by
  unfold lin; rw [List.map_append, osum_append]
theorem lin_congr {ψ : Str → M → Os} {t : List (Str × M)} (h : ∀ p ∈ t, φ p.1 p.2 = ψ p.1 p.2) : lin φ t = lin ψ t := by
  unfold lin; congr 1; exact List.map_congr_left h

theorem lin_hit {op : M → M → M} {Good : M → Prop} (hφ : ∀ k a b, Good a → φ k (op a b) = oadd (φ k a) (φ k b)) {k : Str} {v : M} : ∀ {t : List (Str × M)}, (keys t).Nodup → (∀ p ∈ t, Good p.2) → k ∈ keys t →
    lin φ (t.map fun p => if p.1 = k then (p.1, op p.2 v) else p) = oadd (lin φ t) (φ k v)
  | [], _, _, h => by cases h
  | p :: t, hn, hg, hk => by
    simp only [keys, List.map_cons, List.nodup_cons] at hn
    rw [List.map_cons, lin_cons, lin_cons]
    by_cases e : p.1 = k
    · have e1 : t.map (fun q => if q.1 = k then (q.1, op q.2 v) else q) = t := by
        conv => rhs; rw [← List.map_id t]
        apply List.map_congr_left
        intro q hq
        have : q.1 ≠ k := fun hqk => hn.1 (by rw [e, ← hqk]; exact List.mem_map.mpr ⟨q, hq, rfl⟩)
        simp [this]
      rw [e1, if_pos e]
      show oadd (φ p.1 (op p.2 v)) _ = _
      rw [hφ _ _ _ (hg p List.mem_cons_self), e, oadd_swap]
    · have hk' : k ∈ keys t := by
        rcases List.mem_cons.mp hk with q | q
        · exact absurd q.symm e
        · exact q
      rw [if_neg e, lin_hit hφ hn.2 (fun q hq => hg q (List.mem_cons_of_mem _ hq)) hk', oadd_assoc]
theorem lin_ups {op : M → M → M} {Good : M → Prop} (hφ : ∀ k a b, Good a → φ k (op a b) = oadd (φ k a) (φ k b)) {k : Str} {v : M} {t : List (Str × M)} (hn : (keys t).Nodup) (hg : ∀ p ∈ t, Good p.2) : lin φ (ups op t k v) = oadd (lin φ t) (φ k v) := by
  unfold ups
  split
  · rename_i h
    exact lin_hit hφ hn hg (any_iff.mp h)
  · rw [lin_append, lin_cons, lin_nil, oadd_none]
/-- one key alone -/
theorem lin_at {f : M → Os} {k : Str} : ∀ {t : List (Str × M)}, k ∉ keys t → lin (fun x m => if (x == k) = true then f m else none) t = none
  | [], _ => rfl
  | p :: t, h => by
    have h1 : (p.1 == k) = false := beq_eq_false_iff_ne.mpr fun q => h (by rw [← q]; simp)
    rw [lin_cons, h1, lin_at (t := t) (fun q => h (List.mem_cons_of_mem _ q))]
    rfl
theorem lin_get {f : M → Os} {k : Str} {m : M} : ∀ {t : List (Str × M)}, (keys t).Nodup → (k, m) ∈ t → lin (fun x m => if (x == k) = true then f m else none) t = f m
  | [], _, h => by cases h
  | p :: t, hn, h => by
    simp only [keys, List.map_cons, List.nodup_cons] at hn
    rw [lin_cons]
    rcases List.mem_cons.mp h with e | h
    · subst e
      rw [lin_at hn.1, if_pos (by simp), oadd_none]
    · have h1 : (p.1 == k) = false := beq_eq_false_iff_ne.mpr fun q => hn.1 (by rw [q]; exact List.mem_map.mpr ⟨(k, m), h, rfl⟩)
      rw [h1, lin_get hn.2 h]
      rfl
end

/-! ## tables of calls -/
noncomputable def fQ (Q : Str → Bool) (k : Str) (v : List Int) : Os := if Q k = true then some v else none
noncomputable abbrev psum (Q : Str → Bool) (c : Calls) : Os := lin (fQ Q) c
theorem fQ_add (Q : Str → Bool) (k : Str) (a b : List Int) : fQ Q k (zadd a b) = oadd (fQ Q k a) (fQ Q k b) := by unfold fQ; split <;> rfl
theorem psum_ups (Q : Str → Bool) {t : Calls} {k : Str} {v : List Int} (hn : (keys t).Nodup) : psum Q (ups zadd t k v) = oadd (psum Q t) (fQ Q k v) :=
  lin_ups (Good := fun _ => True) (fun k a b _ => fQ_add Q k a b) hn fun _ _ => trivial
theorem psum_addC (Q : Str → Bool) : ∀ {s t : Calls}, (keys t).Nodup → psum Q (addC t s) = oadd (psum Q t) (psum Q s)
  | [], t, _ => (oadd_none _).symm
  | p :: s, t, h => by
    show psum Q (addC (ups zadd t p.1 p.2) s) = _
    rw [psum_addC Q (nodup_ups h), psum_ups Q h, oadd_assoc]; rfl
theorem psum_gatC_go (Q : Str → Bool) (β : Str → Str) : ∀ (c acc : Calls), (keys acc).Nodup → psum Q (c.foldl (fun acc p => addC acc [(β p.1, p.2)]) acc) = oadd (psum Q acc) (psum (fun x => Q (β x)) c)
  | [], acc, _ => (oadd_none _).symm
  | p :: c, acc, h => by
    rw [List.foldl_cons, psum_gatC_go Q β c _ (addC_nodup _ h), psum_addC Q h, oadd_assoc]
    have e : psum Q [(β p.1, p.2)] = fQ (fun x => Q (β x)) p.1 p.2 := oadd_none _
    rw [e]; rfl
theorem psum_gatC (Q : Str → Bool) (β : Str → Str) (c : Calls) : psum Q (gatC β c) = psum (fun x => Q (β x)) c := by
  unfold gatC; rw [psum_gatC_go Q β c [] .nil]; rfl
theorem psum_map (Q : Str → Bool) (β : Str → Str) (c : Calls) : psum Q (c.map fun p => (β p.1, p.2)) = psum (fun x => Q (β x)) c := by
  unfold psum lin; rw [List.map_map]; rfl
theorem psum_get {c : Calls} (hn : (keys c).Nodup) (k : Str) : psum (fun x => x == k) c = get c k := by
  cases h : get c k with
  | none => exact lin_at (f := some) (get_none.mp h)
  | some v => exact lin_get (f := some) hn (get_mem h)

/-! ## tables of entries -/
noncomputable def AddF (φ : Str → Ent → Os) : Prop := ∀ k a b, (keys a.2).Nodup → φ k (addE a b) = oadd (φ k a) (φ k b)
noncomputable def f4 (P : Str → Bool) (k : Str) (e : Ent) : Os := if P k = true then some e.1 else none
noncomputable def fC (P Q : Str → Bool) (k : Str) (e : Ent) : Os := if P k = true then psum Q e.2 else none
theorem f4_add (P : Str → Bool) : AddF (f4 P) := fun k a b _ => by unfold f4; split <;> rfl
theorem fC_add (P Q : Str → Bool) : AddF (fC P Q) := fun k a b h => by
  unfold fC; split
  · exact psum_addC Q h
  · rfl
theorem OkT.nil {b : Bool} : OkT b [] := ⟨.nil, fun _ h => (nomatch h)⟩
section
variable {φ : Str → Ent → Os} {b : Bool}
theorem lin_put (A : AddF φ) {t : Tbl} {k : Str} {e : Ent} (h : OkT b t) : lin φ (putE t k e) = oadd (lin φ t) (φ k e) :=
  lin_ups (op := addE) (Good := fun a : Ent => (keys a.2).Nodup) A h.nd fun p hp => (h.ok p hp).nd
theorem lin_putAll (A : AddF φ) : ∀ {t acc : Tbl}, OkT b acc → (∀ p ∈ t, OkE b p.2) → lin φ (putAll acc t) = oadd (lin φ acc) (lin φ t)
  | [], acc, _, _ => (oadd_none _).symm
  | p :: t, acc, h, ht => by
    show lin φ (putAll (putE acc p.1 p.2) t) = _
    rw [lin_putAll A (h.put (ht p List.mem_cons_self)) (fun q hq => ht q (List.mem_cons_of_mem _ hq)), lin_put A h, lin_cons, oadd_assoc]
theorem lin_join_go (A : AddF φ) : ∀ {ts : List Tbl} {acc : Tbl}, OkT b acc → (∀ t ∈ ts, OkT b t) → lin φ (ts.foldl putAll acc) = oadd (lin φ acc) (osum (ts.map (lin φ)))
  | [], acc, _, _ => (oadd_none _).symm
  | t :: ts, acc, h, hs => by
    have ht := hs t List.mem_cons_self
    rw [List.foldl_cons, lin_join_go A (putAll_ok h ht.ok) (fun u hu => hs u (List.mem_cons_of_mem _ hu)), lin_putAll A h ht.ok, List.map_cons, osum_cons, oadd_assoc]
theorem lin_join (A : AddF φ) {ts : List Tbl} (h : ∀ t ∈ ts, OkT b t) : lin φ (joinT ts) = osum (ts.map (lin φ)) := by
  unfold joinT; rw [lin_join_go A (OkT.nil (b := b)) h]; rfl
theorem lin_gat_go (A : AddF φ) (β : Str → Str) : ∀ {t acc : Tbl}, OkT b acc → (∀ p ∈ t, OkE b p.2) → lin φ (t.foldl (fun acc p => putE acc (β p.1) (p.2.1, gatC β p.2.2)) acc) = oadd (lin φ acc) (lin (fun k e => φ (β k) (e.1, gatC β e.2)) t)
  | [], acc, _, _ => (oadd_none _).symm
  | p :: t, acc, h, ht => by
    rw [List.foldl_cons, lin_gat_go A β (h.put (gatE_ok (ht p List.mem_cons_self))) (fun q hq => ht q (List.mem_cons_of_mem _ hq)), lin_put A h, lin_cons, oadd_assoc]
theorem lin_gat (A : AddF φ) (β : Str → Str) {t : Tbl} (h : ∀ p ∈ t, OkE b p.2) : lin φ (gatT β t) = lin (fun k e => φ (β k) (e.1, gatC β e.2)) t := by
  unfold gatT; rw [lin_gat_go A β (OkT.nil (b := b)) h]; rfl
end
theorem f4_gat (P : Str → Bool) (β : Str → Str) {b : Bool} {t : Tbl} (h : ∀ p ∈ t, OkE b p.2) : lin (f4 P) (gatT β t) = lin (f4 fun x => P (β x)) t := lin_gat (f4_add P) β h
theorem fC_gat (P Q : Str → Bool) (β : Str → Str) {b : Bool} {t : Tbl} (h : ∀ p ∈ t, OkE b p.2) : lin (fC P Q) (gatT β t) = lin (fC (fun x => P (β x)) fun x => Q (β x)) t := by
  rw [lin_gat (fC_add P Q) β h]
  refine lin_congr fun p hp => ?_
  unfold fC; rw [psum_gatC]

/-! ## the order in which names came first -/
noncomputable def stepF (acc : List Str) (x : Str) : List Str := if x ∈ acc then acc else acc ++ [x]
noncomputable def addF (acc l : List Str) : List Str := l.foldl stepF acc
theorem addF_append (acc a b : List Str) : addF acc (a ++ b) = addF (addF acc a) b := List.foldl_append
theorem mem_stepF {acc : List Str} {x y : Str} : y ∈ stepF acc x ↔ y ∈ acc ∨ y = x := by
  unfold stepF; split
  · exact ⟨.inl, fun h => h.elim id fun e => by subst e; assumption⟩
  · simp
theorem mem_addF {y : Str} : ∀ {l acc : List Str}, y ∈ addF acc l ↔ y ∈ acc ∨ y ∈ l
  | [], acc => by simp [addF]
  | x :: l, acc => by
    show y ∈ addF (stepF acc x) l ↔ _
    rw [mem_addF, mem_stepF, List.mem_cons, or_assoc]
theorem nodup_stepF {acc : List Str} {x : Str} (h : acc.Nodup) : (stepF acc x).Nodup := by
  unfold stepF; split
  · exact h
  · rename_i hx
    rw [List.nodup_append]
    exact ⟨h, by simp, fun a ha b hb => by simp at hb; subst hb; exact fun q => hx (q ▸ ha)⟩
theorem nodup_addF : ∀ {l acc : List Str}, acc.Nodup → (addF acc l).Nodup
  | [], _, h => h
  | x :: l, acc, h => nodup_addF (l := l) (nodup_stepF h)
theorem len_addF : ∀ {l acc : List Str}, (addF acc l).length ≤ acc.length + l.length
  | [], _ => Nat.le_refl _
  | x :: l, acc => by
    show (addF (stepF acc x) l).length ≤ _
    have h1 := len_addF (l := l) (acc := stepF acc x)
    have h2 : (stepF acc x).length ≤ acc.length + 1 := by unfold stepF; split <;> simp
    rw [List.length_cons]; omega
theorem addF_map (β : Str → Str) (acc : List Str) (l : List Str) : addF acc ((addF [] l).map β) = addF acc (l.map β) := by
  have : ∀ n (l : List Str), l.length = n → addF acc ((addF [] l).map β) = addF acc (l.map β) := by
    intro n
    induction n with
    | zero => intro l h; rw [List.eq_nil_of_length_eq_zero h]; rfl
    | succ n ih =>
      intro l h
      obtain ⟨a, x, rfl⟩ : ∃ a x, l = a ++ [x] := by
        have hne : l ≠ [] := by intro e; rw [e] at h; cases h
        exact ⟨l.dropLast, l.getLast hne, (List.dropLast_concat_getLast hne).symm⟩
      have ha := ih a (by simp at h; exact h)
      have e1 : addF [] (a ++ [x]) = stepF (addF [] a) x := addF_append ..
      have e2 : addF acc ((a ++ [x]).map β) = stepF (addF acc (a.map β)) (β x) := by rw [List.map_append, addF_append]; rfl
      rw [e1, e2]
      by_cases hx : x ∈ addF [] a
      · have hx' : β x ∈ addF acc (a.map β) := mem_addF.mpr (.inr (List.mem_map.mpr ⟨x, by simpa [mem_addF] using hx, rfl⟩))
        have e3 : stepF (addF [] a) x = addF [] a := if_pos hx
        have e4 : stepF (addF acc (a.map β)) (β x) = addF acc (a.map β) := if_pos hx'
        rw [e3, e4, ha]
      · have e3 : stepF (addF [] a) x = addF [] a ++ [x] := if_neg hx
        rw [e3, List.map_append, addF_append, ha]; rfl
  exact this l.length l rfl
theorem addF_idem (acc l : List Str) : addF acc (addF [] l) = addF acc l := by simpa using addF_map id acc l

theorem keys_putAll : ∀ (t acc : Tbl), keys (putAll acc t) = addF (keys acc) (keys t)
  | [], acc => rfl
  | p :: t, acc => by
    show keys (putAll (putE acc p.1 p.2) t) = addF (stepF (keys acc) p.1) (keys t)
    rw [keys_putAll t, putE, keys_ups]; rfl
theorem keys_join_go : ∀ (ts : List Tbl) (acc : Tbl), keys (ts.foldl putAll acc) = addF (keys acc) (ts.flatMap keys)
  | [], acc => rfl
  | t :: ts, acc => by rw [List.foldl_cons, keys_join_go ts, keys_putAll, List.flatMap_cons, addF_append]
theorem keys_join (ts : List Tbl) : keys (joinT ts) = addF [] (ts.flatMap keys) := keys_join_go ts []
theorem keys_gat_go (β : Str → Str) : ∀ (t acc : Tbl), keys (t.foldl (fun acc p => putE acc (β p.1) (p.2.1, gatC β p.2.2)) acc) = addF (keys acc) ((keys t).map β)
  | [], acc => rfl
  | p :: t, acc => by
    rw [List.foldl_cons, keys_gat_go β t, putE, keys_ups]; rfl
theorem keys_gat (β : Str → Str) (t : Tbl) : keys (gatT β t) = addF [] ((keys t).map β) := keys_gat_go β t []
end Mine
end

section
set_option linter.unusedVariables false
set_option maxRecDepth 100000
set_option maxHeartbeats 4000000
namespace Mine

/-! ## what a run is worth -/
noncomputable def rawC (r : Row) : Calls := r.c.map fun p => (bareF p.1.t, p.2)
noncomputable def rv (φ : Str → Ent → Os) (r : Row) : Os := φ (bareR r) (r.s, rawC r)
noncomputable def rvs (φ : Str → Ent → Os) (run : List Row) : Os := osum (run.map (rv φ))
structure GdR (b : Bool) (r : Row) : Prop where
  ok : OkL b r
  gd : Gd b 3 (oneT r)
  f : stripF (stdO r.f) = bareR r
  c : ∀ p ∈ r.c, stripF (stdO p.1) = bareF p.1.t
theorem GdR.row (b : Bool) (d e f : Int) : GdR b (rowD b d e f) := by
  refine ⟨OkL.row b d e f, Gd.row b d e f, ?_, ?_⟩
  · show stripF (stdO (fnD d)) = bareF (fnD d).t
    rw [std_eq, strip_bare]
  · intro p hp
    simp only [rowD, List.mem_cons, List.not_mem_nil, or_false] at hp
    rcases hp with rfl | rfl
    · show stripF (stdO (fnD e)) = bareF (fnD e).t
      rw [std_eq, strip_bare]
    · show stripF (stdO (fnD f)) = bareF (fnD f).t
      rw [std_eq, strip_bare]

/-- φ' is φ behind the gathering -/
structure Nice (b : Bool) (φ φ' : Str → Ent → Os) : Prop where
  a : AddF φ
  a' : AddF φ'
  gat : ∀ t : Tbl, (∀ p ∈ t, OkE b p.2) → lin φ (gatT stripF t) = lin φ' t
  one : ∀ r, GdR b r → lin φ' (oneT r) = rv φ r
  idem : ∀ r, GdR b r → rv φ' r = rv φ r

theorem strip_strip (x : Str) : stripF (bareF x) = bareF x := by rw [strip_bare, bare_bare]
theorem nice4 (b : Bool) (P : Str → Bool) : Nice b (f4 P) (f4 fun x => P (stripF x)) where
  a := f4_add P
  a' := f4_add _
  gat := fun t h => f4_gat P stripF h
  one := fun r h => by
    have e : lin (f4 fun x => P (stripF x)) (oneT r) = f4 (fun x => P (stripF x)) (stdO r.f) (r.s, oneC r.c) := oadd_none _
    rw [e]
    show f4 P (stripF (stdO r.f)) (r.s, oneC r.c) = f4 P (bareR r) (r.s, rawC r)
    rw [h.f]; rfl
  idem := fun r h => by
    show f4 P (stripF (bareR r)) (r.s, rawC r) = f4 P (bareR r) (r.s, rawC r)
    rw [show stripF (bareR r) = bareR r from strip_strip _]
theorem psum_oneC {r : Row} (Q : Str → Bool) (h : ∀ p ∈ r.c, stripF (stdO p.1) = bareF p.1.t) : psum (fun x => Q (stripF x)) (oneC r.c) = psum Q (rawC r) := by
  rw [oneC_eq, psum_gatC, ← psum_map]
  unfold rawC psum lin
  rw [List.map_map, List.map_map, List.map_map]
  congr 1
  apply List.map_congr_left
  intro p hp
  show fQ Q (stripF (stdO p.1)) p.2 = fQ Q (bareF p.1.t) p.2
  rw [h p hp]
theorem niceC (b : Bool) (P Q : Str → Bool) : Nice b (fC P Q) (fC (fun x => P (stripF x)) fun x => Q (stripF x)) where
  a := fC_add P Q
  a' := fC_add _ _
  gat := fun t h => fC_gat P Q stripF h
  one := fun r h => by
    have e : lin (fC (fun x => P (stripF x)) fun x => Q (stripF x)) (oneT r) = fC (fun x => P (stripF x)) (fun x => Q (stripF x)) (stdO r.f) (r.s, oneC r.c) := oadd_none _
    rw [e]
    show fC P (fun x => Q (stripF x)) (stripF (stdO r.f)) (r.s, oneC r.c) = fC P Q (bareR r) (r.s, rawC r)
    rw [h.f]
    unfold fC
    split
    · exact psum_oneC Q h.c
    · rfl
  idem := fun r h => by
    show fC P (fun x => Q (stripF x)) (stripF (bareR r)) (r.s, rawC r) = fC P Q (bareR r) (r.s, rawC r)
    rw [show stripF (bareR r) = bareR r from strip_strip _]
    unfold fC
    split
    · unfold rawC psum lin
      rw [List.map_map, List.map_map]
      congr 1
      apply List.map_congr_left
      intro p hp
      show fQ Q (stripF (bareF p.1.t)) p.2 = fQ Q (bareF p.1.t) p.2
      rw [strip_strip]
    · rfl

section
variable {b : Bool} {φ φ' φ'' : Str → Ent → Os} {run : List Row}
theorem told0_lin (N : Nice b φ φ') (h : ∀ r ∈ run, GdR b r) : lin φ (told0 run) = rvs φ run := by
  unfold told0 sing
  rw [lin_join (b := b) N.a]
  · rw [List.map_map, List.map_map]
    unfold rvs
    congr 1
    apply List.map_congr_left
    intro r hr
    show lin φ (gatT stripF (oneT r)) = _
    rw [N.gat _ (h r hr).gd.ok.ok, N.one r (h r hr)]
  · intro t ht
    rw [List.map_map] at ht
    obtain ⟨r, hr, rfl⟩ := List.mem_map.mp ht
    exact ((h r hr).gd.gat Sh.strip).ok
theorem part_lin (N : Nice b φ φ') (h : ∀ r ∈ run, GdR b r) : lin φ (gatT stripF (joinT (run.map oneT))) = rvs φ run := by
  have hok : ∀ t ∈ run.map oneT, Gd b 3 t := by
    intro t ht
    obtain ⟨r, hr, rfl⟩ := List.mem_map.mp ht
    exact (h r hr).gd
  rw [N.gat _ (Gd.join hok).ok.ok, lin_join (b := b) N.a' fun t ht => (hok t ht).ok, List.map_map]
  unfold rvs
  congr 1
  apply List.map_congr_left
  intro r hr
  exact N.one r (h r hr)
theorem part_ok (h : ∀ r ∈ run, GdR b r) : OkT b (gatT stripF (joinT (run.map oneT))) := by
  have hok : ∀ t ∈ run.map oneT, Gd b 3 t := by
    intro t ht
    obtain ⟨r, hr, rfl⟩ := List.mem_map.mp ht
    exact (h r hr).gd
  exact ((Gd.join hok).gat Sh.strip).ok
theorem parts_eq (run : List Row) (m : Nat) : partsL run m = [gatT stripF (joinT ((run.take m).map oneT)), gatT stripF (joinT ((run.drop m).map oneT))] := by
  unfold partsL sing; rw [List.map_take, List.map_drop]; rfl
theorem parts_ok (h : ∀ r ∈ run, GdR b r) (m : Nat) : ∀ t ∈ partsL run m, OkT b t := by
  rw [parts_eq]
  intro t ht
  simp only [List.mem_cons, List.not_mem_nil, or_false] at ht
  rcases ht with rfl | rfl
  · exact part_ok fun r hr => h r (List.mem_of_mem_take hr)
  · exact part_ok fun r hr => h r (List.mem_of_mem_drop hr)
theorem toldC_lin (N : Nice b φ φ') (h : ∀ r ∈ run, GdR b r) (m : Nat) : lin φ (toldC run m) = rvs φ run := by
  unfold toldC
  rw [lin_join (b := b) N.a (parts_ok h m), parts_eq]
  show oadd (lin φ _) (oadd (lin φ _) none) = _
  rw [oadd_none, part_lin N fun r hr => h r (List.mem_of_mem_take hr), part_lin N fun r hr => h r (List.mem_of_mem_drop hr)]
  unfold rvs
  rw [← osum_append, ← List.map_append, List.take_append_drop]
theorem told0_ok (h : ∀ r ∈ run, GdR b r) : OkT b (told0 run) := by
  unfold told0 sing
  refine (Gd.join (n := 3) ?_).ok
  intro t ht
  rw [List.map_map] at ht
  obtain ⟨r, hr, rfl⟩ := List.mem_map.mp ht
  exact (h r hr).gd.gat Sh.strip
theorem toldC_ok (h : ∀ r ∈ run, GdR b r) (m : Nat) : OkT b (toldC run m) := by
  have : ∀ (ts : List Tbl) (acc : Tbl), OkT b acc → (∀ t ∈ ts, OkT b t) → OkT b (ts.foldl putAll acc) := by
    intro ts
    induction ts with
    | nil => intro acc h _; exact h
    | cons t ts ih => intro acc h hs; exact ih _ (putAll_ok h (hs t List.mem_cons_self).ok) fun u hu => hs u (List.mem_cons_of_mem _ hu)
  exact this _ [] .nil (parts_ok h m)
theorem gat_ok {t : Tbl} (h : OkT b t) : OkT b (gatT stripF t) := by
  have : ∀ (t acc : Tbl), OkT b acc → (∀ p ∈ t, OkE b p.2) → OkT b (t.foldl (fun acc p => putE acc (stripF p.1) (p.2.1, gatC stripF p.2.2)) acc) := by
    intro t
    induction t with
    | nil => intro acc h _; exact h
    | cons p t ih => intro acc h hs; exact ih _ (h.put (gatE_ok (hs p List.mem_cons_self))) fun u hu => hs u (List.mem_cons_of_mem _ hu)
  exact this t [] .nil h.ok
theorem told3_lin (N : Nice b φ φ') (N' : Nice b φ' φ'') (h : ∀ r ∈ run, GdR b r) : lin φ (gatT stripF (told0 run)) = rvs φ run := by
  rw [N.gat _ (told0_ok h).ok, told0_lin N' h]
  unfold rvs
  congr 1
  apply List.map_congr_left
  intro r hr
  exact N.idem r (h r hr)

/-! ## the order -/
theorem part_keys (h : ∀ r ∈ run, GdR b r) : keys (gatT stripF (joinT (run.map oneT))) = addF [] (run.map bareR) := by
  rw [keys_gat, keys_join, addF_map, List.flatMap_map]
  congr 1
  have : ∀ run : List Row, (∀ r ∈ run, GdR b r) → (run.flatMap fun r => keys (oneT r)).map stripF = run.map bareR := by
    intro run
    induction run with
    | nil => intro _; rfl
    | cons r run ih =>
      intro h
      rw [List.flatMap_cons, List.map_append, ih fun q hq => h q (List.mem_cons_of_mem _ hq), List.map_cons, ← (h r List.mem_cons_self).f]
      rfl
  exact this run h
theorem toldC_keys (h : ∀ r ∈ run, GdR b r) (m : Nat) : keys (toldC run m) = addF [] (run.map bareR) := by
  unfold toldC
  rw [keys_join, parts_eq]
  show addF [] (keys _ ++ (keys _ ++ [])) = _
  rw [List.append_nil, part_keys fun r hr => h r (List.mem_of_mem_take hr), part_keys fun r hr => h r (List.mem_of_mem_drop hr), addF_append, addF_idem, addF_idem, ← addF_append, ← List.map_append, List.take_append_drop]
theorem told0_keys (h : ∀ r ∈ run, GdR b r) : keys (told0 run) = addF [] (run.map bareR) := by
  unfold told0 sing
  rw [keys_join, List.map_map, List.flatMap_map]
  congr 1
  have : ∀ run : List Row, (∀ r ∈ run, GdR b r) → (run.flatMap fun r => keys ((gatT stripF ∘ oneT) r)) = run.map bareR := by
    intro run
    induction run with
    | nil => intro _; rfl
    | cons r run ih =>
      intro h
      rw [List.flatMap_cons, ih fun q hq => h q (List.mem_cons_of_mem _ hq), List.map_cons]
      have e : keys ((gatT stripF ∘ oneT) r) = [bareR r] := by
        show keys (gatT stripF (oneT r)) = _
        rw [keys_gat, ← (h r List.mem_cons_self).f]; rfl
      rw [e]; rfl
  exact this run h
theorem told3_keys (h : ∀ r ∈ run, GdR b r) : keys (gatT stripF (told0 run)) = addF [] (run.map bareR) := by
  rw [keys_gat, told0_keys h, addF_map, List.map_map]
  congr 1
  apply List.map_congr_left
  intro r hr
  exact strip_strip _
end

/-- a table that tells the run -/
structure IsT (b : Bool) (run : List Row) (t : Tbl) : Prop where
  ok : OkT b t
  ks : keys t = addF [] (run.map bareR)
  v4 : ∀ P, lin (f4 P) t = rvs (f4 P) run
  vC : ∀ P Q, lin (fC P Q) t = rvs (fC P Q) run
theorem told_isT {b : Bool} {run : List Row} (h : ∀ r ∈ run, GdR b r) (m : Nat) : ∀ t ∈ toldL run m, IsT b run t := by
  intro t ht
  simp only [toldL, List.mem_cons, List.not_mem_nil, or_false] at ht
  rcases ht with rfl | rfl | rfl | rfl
  · exact ⟨told0_ok h, told0_keys h, fun P => told0_lin (nice4 b P) h, fun P Q => told0_lin (niceC b P Q) h⟩
  · exact ⟨toldC_ok h _, toldC_keys h _, fun P => toldC_lin (nice4 b P) h _, fun P Q => toldC_lin (niceC b P Q) h _⟩
  · exact ⟨toldC_ok h _, toldC_keys h _, fun P => toldC_lin (nice4 b P) h _, fun P Q => toldC_lin (niceC b P Q) h _⟩
  · exact ⟨gat_ok (told0_ok h), told3_keys h, fun P => told3_lin (nice4 b P) (nice4 b _) h, fun P Q => told3_lin (niceC b P Q) (niceC b _ _) h⟩
end Mine
end

section
set_option linter.unusedVariables false
set_option maxRecDepth 100000
set_option maxHeartbeats 4000000
namespace Mine

/-! ## sums by a filter -/
theorem osum_filter {α : Type} (p : α → Bool) (g : α → Os) : ∀ l : List α, osum (l.map fun a => if p a = true then g a else none) = osum ((l.filter p).map g)
  | [] => rfl
  | a :: l => by
    rw [List.map_cons, osum_cons, osum_filter p g l, List.filter_cons]
    cases h : p a with
    | true => simp only [if_true]; rfl
    | false => simp only [Bool.false_eq_true, if_false]; rfl
theorem osum_foldz : ∀ (ls : List (List Int)) (l : List Int), oadd (some l) (osum (ls.map some)) = some (ls.foldl zadd l)
  | [], l => rfl
  | x :: ls, l => by
    rw [List.map_cons, osum_cons, ← oadd_assoc, List.foldl_cons]
    exact osum_foldz ls (zadd l x)
theorem osum_tot {ls : List (List Int)} (h : ls ≠ []) : osum (ls.map some) = some (tot ls) := by
  cases ls with
  | nil => exact absurd rfl h
  | cons l ls => exact osum_foldz ls l

/-! ## the ledger -/
theorem mineL_ne {run : List Row} {k : Str} (h : k ∈ run.map bareR) : mineL run k ≠ [] := by
  obtain ⟨r, hr, rfl⟩ := List.mem_map.mp h
  intro e
  have : r ∈ mineL run (bareR r) := List.mem_filter.mpr ⟨hr, by simp⟩
  rw [e] at this; cases this
theorem rvs4 {run : List Row} {k : Str} (h : k ∈ run.map bareR) : rvs (f4 fun x => x == k) run = some (tot ((mineL run k).map (·.s))) := by
  have e : rvs (f4 fun x => x == k) run = osum ((mineL run k).map fun r => some r.s) := osum_filter (fun r => bareR r == k) (fun r => some r.s) run
  rw [e, ← osum_tot (by simpa using mineL_ne h), List.map_map]
  rfl
theorem callsL_sum (Q : Str → Bool) : ∀ rs : List Row, osum (rs.map fun r => psum Q (rawC r)) = psum Q (callsL rs)
  | [] => rfl
  | r :: rs => by
    have e : callsL (r :: rs) = rawC r ++ callsL rs := by unfold callsL rawC; rw [List.flatMap_cons, List.map_append]
    rw [List.map_cons, osum_cons, callsL_sum Q rs, e]
    exact (lin_append _ _).symm
theorem rvsC {run : List Row} {k : Str} (Q : Str → Bool) : rvs (fC (fun x => x == k) Q) run = psum Q (callsL (mineL run k)) := by
  rw [← callsL_sum]
  exact osum_filter (fun r => bareR r == k) (fun r => psum Q (rawC r)) run

theorem led_go (cs : Calls) : ∀ (l acc : Calls), (keys acc).Nodup → (∀ p ∈ acc, p.2 = tot (oneL cs p.1)) →
    (keys (l.foldl (fun acc p => ups (fun _ v => v) acc p.1 (tot (oneL cs p.1))) acc)).Nodup ∧ (∀ p ∈ l.foldl (fun acc p => ups (fun _ v => v) acc p.1 (tot (oneL cs p.1))) acc, p.2 = tot (oneL cs p.1)) ∧
    keys (l.foldl (fun acc p => ups (fun _ v => v) acc p.1 (tot (oneL cs p.1))) acc) = addF (keys acc) (keys l)
  | [], acc, h, h2 => ⟨h, h2, rfl⟩
  | p :: l, acc, h, h2 => by
    obtain ⟨g1, g2, g3⟩ := led_go cs l (ups (fun _ v => v) acc p.1 (tot (oneL cs p.1))) (nodup_ups h) (by
      intro q hq
      unfold ups at hq
      split at hq
      · obtain ⟨q', hq', rfl⟩ := List.mem_map.mp hq
        split
        · rename_i e; rw [e]
        · exact h2 q' hq'
      · rcases List.mem_append.mp hq with hq | hq
        · exact h2 q hq
        · simp at hq; subst hq; rfl)
    refine ⟨g1, g2, ?_⟩
    rw [List.foldl_cons, g3, keys_ups]; rfl
theorem ledC_nodup (cs : Calls) : (keys (ledC cs)).Nodup := (led_go cs cs [] .nil (fun _ h => (nomatch h))).1
theorem ledC_get (cs : Calls) (j : Str) : get (ledC cs) j = psum (fun x => x == j) cs := by
  obtain ⟨h1, h2, h3⟩ := led_go cs cs [] .nil (fun _ h => (nomatch h))
  have e : psum (fun x => x == j) cs = osum ((oneL cs j).map some) := by
    unfold oneL
    rw [List.map_map]
    exact osum_filter (fun p : Str × List Int => p.1 == j) (fun p => some p.2) cs
  rw [e]
  by_cases hj : j ∈ keys cs
  · have hm : j ∈ keys (ledC cs) := by
      show j ∈ keys (cs.foldl _ [])
      rw [h3]; exact mem_addF.mpr (.inr hj)
    obtain ⟨p, hp, rfl⟩ := List.mem_map.mp hm
    rw [get_of_mem (t := ledC cs) (m := p.2) h1 hp, h2 p hp]
    obtain ⟨q, hq, e⟩ := List.mem_map.mp hj
    rw [osum_tot (by rw [← e]; exact oneL_ne hq)]
  · have hm : j ∉ keys (ledC cs) := by
      show j ∉ keys (cs.foldl _ [])
      rw [h3, mem_addF]; rintro (h | h)
      · cases h
      · exact hj h
    rw [get_none.mpr hm]
    have : oneL cs j = [] := by
      unfold oneL
      rw [List.map_eq_nil_iff, List.filter_eq_nil_iff]
      intro p hp q
      have q' : p.1 = j := by simpa using q
      exact hj (by rw [← q']; exact List.mem_map.mpr ⟨p, hp, rfl⟩)
    rw [this]; rfl

theorem ledT_go (run : List Row) : ∀ j, j ≤ run.length → (List.range j).foldl (ledStep run) [] = (addF [] ((run.map bareR).take j)).map fun k => (k, ledE run k)
  | 0, _ => rfl
  | j + 1, h => by
    have hl : j < (run.map bareR).length := by rw [List.length_map]; omega
    rw [List.range_succ, List.foldl_append, ledT_go run j (by omega)]
    have e : (run.map bareR).take (j + 1) = (run.map bareR).take j ++ [(run.map bareR)[j]] := List.take_succ_eq_append_getElem hl
    have e2 : (run.map bareR).getD j "" = (run.map bareR)[j] := by rw [List.getD_eq_getElem?_getD, List.getElem?_eq_getElem hl]; rfl
    rw [e, addF_append]
    show ledStep run _ j = (stepF _ _).map _
    unfold ledStep stepF
    rw [e2]
    generalize (run.map bareR)[j] = kb
    generalize (run.map bareR).take j = bs
    by_cases hk : kb ∈ bs
    · rw [if_neg (by simp [hk]), if_pos (mem_addF.mpr (.inr hk))]
    · rw [if_pos (by simp [hk]), if_neg (by rw [mem_addF]; simp [hk]), List.map_append]; rfl
theorem ledT_eq (run : List Row) : ledT run = (addF [] (run.map bareR)).map fun k => (k, ledE run k) := by
  unfold ledT
  rw [ledT_go run run.length (Nat.le_refl _), List.take_of_length_le (by simp)]
theorem ledT_keys (run : List Row) : keys (ledT run) = addF [] (run.map bareR) := by
  rw [ledT_eq]; unfold keys; rw [List.map_map]; exact List.map_id _
theorem ledT_mem {run : List Row} {q : Str × Ent} (h : q ∈ ledT run) : q.1 ∈ run.map bareR ∧ q.2 = ledE run q.1 := by
  rw [ledT_eq] at h
  obtain ⟨k, hk, rfl⟩ := List.mem_map.mp h
  refine ⟨?_, rfl⟩
  simpa [mem_addF] using hk

/-! ## two tables of calls with the same contents -/
theorem get_cons (p : Str × List Int) (t : Calls) (j : Str) : get (p :: t) j = if p.1 = j then some p.2 else get t j := by
  unfold get
  rw [List.find?_cons]
  by_cases h : p.1 = j <;> simp [h]
theorem get_append (a c : Calls) (j : Str) : get (a ++ c) j = (get a j).or (get c j) := by
  induction a with
  | nil => rfl
  | cons p a ih =>
    rw [List.cons_append, get_cons, get_cons, ih]
    split <;> rfl
theorem perm_of : ∀ {c c' : Calls}, (keys c).Nodup → (keys c').Nodup → (∀ j, get c j = get c' j) → c.Perm c'
  | [], c', _, _, h => by
    cases c' with
    | nil => exact .nil
    | cons p c' => have := h p.1; rw [get_cons, if_pos rfl] at this; cases this
  | p :: c, c', hn, hn', h => by
    have hp : get c' p.1 = some p.2 := by rw [← h, get_cons, if_pos rfl]
    obtain ⟨a, d, rfl⟩ := List.append_of_mem (get_mem hp)
    have hn2 : p.1 ∉ keys c ∧ (keys c).Nodup := by simpa [keys, List.nodup_cons] using hn
    have hpm : (a ++ (p.1, p.2) :: d).Perm (p :: (a ++ d)) := List.perm_middle
    have hn3 : (keys (p :: (a ++ d))).Nodup := (hpm.map (·.1)).nodup hn'
    have hn4 : p.1 ∉ keys (a ++ d) ∧ (keys (a ++ d)).Nodup := by
      unfold keys at hn3 ⊢
      rw [List.map_cons, List.nodup_cons] at hn3
      exact hn3
    refine .trans (.cons p (perm_of hn2.2 hn4.2 fun j => ?_)) hpm.symm
    by_cases hj : p.1 = j
    · subst hj
      rw [get_none.mpr hn2.1, get_none.mpr hn4.1]
    · have := h j
      rw [get_cons, if_neg hj, get_append, get_cons, if_neg hj, ← get_append] at this
      exact this
theorem perm_sum {l l' : List Int} (h : l.Perm l') : l.sum = l'.sum := by
  induction h with
  | nil => rfl
  | cons x _ ih => rw [List.sum_cons, List.sum_cons, ih]
  | swap x y l => simp only [List.sum_cons]; omega
  | trans _ _ ih1 ih2 => rw [ih1, ih2]
theorem foldl_sum : ∀ (l : List Int) (a : Int), l.foldl (· + ·) a = a + l.sum
  | [], a => by simp
  | x :: l, a => by rw [List.foldl_cons, foldl_sum l, List.sum_cons]; omega

/-! ## a table that tells the run is the ledger -/
section
variable {b : Bool} {run : List Row} {t : Tbl}
theorem IsT.four (T : IsT b run t) {p q : Str × Ent} (hp : p ∈ t) (hq : q ∈ ledT run) (e : p.1 = q.1) : p.2.1 = q.2.1 := by
  obtain ⟨hk, he⟩ := ledT_mem hq
  have h1 : lin (f4 fun x => x == p.1) t = some p.2.1 := lin_get (f := fun e : Ent => some e.1) (k := p.1) (m := p.2) T.ok.nd hp
  rw [T.v4, rvs4 (by rw [e]; exact hk)] at h1
  rw [he, ← e]
  exact (Option.some.inj h1).symm
theorem IsT.calls (T : IsT b run t) {p q : Str × Ent} (hp : p ∈ t) (hq : q ∈ ledT run) (e : p.1 = q.1) : p.2.2.Perm q.2.2 ∧ (keys q.2.2).Nodup := by
  obtain ⟨hk, he⟩ := ledT_mem hq
  have hn := (T.ok.ok p hp).nd
  have h1 : ∀ Q, lin (fC (fun x => x == p.1) Q) t = psum Q p.2.2 := fun Q => lin_get (f := fun e : Ent => psum Q e.2) (k := p.1) (m := p.2) T.ok.nd hp
  have h2 : ∀ j, get p.2.2 j = get q.2.2 j := fun j => by
    rw [← psum_get hn, ← h1, T.vC, rvsC, he, ← e]
    exact (ledC_get _ j).symm
  have hq2 : (keys q.2.2).Nodup := by rw [he]; exact ledC_nodup _
  exact ⟨perm_of hn hq2 h2, hq2⟩
theorem map_tab {γ : Type} {f g : Str × Ent → γ} : ∀ {t u : Tbl}, keys t = keys u → (∀ p ∈ t, ∀ q ∈ u, p.1 = q.1 → f p = g q) → t.map f = u.map g
  | [], [], _, _ => rfl
  | [], q :: u, h, _ => by cases h
  | p :: t, [], h, _ => by cases h
  | p :: t, q :: u, h, hf => by
    simp only [keys, List.map_cons, List.cons.injEq] at h
    rw [List.map_cons, List.map_cons, hf p List.mem_cons_self q List.mem_cons_self h.1, map_tab h.2 fun p' hp' q' hq' => hf p' (List.mem_cons_of_mem _ hp') q' (List.mem_cons_of_mem _ hq')]
theorem deqs_tab {n : Nat} {f g : Str × Ent → D} : ∀ {t u : Tbl}, keys t = keys u → (∀ p ∈ t, ∀ q ∈ u, p.1 = q.1 → DEq n (f p) (g q)) → DEqs n (t.map f) (u.map g)
  | [], [], _, _ => .nil n
  | [], q :: u, h, _ => by cases h
  | p :: t, [], h, _ => by cases h
  | p :: t, q :: u, h, hf => by
    simp only [keys, List.map_cons, List.cons.injEq] at h
    exact .cons (hf p List.mem_cons_self q List.mem_cons_self h.1) (deqs_tab h.2 fun p' hp' q' hq' => hf p' (List.mem_cons_of_mem _ hp') q' (List.mem_cons_of_mem _ hq'))
theorem deqs_append {n : Nat} : ∀ {a a' c c' : List D}, DEqs n a a' → DEqs n c c' → DEqs n (a ++ c) (a' ++ c')
  | _, _, _, _, .nil _, h => h
  | _, _, _, _, .cons x xs, h => .cons x (deqs_append xs h)
theorem flt_encV (b : Bool) (v : List Int) : Flt (encV b v) := by
  cases b with
  | true => exact .tuple v
  | false => exact .int _
theorem IsT.deqs (T : IsT b run t) : DEqs 20 (t.map (encI b)) ((ledT run).map (encI b)) := by
  refine deqs_tab (by rw [T.ks, ledT_keys]) fun p hp q hq e => ?_
  obtain ⟨hpm, hnd⟩ := T.calls hp hq e
  have h4 := T.four hp hq e
  unfold encI encE
  rw [e, h4]
  refine .tuple (.cons (.str _ _) (.cons (.tuple (deqs_append (DEqs.ints _ _) (.cons ?_ (.nil _)))) (.nil _)))
  refine .dict (n := 15) (by simp [encTb, hpm.length_eq]) fun k d hd => ?_
  obtain ⟨r, hr, hrd⟩ := List.mem_map.mp hd
  injection hrd with hk hv
  refine ⟨?_, by rw [← hv]; exact flt_encV _ _⟩
  rw [dget_enc, ← hk, get_of_mem hnd (m := r.2) (hpm.mem_iff.mp hr), ← hv]
  rfl
theorem IsT.cnt (T : IsT b run t) : t.map (fun p => (p.2.2.map (·.2.headD 0)).foldl (· + ·) 0) = (ledT run).map fun p => (p.2.2.map (·.2.headD 0)).sum := by
  refine map_tab (by rw [T.ks, ledT_keys]) fun p hp q hq e => ?_
  rw [foldl_sum, Int.zero_add]
  exact perm_sum ((T.calls hp hq e).1.map _)
end
theorem owed {b : Bool} {run : List Row} (h : ∀ r ∈ run, GdR b r) (h4 : run.length = 4) (m : Nat) : Owed b run m where
  eq := fun t ht => (told_isT h m t ht).deqs
  four := fun p hp => by
    obtain ⟨hk, he⟩ := ledT_mem hp
    rw [he]
    refine (tot_spec (m := 4) (by simpa using mineL_ne hk) ?_).1
    intro l hl
    obtain ⟨r, hr, rfl⟩ := List.mem_map.mp hl
    exact (h r (List.mem_filter.mp hr).1).ok.ok.s
  cnt := fun _ => (told_isT h m (told0 run) (by simp [toldL])).cnt
  len := by
    rw [ledT_eq, List.length_map]
    have := len_addF (l := run.map bareR) (acc := [])
    simp [h4] at this
    exact this

/-- the law, of any script of at most 63 numbers -/
theorem cal_law_all {X : Wd} (W : Wok X) {k : Nat} {ns : List Int} (hl : ns.length ≤ 63) : Cal X (k + 4) "law" [.list (ns.map D.int)] (.bool true) :=
  cal_law W hl (owed (fun r hr => by obtain ⟨d, e, f, rfl⟩ := runD_mem hr; exact GdR.row _ _ _ _) rfl _)
end Mine
end

section
set_option linter.unusedVariables false
set_option maxRecDepth 100000
set_option maxHeartbeats 4000000
namespace Mine

/-! ## the join with the head -/
theorem ints_of {R : WRecords} : ∀ {xs : List WData}, WShape.hasItems R xs .int = true → ∃ ns : List Int, xs = ns.map WData.int
  | [], _ => ⟨[], rfl⟩
  | x :: xs, h => by
    have h1 := hasItemsW_at h x List.mem_cons_self
    obtain ⟨i, rfl⟩ := hasW_int h1
    obtain ⟨ns, rfl⟩ := ints_of (R := R) (xs := xs) (by simp only [WShape.hasItems, Bool.and_eq_true] at h; exact h.2)
    exact ⟨i :: ns, rfl⟩
theorem args_of {args : List WData} (h : PySem.Challenge.rw_mr0085_01.row.toRowW.claim.pre args = true) : ∃ ns : List Int, args = [.list (ns.map WData.int)] ∧ ns.length ≤ 63 := by
  obtain ⟨h1, h2⟩ := pre_splitW h
  obtain ⟨d, r, rfl, h3, h4⟩ := hasAllW_cons h1
  obtain rfl := hasAllW_nil h4
  obtain ⟨xs, rfl, h5⟩ := hasW_list h3
  obtain ⟨ns, rfl⟩ := ints_of h5
  refine ⟨ns, rfl, ?_⟩
  have e : PySem.Challenge.rw_mr0085_01.row.toRowW.pre = .and (.not (.lt (.lit (.int 63)) (.len (.arg 0)))) (.lit (.bool true)) := rfl
  rw [e] at h2
  cases Nat.decLe ns.length 63 with
  | isTrue h => exact h
  | isFalse hn =>
    exfalso
    have h6 : (63 : Int) < ((ns.map WData.int).length : Nat) := by rw [List.length_map]; omega
    simp [WTm.holds, WTm.value, less?, Num.less?] at h2
    rw [decide_eq_true (show (63 : Int) < (ns.length : Nat) by omega)] at h2
    cases h2
theorem rel_ints {X : Wd} {G : Fz} {P : Params} {h : Heap} : ∀ {vs : List Value} {ns : List Int}, WellAll P h vs (ns.map WData.int) → RelAll X G vs (ns.map D.int)
  | [], [], _ => .nil
  | v :: vs, [], h => by cases h
  | [], n :: ns, h => by cases h
  | v :: vs, n :: ns, h => by
    cases h with
    | cons h1 h2 =>
      cases h1 with
      | int _ t => exact .cons (.int n t) (rel_ints h2)
theorem oldK_of {X : Wd} {h h' : Heap} (hc : ∀ c P, X.ct c P → isCodeTable h P) (k : Kp X h h') : OldK h h' := by
  refine ⟨fun b o e => ?_, fun b o e => k.some e⟩
  by_cases t : Tab o
  · obtain ⟨o', e', t', g⟩ := k.tab b o e t
    rcases g with rfl | ⟨⟨c, hcc⟩, ps, more, rfl, rfl⟩
    · exact .inl e'
    · exact .inr (.inl ⟨hc c b hcc, rfl, ps, more, rfl, e'⟩)
  · exact .inl (k.get b o e t)

noncomputable abbrev bnames : List String := ["sum", "len", "isinstance", "range", "str", "tuple", "list", "zip"]
theorem boots : ∀ f ∈ ["sum", "len", "isinstance"], bootBuiltins (Str.ofString f) = some (.builtin f) := by decide +kernel
theorem bootsT : ∀ f ∈ ["range", "str", "tuple", "list", "zip"], bootBuiltins (Str.ofString f) = some (.type f) := by decide +kernel

theorem walk_of {q : Program} {XP : (Str → Option Value) → Heap → Prop} {YP : World → Heap → Prop} {d : DefRec} (hd : d.name = "law")
    (hrecs : recsOf q = [1, 2, 3, 4, 6, 8, 9, 10, 11, 12, 13, 14, 15, 16].map recAt)
    (hfree : ∀ f ∈ bnames, Str.ofString f ∉ startupNames ∧ Str.ofString f ∉ looseW q [] ∧ Str.ofString f ∉ (recsOf q).map (·.name) ∧ Str.ofString f ∉ (litsOf q).map (·.1) ∧ Str.ofString f ∉ (clssOf q (looseW q [])).map (·.name)) :
    WalkO q [] XP YP PySem.Challenge.rw_mr0085_01.row.toRowW d [] fun f vs => PySem.call f vs := by
  intro w s₀ s₁ mg mb Gd Y a o pm cd doc dV kV ho hod hcr hD hmg hg args vals as hpre hlay hrd hwl hlo
  have hrec : ∀ i ∈ [1, 2, 3, 4, 6, 8, 9, 10, 11, 12, 13, 14, 15, 16], recAt i ∈ recsOf q := fun i hi => by rw [hrecs]; exact List.mem_map_of_mem hi
  obtain ⟨ns, rfl, hns⟩ := args_of hpre
  have T := Gd.T
  let X : Wd := ⟨PySem.Challenge.rw_mr0085_01.row.toRowW.prog, w, q, looseW q [], ExcName.means s₀.heap, mg, mb, fun c P => s₁.heap.IsCode c P #[] ∧ s₁.heap.TableAt c P #[]⟩
  have TT : X.Tp s₁.heap := by
    refine ⟨T.g, T.b, T.nolimit, fun r hr => ?_, fun c P hc => ⟨#[], hc.1, hc.2⟩, T.bmain⟩
    obtain ⟨a, o, pm, code, doc, h1, h2, h3, h4⟩ := T.fn r hr
    obtain ⟨a', o', fd, c, P, k1, k2, k3, k4, k5, k6⟩ := T.tab r hr
    rw [h1] at k1; cases k1
    rw [h2] at k2; cases k2
    rw [h3] at k3; cases k3
    exact ⟨a, o, pm, code, doc, h1, h2, h3, h4, c, P, k4, k5, k6⟩
  have hmg0 : ∀ f ∈ bnames, mg (Str.ofString f) = none := fun f hf => by
    obtain ⟨f1, f2, f3, f4, f5⟩ := hfree f hf
    exact T.free _ f1 f2 f3 f4 f5
  have hne : ∀ f ∈ bnames, Str.ofString f ≠ "__name__" := by decide +kernel
  have W : Wok X := by
    refine ⟨hrec, fun f hf => ?_, fun f hf => ?_⟩
    · have hf' : f ∈ bnames := by simp at hf ⊢; rcases hf with rfl | rfl | rfl <;> simp
      exact ⟨hmg0 f hf', (T.builtins _ (hne f hf')).trans (boots f hf)⟩
    · have hf' : f ∈ bnames := by simp at hf ⊢; rcases hf with rfl | rfl | rfl | rfl | rfl <;> simp
      exact ⟨hmg0 f hf', (T.builtins _ (hne f hf')).trans (bootsT f hf)⟩
  obtain ⟨v, vs', rfl, hw1, hw2⟩ := wellAll_cons_inv hwl
  cases hw2
  cases hw1 with
  | @list l vs _ hl hvs =>
    let G : Fz := fun b => if b = l then some { cls := .type "list", data := .seq vs.toArray } else none
    have hG : G.In s₁.heap := by
      refine ⟨fun b o e => ?_, fun b o e => ?_⟩
      · by_cases hb : b = l
        · subst hb; simp [G] at e; subst e; exact hl
        · simp [G, hb] at e
      · by_cases hb : b = l
        · subst hb; simp [G] at e; subst e; exact nt_cls rfl
        · simp [G, hb] at e
    have hrel : RelAll X G [.ref l] [.list (ns.map D.int)] := .one (.list (by simp [G]) ⟨0, rfl⟩ (rel_ints hvs))
    have hC := cal_law_all W (k := 0) hns
    have hrun := hC.2 a (by rw [← hd]; exact hmg) callerA G s₁ [.ref l] ⟨rfl, by decide, by decide⟩ TT hG hrel
    refine wpAny_mono (hrun (fun v s' => GoodWG PySem.Challenge.rw_mr0085_01.row.toRowW.claim (classAt s₀.heap) (ExcName.means s₀.heap) [.list (ns.map WData.int)] s₁ (.ok (.ret v)) s') fun v s' G' st g r => ?_) (fun _ _ h => h) fun _ _ h => h.elim
    cases r
    refine ⟨.inl ⟨_, .bool true, [], rfl, fun cls => rfl, .bool true, ?_, fun _ => ⟨.nil, fun _ h => (nomatch h)⟩⟩, oldK_of (X := X) (fun c P h => (show s₁.heap.IsCode c P #[] ∧ s₁.heap.TableAt c P #[] from h).2.isCodeTable) st.heap, st.os, st.gens (.of_eq hg)⟩
    exact postW_of (X := same (.bool true) (.bool true)) rfl (by rw [show PySem.Challenge.rw_mr0085_01.row.toRowW.post = .eq .res (.lit (.bool true)) from rfl]; simp [WTm.value]) (same_self _)
end Mine
end

set_option maxRecDepth 100000 in
set_option maxHeartbeats 8000000 in
theorem PySem.Challenge.cw_mr0085_01_holds : PySem.Challenge.rw_mr0085_01.Holds := by
  w_on; o_law; o_head Hook.none
  case hw => w_witness2
  exact Mine.walk_of rfl (by kernel_rfl) (by decide +kernel)
